import JvmDerived
import JvmDerived.Pilot.@@N@@Statement
import JvmDerived.Pilot.@@N@@Code
set_option linter.unusedVariables false
set_option linter.unusedSimpArgs false
namespace Jvm.Pilot.@@N@@
open Jvm Jvm.ClassFile Sem Op Lib Jvm.Free Jvm.Stand Jvm.LawKit Jvm.RoadKit Bundle Jvm.Pilot.@@N@@.Jvm.D
section OwnKit
variable {p : Program} {l : Launch} {e : Env} {R : Room} {s : State} {m : MethodId} {args : Array Value} {below : List Frame} {meth : Method} {c : Code} {T : State} {locs : List Loc} {cells slots : Nat} {Q : Option Value → Heap → List Loc → Prop} {F : Option Value → State → Prop} {KC KS : Nat} {bs : ByteArray} {pc pc' : Nat} {Ls l' : Array Slot} {st : List Value}
/-- from U the run comes to its end: it returns v, and F says what it leaves -/
def own_End (p : Program) (e : Env) (below : List Frame) (F : Option Value → State → Prop) (U : State) : Prop :=
  ∃ s₂ v, Steps p.tables e below U s₂ ∧ s₂.status = .running ∧ Ended s₂ below (.returned v) ∧ F v s₂
def own_F (s : State) (Q : Option Value → Heap → List Loc → Prop) (KC KS : Nat) : Option Value → State → Prop := fun v s₂ => ∃ L, Q v s₂.heap L ∧ FrameEnd s (.returned v) s₂ L KC KS
def own_FS (s : State) (Q : Option Value → Heap → List Loc → Prop) (KC KS : Nat) : Option Value → State → Prop := fun v s₂ => ∃ L, Q v s₂.heap L ∧ ReturnedEndW s (.returned v) s₂ L KC KS
theorem own_body {U : State} (h : own_End p e below (own_F s Q KC KS) U) : ∃ s₂ o, Steps p.tables e below U s₂ ∧ s₂.status = .running ∧ Ended s₂ below o ∧ ∃ v L, o = .returned v ∧ Q v s₂.heap L ∧ FrameEnd s o s₂ L KC KS := by
  obtain ⟨s2, v, h1, h2, h3, L, h4, h5⟩ := h
  exact ⟨s2, _, h1, h2, h3, v, L, rfl, h4, h5⟩
theorem own_bodyS {U : State} (h : own_End p e below (own_FS s Q KC KS) U) : ∃ s₂ o, Steps p.tables e below U s₂ ∧ s₂.status = .running ∧ Ended s₂ below o ∧ ∃ v L, o = .returned v ∧ Q v s₂.heap L ∧ ReturnedEndW s o s₂ L KC KS := by
  obtain ⟨s2, v, h1, h2, h3, L, h4, h5⟩ := h
  exact ⟨s2, _, h1, h2, h3, v, L, rfl, h4, h5⟩
theorem own_step {U U' : State} (k : ∀ t, Steps p.tables e below U' t → Steps p.tables e below U t) (h : own_End p e below F U') : own_End p e below F U := by
  obtain ⟨s2, v, h1, h2⟩ := h
  exact ⟨s2, v, k _ h1, h2⟩
theorem own_trans {U U' : State} (k : Steps p.tables e below U U') (h : own_End p e below F U') : own_End p e below F U := by
  obtain ⟨s2, v, h1, h2⟩ := h
  exact ⟨s2, v, k.trans h1, h2⟩
theorem own_mono {cells' slots' : Nat} (X : Stand p l e R s m args below meth c T locs cells slots) (hc : cells ≤ cells') (hs : slots ≤ slots') : Stand p l e R s m args below meth c T locs cells' slots' := X.mono hc hs
theorem own_selPriv {y : MethodName} {n : Nat} (wi : (Cond.instantiable y.cls n).before args s = true) (hp : s.PrivateAt y) (hi : (Cond.instanceMethod y).before args s = true) (hy : y.cls ≠ "java/lang/invoke/MethodHandle" ∧ y.cls ≠ "java/lang/invoke/VarHandle") : (Cond.selects y.cls y y).before args s = true := by
  obtain ⟨c, k, h1, h2, -, h4, -⟩ := Cond.instantiable_spec wi
  exact selects_self_of_private h1 h2 (by simp only [Bool.or_eq_false_iff] at h4; exact h4.1) hp hi hy
theorem own_sta0 {Z : State} {h h' : Heap} {C n d : String} {v : Value} (S : Sta Z h C n d v) (K : Keep h h' []) : Sta Z h' C n d v := by
  obtain ⟨cf, i, k, f, st, cell, h1, h2, h3, h4, h5, h6, h7⟩ := S
  exact ⟨cf, i, k, f, st, cell, h1, h2, h3, h4, K.2.1 _ _ h5 nin0, h6, h7⟩
theorem own_sta1 {Z : State} {h h' : Heap} {C n d D : String} {v : Value} {a : Addr} (S : Sta Z h C n d v) (K : Keep h h' [a]) (E : Exa Z h a D) : Sta Z h' C n d v := by
  obtain ⟨cf, i, k, f, st, cell, h1, h2, h3, h4, h5, h6, h7⟩ := S
  obtain ⟨c', k', g1, -, -, g4, -⟩ := E
  have ne : st ≠ a := fun q => by subst q; cases h5.symm.trans g1; rw [g4] at h6; cases h6
  exact ⟨cf, i, k, f, st, cell, h1, h2, h3, h4, K.2.1 _ _ h5 (ninS ne nin0), h6, h7⟩
theorem own_cat1 {w : Value} (h : w.isRef = true) : w.category = 1 := by rcases ref_cases h with rfl | ⟨z, rfl⟩ <;> rfl
theorem own_nar {w : Value} {t : FieldType} (h : w.isRef = true) (ht : t.isReference = true) : narrow t w = w := by rcases ref_cases h with rfl | ⟨z, rfl⟩ <;> cases t <;> first | rfl | cases ht
theorem own_fit {w : Value} {t : FieldType} (h : w.isRef = true) (ht : t.isReference = true) : fits t w = true := by rcases ref_cases h with rfl | ⟨z, rfl⟩ <;> cases t <;> first | rfl | cases ht
/-- what the frame says where the run leaves -/
def own_Lv (F : Option Value → State → Prop) (s T : State) (locs : List Loc) (cells slots : Nat) (v : Option Value) : Prop := ∀ fs, s.WarmedH (T.setFrames fs).vm → s.sameButNew ({ T.setFrames fs with vm := s.vm } : State) locs cells slots → F v (T.setFrames fs)
theorem own_lv {v : Option Value} (hQ : Q v T.heap locs) (hc : cells ≤ KC) (hs : slots ≤ KS) : own_Lv (own_F s Q KC KS) s T locs cells slots v := fun fs hW hsm => ⟨locs, hQ, ⟨_, rfl⟩, hW, hsm.mono hc hs⟩
theorem own_lvS {v : Option Value} {vm₁ : Vm} {n : Nat} (hS : s.Since vm₁ n) (hn : n ≤ T.heap.size) (hQ : Q v T.heap locs) (hc : cells ≤ KC) (hs : slots ≤ KS) : own_Lv (own_FS s Q KC KS) (s.setVm vm₁) T locs cells slots v := fun fs hW hsm => by
  obtain ⟨a, b, c'⟩ := hS.ended (U := T.setFrames fs) hW hn hsm
  exact ⟨locs, hQ, ⟨_, rfl⟩, a, b, c'.mono hc hs⟩
theorem own_retW (X : Stand p l e R s m args below meth c T locs cells slots) (hx : p.tables.exec = Jvm.exec) (hlk : meth.locks = false) (hby : c.code = bs) {w : Value} {t : FieldType} {i : Instr} {rest : List Value} (hret : meth.sig.returnType = some t) (hn : narrow t w = w)
    (hi : (i = .ireturn ∧ (t = .int ∨ t = .boolean ∨ t = .byte ∨ t = .char ∨ t = .short) ∧ ∃ z, w = .int z) ∨ (i = .lreturn ∧ t = .long ∧ ∃ z, w = .long z) ∨ (i = .dreturn ∧ t = .double ∧ ∃ z, w = .double z) ∨ (i = .freturn ∧ t = .float ∧ ∃ z, w = .float z) ∨ (i = .areturn ∧ t.isReference = true ∧ w.isRef = true))
    (hd : decode bs pc = .ok (i, 1)) (hF : own_Lv F s T locs cells slots (some w)) : own_End p e below F (T.setTop (mkF m pc Ls (w :: rest))) := by
  obtain ⟨fs, hr, hrun, hended, hW, hsame⟩ := X.leave (v := some w) (fun h => by rw [hret] at h; cases h) hlk
  exact ⟨_, _, retOut X hx hret hn hi (hb hby hd) hr, hrun, hended, hF fs hW hsame⟩
theorem own_ireturn (X : Stand p l e R s m args below meth c T locs cells slots) (hx : p.tables.exec = Jvm.exec) (hlk : meth.locks = false) (hby : c.code = bs) {z : Int32} {rest : List Value} (hret : meth.sig.returnType = some .int)
    (hd : decode bs pc = .ok (.ireturn, 1)) (hF : own_Lv F s T locs cells slots (some (.int z))) : own_End p e below F (T.setTop (mkF m pc Ls (.int z :: rest))) :=
  own_retW X hx hlk hby hret rfl (Or.inl ⟨rfl, Or.inl rfl, _, rfl⟩) hd hF
theorem own_zreturn (X : Stand p l e R s m args below meth c T locs cells slots) (hx : p.tables.exec = Jvm.exec) (hlk : meth.locks = false) (hby : c.code = bs) {z : Int32} {rest : List Value} (hret : meth.sig.returnType = some .boolean) (hz : z = 0 ∨ z = 1)
    (hd : decode bs pc = .ok (.ireturn, 1)) (hF : own_Lv F s T locs cells slots (some (.int z))) : own_End p e below F (T.setTop (mkF m pc Ls (.int z :: rest))) :=
  own_retW X hx hlk hby hret (by rcases hz with rfl | rfl <;> rfl) (Or.inl ⟨rfl, Or.inr (Or.inl rfl), _, rfl⟩) hd hF
theorem own_breturn (X : Stand p l e R s m args below meth c T locs cells slots) (hx : p.tables.exec = Jvm.exec) (hlk : meth.locks = false) (hby : c.code = bs) {z : Int32} {rest : List Value} (hret : meth.sig.returnType = some .byte) (hz : z.toInt8.toInt32 = z)
    (hd : decode bs pc = .ok (.ireturn, 1)) (hF : own_Lv F s T locs cells slots (some (.int z))) : own_End p e below F (T.setTop (mkF m pc Ls (.int z :: rest))) :=
  own_retW X hx hlk hby hret (show Value.int z.toInt8.toInt32 = .int z by rw [hz]) (Or.inl ⟨rfl, Or.inr (Or.inr (Or.inl rfl)), _, rfl⟩) hd hF
theorem own_lreturn (X : Stand p l e R s m args below meth c T locs cells slots) (hx : p.tables.exec = Jvm.exec) (hlk : meth.locks = false) (hby : c.code = bs) {z : Int64} {rest : List Value} (hret : meth.sig.returnType = some .long)
    (hd : decode bs pc = .ok (.lreturn, 1)) (hF : own_Lv F s T locs cells slots (some (.long z))) : own_End p e below F (T.setTop (mkF m pc Ls (.long z :: rest))) :=
  own_retW X hx hlk hby hret rfl (Or.inr (Or.inl ⟨rfl, rfl, _, rfl⟩)) hd hF
theorem own_areturn (X : Stand p l e R s m args below meth c T locs cells slots) (hx : p.tables.exec = Jvm.exec) (hlk : meth.locks = false) (hby : c.code = bs) {w : Value} {t : FieldType} {rest : List Value} (hret : meth.sig.returnType = some t) (ht : t.isReference = true) (hw : w.isRef = true)
    (hd : decode bs pc = .ok (.areturn, 1)) (hF : own_Lv F s T locs cells slots (some w)) : own_End p e below F (T.setTop (mkF m pc Ls (w :: rest))) :=
  own_retW X hx hlk hby hret (own_nar hw ht) (Or.inr (Or.inr (Or.inr (Or.inr ⟨rfl, ht, hw⟩)))) hd hF
theorem own_return (X : Stand p l e R s m args below meth c T locs cells slots) (hx : p.tables.exec = Jvm.exec) (hlk : meth.locks = false) (hby : c.code = bs) (hret : meth.sig.returnType = none)
    (hd : decode bs pc = .ok (.return_, 1)) (hF : own_Lv F s T locs cells slots none) : own_End p e below F (T.setTop (mkF m pc Ls [])) := by
  obtain ⟨fs, hr, hrun, hended, hW, hsame⟩ := X.leave (v := none) (fun _ => rfl) hlk
  exact ⟨_, _, X.returnOut hx hret (hb hby hd) hr, hrun, hended, hF fs hW hsame⟩
section Plain
theorem own_iload (X : Stand p l e R s m args below meth c T locs cells slots) (hx : p.tables.exec = Jvm.exec) (hby : c.code = bs) {k : Nat} {v : Int32} (hd : decode bs pc = .ok (.iload k, 2)) (hp : pc + 2 = pc') (hl : Ls[k]? = some (.val (.int v))) (h : own_End p e below F (T.setTop (mkF m pc' Ls (.int v :: st)))) : own_End p e below F (T.setTop (mkF m pc Ls st)) := by
  subst hp; exact own_step (fun t k => XS.iload X.here hx rfl (hb hby hd) hl k) h
theorem own_iloadN (X : Stand p l e R s m args below meth c T locs cells slots) (hx : p.tables.exec = Jvm.exec) (hby : c.code = bs) {k : Fin 4} {v : Int32} (hd : decode bs pc = .ok (.iload_n k, 1)) (hp : pc + 1 = pc') (hl : Ls[k.val]? = some (.val (.int v))) (h : own_End p e below F (T.setTop (mkF m pc' Ls (.int v :: st)))) : own_End p e below F (T.setTop (mkF m pc Ls st)) := by
  subst hp; exact own_step (fun t k => XS.iloadN X.here hx rfl (hb hby hd) hl k) h
theorem own_lload (X : Stand p l e R s m args below meth c T locs cells slots) (hx : p.tables.exec = Jvm.exec) (hby : c.code = bs) {k : Nat} {v : Int64} (hd : decode bs pc = .ok (.lload k, 2)) (hp : pc + 2 = pc') (hl : Ls[k]? = some (.val (.long v))) (h : own_End p e below F (T.setTop (mkF m pc' Ls (.long v :: st)))) : own_End p e below F (T.setTop (mkF m pc Ls st)) := by
  subst hp; exact own_step (fun t k => XS.lload X.here hx rfl (hb hby hd) hl k) h
theorem own_lloadN (X : Stand p l e R s m args below meth c T locs cells slots) (hx : p.tables.exec = Jvm.exec) (hby : c.code = bs) {k : Fin 4} {v : Int64} (hd : decode bs pc = .ok (.lload_n k, 1)) (hp : pc + 1 = pc') (hl : Ls[k.val]? = some (.val (.long v))) (h : own_End p e below F (T.setTop (mkF m pc' Ls (.long v :: st)))) : own_End p e below F (T.setTop (mkF m pc Ls st)) := by
  subst hp; exact own_step (fun t k => XS.lloadN X.here hx rfl (hb hby hd) hl k) h
theorem own_aload (X : Stand p l e R s m args below meth c T locs cells slots) (hx : p.tables.exec = Jvm.exec) (hby : c.code = bs) {k : Nat} {v : Value} (hd : decode bs pc = .ok (.aload k, 2)) (hp : pc + 2 = pc') (hl : Ls[k]? = some (.val v)) (hv : v.isRef = true) (h : own_End p e below F (T.setTop (mkF m pc' Ls (v :: st)))) : own_End p e below F (T.setTop (mkF m pc Ls st)) := by
  subst hp; exact own_step (fun t k => XS.aload X.here hx rfl (hb hby hd) hl hv k) h
theorem own_aloadN (X : Stand p l e R s m args below meth c T locs cells slots) (hx : p.tables.exec = Jvm.exec) (hby : c.code = bs) {k : Fin 4} {v : Value} (hd : decode bs pc = .ok (.aload_n k, 1)) (hp : pc + 1 = pc') (hl : Ls[k.val]? = some (.val v)) (hv : v.isRef = true) (h : own_End p e below F (T.setTop (mkF m pc' Ls (v :: st)))) : own_End p e below F (T.setTop (mkF m pc Ls st)) := by
  subst hp; exact own_step (fun t k => XS.aloadN X.here hx rfl (hb hby hd) hl hv k) h
theorem own_istore (X : Stand p l e R s m args below meth c T locs cells slots) (hx : p.tables.exec = Jvm.exec) (hby : c.code = bs) {k : Nat} {x : Int32} (hd : decode bs pc = .ok (.istore k, 2)) (hp : pc + 2 = pc') (hl : storeLocals Ls k (.int x) = some l') (h : own_End p e below F (T.setTop (mkF m pc' l' st))) : own_End p e below F (T.setTop (mkF m pc Ls (.int x :: st))) := by
  subst hp; exact own_step (fun t k => XS.istore X.here hx rfl (hb hby hd) rfl hl k) h
theorem own_istoreN (X : Stand p l e R s m args below meth c T locs cells slots) (hx : p.tables.exec = Jvm.exec) (hby : c.code = bs) {k : Fin 4} {x : Int32} (hd : decode bs pc = .ok (.istore_n k, 1)) (hp : pc + 1 = pc') (hl : storeLocals Ls k.val (.int x) = some l') (h : own_End p e below F (T.setTop (mkF m pc' l' st))) : own_End p e below F (T.setTop (mkF m pc Ls (.int x :: st))) := by
  subst hp; exact own_step (fun t k => XS.istoreN X.here hx rfl (hb hby hd) rfl hl k) h
theorem own_lstore (X : Stand p l e R s m args below meth c T locs cells slots) (hx : p.tables.exec = Jvm.exec) (hby : c.code = bs) {k : Nat} {x : Int64} (hd : decode bs pc = .ok (.lstore k, 2)) (hp : pc + 2 = pc') (hl : storeLocals Ls k (.long x) = some l') (h : own_End p e below F (T.setTop (mkF m pc' l' st))) : own_End p e below F (T.setTop (mkF m pc Ls (.long x :: st))) := by
  subst hp; exact own_step (fun t k => XS.lstore X.here hx rfl (hb hby hd) rfl hl k) h
theorem own_lstoreN (X : Stand p l e R s m args below meth c T locs cells slots) (hx : p.tables.exec = Jvm.exec) (hby : c.code = bs) {k : Fin 4} {x : Int64} (hd : decode bs pc = .ok (.lstore_n k, 1)) (hp : pc + 1 = pc') (hl : storeLocals Ls k.val (.long x) = some l') (h : own_End p e below F (T.setTop (mkF m pc' l' st))) : own_End p e below F (T.setTop (mkF m pc Ls (.long x :: st))) := by
  subst hp; exact own_step (fun t k => XS.lstoreN X.here hx rfl (hb hby hd) rfl hl k) h
theorem own_astore (X : Stand p l e R s m args below meth c T locs cells slots) (hx : p.tables.exec = Jvm.exec) (hby : c.code = bs) {k : Nat} {x : Value} (hd : decode bs pc = .ok (.astore k, 2)) (hp : pc + 2 = pc') (hv : x.isRef = true) (hl : storeLocals Ls k x = some l') (h : own_End p e below F (T.setTop (mkF m pc' l' st))) : own_End p e below F (T.setTop (mkF m pc Ls (x :: st))) := by
  subst hp; exact own_step (fun t k => XS.astore X.here hx rfl (hb hby hd) rfl hv hl k) h
theorem own_astoreN (X : Stand p l e R s m args below meth c T locs cells slots) (hx : p.tables.exec = Jvm.exec) (hby : c.code = bs) {k : Fin 4} {x : Value} (hd : decode bs pc = .ok (.astore_n k, 1)) (hp : pc + 1 = pc') (hv : x.isRef = true) (hl : storeLocals Ls k.val x = some l') (h : own_End p e below F (T.setTop (mkF m pc' l' st))) : own_End p e below F (T.setTop (mkF m pc Ls (x :: st))) := by
  subst hp; exact own_step (fun t k => XS.astoreN X.here hx rfl (hb hby hd) rfl hv hl k) h
theorem own_iinc (X : Stand p l e R s m args below meth c T locs cells slots) (hx : p.tables.exec = Jvm.exec) (hby : c.code = bs) {k : Nat} {cst : Int} {x y : Int32} (hd : decode bs pc = .ok (.iinc k cst, 3)) (hp : pc + 3 = pc') (hl : Ls[k]? = some (.val (.int x))) (hy : x + Int32.ofInt cst = y) (hl' : storeLocals Ls k (.int y) = some l') (h : own_End p e below F (T.setTop (mkF m pc' l' st))) : own_End p e below F (T.setTop (mkF m pc Ls st)) := by
  subst hp hy; exact own_step (fun t k => XS.iinc X.here hx rfl (hb hby hd) hl hl' k) h
theorem own_iconst (X : Stand p l e R s m args below meth c T locs cells slots) (hx : p.tables.exec = Jvm.exec) (hby : c.code = bs) {i : Int} {n : Int32} (hd : decode bs pc = .ok (.iconst i, 1)) (hp : pc + 1 = pc') (hn : Int32.ofInt i = n) (h : own_End p e below F (T.setTop (mkF m pc' Ls (.int n :: st)))) : own_End p e below F (T.setTop (mkF m pc Ls st)) := by
  subst hp hn; exact own_step (fun t k => XS.iconst X.here hx rfl (hb hby hd) k) h
theorem own_bipush (X : Stand p l e R s m args below meth c T locs cells slots) (hx : p.tables.exec = Jvm.exec) (hby : c.code = bs) {i : Int} {n : Int32} (hd : decode bs pc = .ok (.bipush i, 2)) (hp : pc + 2 = pc') (hn : (Int8.ofInt i).toInt32 = n) (h : own_End p e below F (T.setTop (mkF m pc' Ls (.int n :: st)))) : own_End p e below F (T.setTop (mkF m pc Ls st)) := by
  subst hp hn; exact own_step (fun t k => XS.bipush X.here hx rfl (hb hby hd) k) h
theorem own_sipush (X : Stand p l e R s m args below meth c T locs cells slots) (hx : p.tables.exec = Jvm.exec) (hby : c.code = bs) {i : Int} {n : Int32} (hd : decode bs pc = .ok (.sipush i, 3)) (hp : pc + 3 = pc') (hn : (Int16.ofInt i).toInt32 = n) (h : own_End p e below F (T.setTop (mkF m pc' Ls (.int n :: st)))) : own_End p e below F (T.setTop (mkF m pc Ls st)) := by
  subst hp hn; exact own_step (fun t k => XS.sipush X.here hx rfl (hb hby hd) k) h
theorem own_lconst (X : Stand p l e R s m args below meth c T locs cells slots) (hx : p.tables.exec = Jvm.exec) (hby : c.code = bs) {i : Fin 2} {n : Int64} (hd : decode bs pc = .ok (.lconst i, 1)) (hp : pc + 1 = pc') (hn : Int64.ofNat i.val = n) (h : own_End p e below F (T.setTop (mkF m pc' Ls (.long n :: st)))) : own_End p e below F (T.setTop (mkF m pc Ls st)) := by
  subst hp hn; exact own_step (fun t k => XS.lconst X.here hx rfl (hb hby hd) k) h
theorem own_aconst_null (X : Stand p l e R s m args below meth c T locs cells slots) (hx : p.tables.exec = Jvm.exec) (hby : c.code = bs) (hd : decode bs pc = .ok (.aconst_null, 1)) (hp : pc + 1 = pc') (h : own_End p e below F (T.setTop (mkF m pc' Ls (.null :: st)))) : own_End p e below F (T.setTop (mkF m pc Ls st)) := by
  subst hp; exact own_step (fun t k => XS.aconstNull X.here hx rfl (hb hby hd) k) h
theorem own_goto (X : Stand p l e R s m args below meth c T locs cells slots) (hx : p.tables.exec = Jvm.exec) (hby : c.code = bs) {o : Int} (hd : decode bs pc = .ok (.goto o, 3)) (ho : 0 ≤ (pc : Int) + o) (hp : ((pc : Int) + o).toNat = pc') (h : own_End p e below F (T.setTop (mkF m pc' Ls st))) : own_End p e below F (T.setTop (mkF m pc Ls st)) :=
  own_step (fun t k => XS.goto X.here hx rfl (pc0 := pc) (pc' := pc') rfl (hb hby hd) ho hp k) h
theorem own_dup (X : Stand p l e R s m args below meth c T locs cells slots) (hx : p.tables.exec = Jvm.exec) (hby : c.code = bs) {x : Value} (hd : decode bs pc = .ok (.dup, 1)) (hp : pc + 1 = pc') (hc : x.category = 1) (h : own_End p e below F (T.setTop (mkF m pc' Ls (x :: x :: st)))) : own_End p e below F (T.setTop (mkF m pc Ls (x :: st))) := by
  subst hp; exact own_step (fun t k => XS.dup X.here hx rfl (hb hby hd) rfl hc k) h
theorem own_dup_x1 (X : Stand p l e R s m args below meth c T locs cells slots) (hx : p.tables.exec = Jvm.exec) (hby : c.code = bs) {x y : Value} (hd : decode bs pc = .ok (.dup_x1, 1)) (hp : pc + 1 = pc') (hc : x.category = 1) (hc2 : y.category = 1) (h : own_End p e below F (T.setTop (mkF m pc' Ls (x :: y :: x :: st)))) : own_End p e below F (T.setTop (mkF m pc Ls (x :: y :: st))) := by
  subst hp; exact own_step (fun t k => XS.dupX1 X.here hx rfl (hb hby hd) rfl hc hc2 k) h
theorem own_pop (X : Stand p l e R s m args below meth c T locs cells slots) (hx : p.tables.exec = Jvm.exec) (hby : c.code = bs) {x : Value} (hd : decode bs pc = .ok (.pop, 1)) (hp : pc + 1 = pc') (hc : x.category = 1) (h : own_End p e below F (T.setTop (mkF m pc' Ls st))) : own_End p e below F (T.setTop (mkF m pc Ls (x :: st))) := by
  subst hp; exact own_step (fun t k => XS.pop X.here hx rfl (hb hby hd) rfl hc k) h
theorem own_pop2 (X : Stand p l e R s m args below meth c T locs cells slots) (hx : p.tables.exec = Jvm.exec) (hby : c.code = bs) {x : Int64} (hd : decode bs pc = .ok (.pop2, 1)) (hp : pc + 1 = pc') (h : own_End p e below F (T.setTop (mkF m pc' Ls st))) : own_End p e below F (T.setTop (mkF m pc Ls (.long x :: st))) := by
  subst hp
  refine own_step (fun t k => ?_) h
  have hd' := hb hby hd
  have hc : (Value.long x).category = 2 := rfl
  jvm_step X.here [X.here.top, hx, hd', Op.pop2.wp_sem, hc]
  exact k
theorem own_iadd (X : Stand p l e R s m args below meth c T locs cells slots) (hx : p.tables.exec = Jvm.exec) (hby : c.code = bs) {x y : Int32} (hd : decode bs pc = .ok (.iadd, 1)) (hp : pc + 1 = pc') (h : own_End p e below F (T.setTop (mkF m pc' Ls (.int (x + y) :: st)))) : own_End p e below F (T.setTop (mkF m pc Ls (.int y :: .int x :: st))) := by
  subst hp; exact own_step (fun t k => XS.iadd X.here hx rfl (hb hby hd) rfl k) h
theorem own_isub (X : Stand p l e R s m args below meth c T locs cells slots) (hx : p.tables.exec = Jvm.exec) (hby : c.code = bs) {x y : Int32} (hd : decode bs pc = .ok (.isub, 1)) (hp : pc + 1 = pc') (h : own_End p e below F (T.setTop (mkF m pc' Ls (.int (x - y) :: st)))) : own_End p e below F (T.setTop (mkF m pc Ls (.int y :: .int x :: st))) := by
  subst hp; exact own_step (fun t k => XS.isub X.here hx rfl (hb hby hd) rfl k) h
theorem own_imul (X : Stand p l e R s m args below meth c T locs cells slots) (hx : p.tables.exec = Jvm.exec) (hby : c.code = bs) {x y : Int32} (hd : decode bs pc = .ok (.imul, 1)) (hp : pc + 1 = pc') (h : own_End p e below F (T.setTop (mkF m pc' Ls (.int (x * y) :: st)))) : own_End p e below F (T.setTop (mkF m pc Ls (.int y :: .int x :: st))) := by
  subst hp; exact own_step (fun t k => XS.imul X.here hx rfl (hb hby hd) rfl k) h
theorem own_iand (X : Stand p l e R s m args below meth c T locs cells slots) (hx : p.tables.exec = Jvm.exec) (hby : c.code = bs) {x y : Int32} (hd : decode bs pc = .ok (.iand, 1)) (hp : pc + 1 = pc') (h : own_End p e below F (T.setTop (mkF m pc' Ls (.int (x &&& y) :: st)))) : own_End p e below F (T.setTop (mkF m pc Ls (.int y :: .int x :: st))) := by
  subst hp; exact own_step (fun t k => XS.iand X.here hx rfl (hb hby hd) rfl k) h
theorem own_ior (X : Stand p l e R s m args below meth c T locs cells slots) (hx : p.tables.exec = Jvm.exec) (hby : c.code = bs) {x y : Int32} (hd : decode bs pc = .ok (.ior, 1)) (hp : pc + 1 = pc') (h : own_End p e below F (T.setTop (mkF m pc' Ls (.int (x ||| y) :: st)))) : own_End p e below F (T.setTop (mkF m pc Ls (.int y :: .int x :: st))) := by
  subst hp; exact own_step (fun t k => XS.ior X.here hx rfl (hb hby hd) rfl k) h
theorem own_ixor (X : Stand p l e R s m args below meth c T locs cells slots) (hx : p.tables.exec = Jvm.exec) (hby : c.code = bs) {x y : Int32} (hd : decode bs pc = .ok (.ixor, 1)) (hp : pc + 1 = pc') (h : own_End p e below F (T.setTop (mkF m pc' Ls (.int (x ^^^ y) :: st)))) : own_End p e below F (T.setTop (mkF m pc Ls (.int y :: .int x :: st))) := by
  subst hp; exact own_step (fun t k => XS.ixor X.here hx rfl (hb hby hd) rfl k) h
theorem own_ladd (X : Stand p l e R s m args below meth c T locs cells slots) (hx : p.tables.exec = Jvm.exec) (hby : c.code = bs) {x y : Int64} (hd : decode bs pc = .ok (.ladd, 1)) (hp : pc + 1 = pc') (h : own_End p e below F (T.setTop (mkF m pc' Ls (.long (x + y) :: st)))) : own_End p e below F (T.setTop (mkF m pc Ls (.long y :: .long x :: st))) := by
  subst hp; exact own_step (fun t k => XS.ladd X.here hx rfl (hb hby hd) rfl k) h
theorem own_lsub (X : Stand p l e R s m args below meth c T locs cells slots) (hx : p.tables.exec = Jvm.exec) (hby : c.code = bs) {x y : Int64} (hd : decode bs pc = .ok (.lsub, 1)) (hp : pc + 1 = pc') (h : own_End p e below F (T.setTop (mkF m pc' Ls (.long (x - y) :: st)))) : own_End p e below F (T.setTop (mkF m pc Ls (.long y :: .long x :: st))) := by
  subst hp; exact own_step (fun t k => XS.lsub X.here hx rfl (hb hby hd) rfl k) h
theorem own_lmul (X : Stand p l e R s m args below meth c T locs cells slots) (hx : p.tables.exec = Jvm.exec) (hby : c.code = bs) {x y : Int64} (hd : decode bs pc = .ok (.lmul, 1)) (hp : pc + 1 = pc') (h : own_End p e below F (T.setTop (mkF m pc' Ls (.long (x * y) :: st)))) : own_End p e below F (T.setTop (mkF m pc Ls (.long y :: .long x :: st))) := by
  subst hp; exact own_step (fun t k => XS.lmul X.here hx rfl (hb hby hd) rfl k) h
theorem own_land (X : Stand p l e R s m args below meth c T locs cells slots) (hx : p.tables.exec = Jvm.exec) (hby : c.code = bs) {x y : Int64} (hd : decode bs pc = .ok (.land, 1)) (hp : pc + 1 = pc') (h : own_End p e below F (T.setTop (mkF m pc' Ls (.long (x &&& y) :: st)))) : own_End p e below F (T.setTop (mkF m pc Ls (.long y :: .long x :: st))) := by
  subst hp; exact own_step (fun t k => XS.land X.here hx rfl (hb hby hd) rfl k) h
theorem own_lor (X : Stand p l e R s m args below meth c T locs cells slots) (hx : p.tables.exec = Jvm.exec) (hby : c.code = bs) {x y : Int64} (hd : decode bs pc = .ok (.lor, 1)) (hp : pc + 1 = pc') (h : own_End p e below F (T.setTop (mkF m pc' Ls (.long (x ||| y) :: st)))) : own_End p e below F (T.setTop (mkF m pc Ls (.long y :: .long x :: st))) := by
  subst hp; exact own_step (fun t k => XS.lor X.here hx rfl (hb hby hd) rfl k) h
theorem own_lxor (X : Stand p l e R s m args below meth c T locs cells slots) (hx : p.tables.exec = Jvm.exec) (hby : c.code = bs) {x y : Int64} (hd : decode bs pc = .ok (.lxor, 1)) (hp : pc + 1 = pc') (h : own_End p e below F (T.setTop (mkF m pc' Ls (.long (x ^^^ y) :: st)))) : own_End p e below F (T.setTop (mkF m pc Ls (.long y :: .long x :: st))) := by
  subst hp; exact own_step (fun t k => XS.lxor X.here hx rfl (hb hby hd) rfl k) h
theorem own_ishl (X : Stand p l e R s m args below meth c T locs cells slots) (hx : p.tables.exec = Jvm.exec) (hby : c.code = bs) {x y : Int32} (hd : decode bs pc = .ok (.ishl, 1)) (hp : pc + 1 = pc') (h : own_End p e below F (T.setTop (mkF m pc' Ls (.int (x <<< (y &&& 31)) :: st)))) : own_End p e below F (T.setTop (mkF m pc Ls (.int y :: .int x :: st))) := by
  subst hp; exact own_step (fun t k => XS.ishl X.here hx rfl (hb hby hd) rfl k) h
theorem own_ishr (X : Stand p l e R s m args below meth c T locs cells slots) (hx : p.tables.exec = Jvm.exec) (hby : c.code = bs) {x y : Int32} (hd : decode bs pc = .ok (.ishr, 1)) (hp : pc + 1 = pc') (h : own_End p e below F (T.setTop (mkF m pc' Ls (.int (x >>> (y &&& 31)) :: st)))) : own_End p e below F (T.setTop (mkF m pc Ls (.int y :: .int x :: st))) := by
  subst hp; exact own_step (fun t k => XS.ishr X.here hx rfl (hb hby hd) rfl k) h
theorem own_iushr (X : Stand p l e R s m args below meth c T locs cells slots) (hx : p.tables.exec = Jvm.exec) (hby : c.code = bs) {x y : Int32} (hd : decode bs pc = .ok (.iushr, 1)) (hp : pc + 1 = pc') (h : own_End p e below F (T.setTop (mkF m pc' Ls (.int ((x.toUInt32 >>> (y &&& 31).toUInt32).toInt32) :: st)))) : own_End p e below F (T.setTop (mkF m pc Ls (.int y :: .int x :: st))) := by
  subst hp; exact own_step (fun t k => XS.iushr X.here hx rfl (hb hby hd) rfl k) h
theorem own_lshl (X : Stand p l e R s m args below meth c T locs cells slots) (hx : p.tables.exec = Jvm.exec) (hby : c.code = bs) {x : Int64} {y : Int32} (hd : decode bs pc = .ok (.lshl, 1)) (hp : pc + 1 = pc') (h : own_End p e below F (T.setTop (mkF m pc' Ls (.long (x <<< (y &&& 0x3f).toInt64) :: st)))) : own_End p e below F (T.setTop (mkF m pc Ls (.int y :: .long x :: st))) := by
  subst hp; exact own_step (fun t k => XS.lshl X.here hx rfl (hb hby hd) rfl k) h
theorem own_lshr (X : Stand p l e R s m args below meth c T locs cells slots) (hx : p.tables.exec = Jvm.exec) (hby : c.code = bs) {x : Int64} {y : Int32} (hd : decode bs pc = .ok (.lshr, 1)) (hp : pc + 1 = pc') (h : own_End p e below F (T.setTop (mkF m pc' Ls (.long (x >>> (y &&& 0x3f).toInt64) :: st)))) : own_End p e below F (T.setTop (mkF m pc Ls (.int y :: .long x :: st))) := by
  subst hp; exact own_step (fun t k => XS.lshr X.here hx rfl (hb hby hd) rfl k) h
theorem own_lushr (X : Stand p l e R s m args below meth c T locs cells slots) (hx : p.tables.exec = Jvm.exec) (hby : c.code = bs) {x : Int64} {y : Int32} (hd : decode bs pc = .ok (.lushr, 1)) (hp : pc + 1 = pc') (h : own_End p e below F (T.setTop (mkF m pc' Ls (.long ((x.toUInt64 >>> (y &&& 0x3f).toInt64.toUInt64).toInt64) :: st)))) : own_End p e below F (T.setTop (mkF m pc Ls (.int y :: .long x :: st))) := by
  subst hp; exact own_step (fun t k => XS.lushr X.here hx rfl (hb hby hd) rfl k) h
theorem own_lcmp (X : Stand p l e R s m args below meth c T locs cells slots) (hx : p.tables.exec = Jvm.exec) (hby : c.code = bs) {x y : Int64} (hd : decode bs pc = .ok (.lcmp, 1)) (hp : pc + 1 = pc') (h : own_End p e below F (T.setTop (mkF m pc' Ls (.int (lcmpW x y) :: st)))) : own_End p e below F (T.setTop (mkF m pc Ls (.long y :: .long x :: st))) := by
  subst hp; exact own_step (fun t k => XS.lcmp X.here hx rfl (hb hby hd) rfl k) h
theorem own_ineg (X : Stand p l e R s m args below meth c T locs cells slots) (hx : p.tables.exec = Jvm.exec) (hby : c.code = bs) {x : Int32} (hd : decode bs pc = .ok (.ineg, 1)) (hp : pc + 1 = pc') (h : own_End p e below F (T.setTop (mkF m pc' Ls (.int (-x) :: st)))) : own_End p e below F (T.setTop (mkF m pc Ls (.int x :: st))) := by
  subst hp; exact own_step (fun t k => XS.ineg X.here hx rfl (hb hby hd) rfl k) h
theorem own_i2b (X : Stand p l e R s m args below meth c T locs cells slots) (hx : p.tables.exec = Jvm.exec) (hby : c.code = bs) {x : Int32} (hd : decode bs pc = .ok (.i2b, 1)) (hp : pc + 1 = pc') (h : own_End p e below F (T.setTop (mkF m pc' Ls (.int (x.toInt8.toInt32) :: st)))) : own_End p e below F (T.setTop (mkF m pc Ls (.int x :: st))) := by
  subst hp; exact own_step (fun t k => XS.i2b X.here hx rfl (hb hby hd) rfl k) h
theorem own_i2s (X : Stand p l e R s m args below meth c T locs cells slots) (hx : p.tables.exec = Jvm.exec) (hby : c.code = bs) {x : Int32} (hd : decode bs pc = .ok (.i2s, 1)) (hp : pc + 1 = pc') (h : own_End p e below F (T.setTop (mkF m pc' Ls (.int (x.toInt16.toInt32) :: st)))) : own_End p e below F (T.setTop (mkF m pc Ls (.int x :: st))) := by
  subst hp; exact own_step (fun t k => XS.i2s X.here hx rfl (hb hby hd) rfl k) h
theorem own_i2c (X : Stand p l e R s m args below meth c T locs cells slots) (hx : p.tables.exec = Jvm.exec) (hby : c.code = bs) {x : Int32} (hd : decode bs pc = .ok (.i2c, 1)) (hp : pc + 1 = pc') (h : own_End p e below F (T.setTop (mkF m pc' Ls (.int (x.toUInt32.toUInt16.toUInt32.toInt32) :: st)))) : own_End p e below F (T.setTop (mkF m pc Ls (.int x :: st))) := by
  subst hp; exact own_step (fun t k => XS.i2c X.here hx rfl (hb hby hd) rfl k) h
theorem own_i2l (X : Stand p l e R s m args below meth c T locs cells slots) (hx : p.tables.exec = Jvm.exec) (hby : c.code = bs) {x : Int32} (hd : decode bs pc = .ok (.i2l, 1)) (hp : pc + 1 = pc') (h : own_End p e below F (T.setTop (mkF m pc' Ls (.long (x.toInt64) :: st)))) : own_End p e below F (T.setTop (mkF m pc Ls (.int x :: st))) := by
  subst hp; exact own_step (fun t k => XS.i2l X.here hx rfl (hb hby hd) rfl k) h
theorem own_lneg (X : Stand p l e R s m args below meth c T locs cells slots) (hx : p.tables.exec = Jvm.exec) (hby : c.code = bs) {x : Int64} (hd : decode bs pc = .ok (.lneg, 1)) (hp : pc + 1 = pc') (h : own_End p e below F (T.setTop (mkF m pc' Ls (.long (-x) :: st)))) : own_End p e below F (T.setTop (mkF m pc Ls (.long x :: st))) := by
  subst hp; exact own_step (fun t k => XS.lneg X.here hx rfl (hb hby hd) rfl k) h
theorem own_l2i (X : Stand p l e R s m args below meth c T locs cells slots) (hx : p.tables.exec = Jvm.exec) (hby : c.code = bs) {x : Int64} (hd : decode bs pc = .ok (.l2i, 1)) (hp : pc + 1 = pc') (h : own_End p e below F (T.setTop (mkF m pc' Ls (.int (x.toInt32) :: st)))) : own_End p e below F (T.setTop (mkF m pc Ls (.long x :: st))) := by
  subst hp; exact own_step (fun t k => XS.l2i X.here hx rfl (hb hby hd) rfl k) h
theorem own_idiv (X : Stand p l e R s m args below meth c T locs cells slots) (hx : p.tables.exec = Jvm.exec) (hby : c.code = bs) {x y : Int32} (hd : decode bs pc = .ok (.idiv, 1)) (hp : pc + 1 = pc') (hy : ¬ y = 0) (h : own_End p e below F (T.setTop (mkF m pc' Ls (.int (x / y) :: st)))) : own_End p e below F (T.setTop (mkF m pc Ls (.int y :: .int x :: st))) := by
  subst hp; exact own_step (fun t k => XS.idiv X.here hx rfl (hb hby hd) rfl hy k) h
theorem own_irem (X : Stand p l e R s m args below meth c T locs cells slots) (hx : p.tables.exec = Jvm.exec) (hby : c.code = bs) {x y : Int32} (hd : decode bs pc = .ok (.irem, 1)) (hp : pc + 1 = pc') (hy : ¬ y = 0) (h : own_End p e below F (T.setTop (mkF m pc' Ls (.int (x % y) :: st)))) : own_End p e below F (T.setTop (mkF m pc Ls (.int y :: .int x :: st))) := by
  subst hp; exact own_step (fun t k => iremM X hx rfl (hb hby hd) rfl hy k) h
theorem own_ldiv (X : Stand p l e R s m args below meth c T locs cells slots) (hx : p.tables.exec = Jvm.exec) (hby : c.code = bs) {x y : Int64} (hd : decode bs pc = .ok (.ldiv, 1)) (hp : pc + 1 = pc') (hy : ¬ y = 0) (h : own_End p e below F (T.setTop (mkF m pc' Ls (.long (x / y) :: st)))) : own_End p e below F (T.setTop (mkF m pc Ls (.long y :: .long x :: st))) := by
  subst hp; exact own_step (fun t k => XS.ldiv X.here hx rfl (hb hby hd) rfl hy k) h
theorem own_lrem (X : Stand p l e R s m args below meth c T locs cells slots) (hx : p.tables.exec = Jvm.exec) (hby : c.code = bs) {x y : Int64} (hd : decode bs pc = .ok (.lrem, 1)) (hp : pc + 1 = pc') (hy : ¬ y = 0) (h : own_End p e below F (T.setTop (mkF m pc' Ls (.long (x % y) :: st)))) : own_End p e below F (T.setTop (mkF m pc Ls (.long y :: .long x :: st))) := by
  subst hp; exact own_step (fun t k => XS.lrem X.here hx rfl (hb hby hd) rfl hy (by rw [lrem_mod]; exact k)) h
/-- the branch's condition, and its contrary -/
abbrev own_ct (cd : ClassFile.Cond) (x y : Int32) : Prop := match cd with | .eq => x = y | .ne => ¬ x = y | .lt => x < y | .ge => ¬ x < y | .gt => y < x | .le => ¬ y < x
abbrev own_cf (cd : ClassFile.Cond) (x y : Int32) : Prop := match cd with | .eq => ¬ x = y | .ne => x = y | .lt => ¬ x < y | .ge => x < y | .gt => ¬ y < x | .le => y < x
abbrev own_ctL (cd : ClassFile.Cond) (x y : Int64) : Prop := match cd with | .eq => x = y | .ne => ¬ x = y | .lt => x < y | .ge => ¬ x < y | .gt => y < x | .le => ¬ y < x
abbrev own_cfL (cd : ClassFile.Cond) (x y : Int64) : Prop := match cd with | .eq => ¬ x = y | .ne => x = y | .lt => ¬ x < y | .ge => x < y | .gt => ¬ y < x | .le => y < x
theorem own_ct_y {cd : ClassFile.Cond} {x y : Int32} (h : own_ct cd x y) : if_icmp.holds cd x y = true := by
  cases cd
  · exact (teq h).1
  · exact (feq h).2
  · exact (tlt h).1
  · exact (flt h).2.1
  · exact (tlt h).2.2.1
  · exact (flt h).2.2.2
theorem own_ct_n {cd : ClassFile.Cond} {x y : Int32} (h : own_cf cd x y) : if_icmp.holds cd x y = false := by
  cases cd
  · exact (feq h).1
  · exact (teq h).2
  · exact (flt h).1
  · exact (tlt h).2.1
  · exact (flt h).2.2.1
  · exact (tlt h).2.2.2
theorem own_ct_or (cd : ClassFile.Cond) (x y : Int32) : own_ct cd x y ∨ own_cf cd x y := by
  cases cd
  · exact Decidable.em _
  · exact (Decidable.em _).symm
  · exact Decidable.em _
  · exact (Decidable.em _).symm
  · exact Decidable.em _
  · exact (Decidable.em _).symm
theorem own_ctL_or (cd : ClassFile.Cond) (x y : Int64) : own_ctL cd x y ∨ own_cfL cd x y := by
  cases cd
  · exact Decidable.em _
  · exact (Decidable.em _).symm
  · exact Decidable.em _
  · exact (Decidable.em _).symm
  · exact Decidable.em _
  · exact (Decidable.em _).symm
theorem own_ctL_y {cd : ClassFile.Cond} {x y : Int64} (h : own_ctL cd x y) : own_ct cd (lcmpW x y) 0 := by
  cases cd
  · exact (lw_eq x y).mpr h
  · exact fun q => h ((lw_eq x y).mp q)
  · exact (lw_lt x y).mpr h
  · exact fun q => h ((lw_lt x y).mp q)
  · exact (lw_gt x y).mpr h
  · exact fun q => h ((lw_gt x y).mp q)
theorem own_ctL_n {cd : ClassFile.Cond} {x y : Int64} (h : own_cfL cd x y) : own_cf cd (lcmpW x y) 0 := by
  cases cd
  · exact fun q => h ((lw_eq x y).mp q)
  · exact (lw_eq x y).mpr h
  · exact fun q => h ((lw_lt x y).mp q)
  · exact (lw_lt x y).mpr h
  · exact fun q => h ((lw_gt x y).mp q)
  · exact (lw_gt x y).mpr h
theorem own_ifY (X : Stand p l e R s m args below meth c T locs cells slots) (hx : p.tables.exec = Jvm.exec) (hby : c.code = bs) {cd : ClassFile.Cond} {x : Int32} {o : Int} (hd : decode bs pc = .ok (.ifCond cd o, 3)) (ho : 0 ≤ (pc : Int) + o) (hp : ((pc : Int) + o).toNat = pc') (hc : own_ct cd x 0) (h : own_End p e below F (T.setTop (mkF m pc' Ls st))) : own_End p e below F (T.setTop (mkF m pc Ls (.int x :: st))) :=
  own_step (fun t k => XS.ifYes X.here hx rfl (pc0 := pc) (pc' := pc') rfl (hb hby hd) rfl ((if0 _ _).trans (own_ct_y hc)) ho hp k) h
theorem own_ifN (X : Stand p l e R s m args below meth c T locs cells slots) (hx : p.tables.exec = Jvm.exec) (hby : c.code = bs) {cd : ClassFile.Cond} {x : Int32} {o : Int} (hd : decode bs pc = .ok (.ifCond cd o, 3)) (hp : pc + 3 = pc') (hc : own_cf cd x 0) (h : own_End p e below F (T.setTop (mkF m pc' Ls st))) : own_End p e below F (T.setTop (mkF m pc Ls (.int x :: st))) := by
  subst hp; exact own_step (fun t k => XS.ifNo X.here hx rfl (hb hby hd) rfl ((if0 _ _).trans (own_ct_n hc)) k) h
theorem own_icY (X : Stand p l e R s m args below meth c T locs cells slots) (hx : p.tables.exec = Jvm.exec) (hby : c.code = bs) {cd : ClassFile.Cond} {x y : Int32} {o : Int} (hd : decode bs pc = .ok (.if_icmp cd o, 3)) (ho : 0 ≤ (pc : Int) + o) (hp : ((pc : Int) + o).toNat = pc') (hc : own_ct cd x y) (h : own_End p e below F (T.setTop (mkF m pc' Ls st))) : own_End p e below F (T.setTop (mkF m pc Ls (.int y :: .int x :: st))) :=
  own_step (fun t k => XS.icmpYes X.here hx rfl (pc0 := pc) (pc' := pc') rfl (hb hby hd) rfl (own_ct_y hc) ho hp k) h
theorem own_icN (X : Stand p l e R s m args below meth c T locs cells slots) (hx : p.tables.exec = Jvm.exec) (hby : c.code = bs) {cd : ClassFile.Cond} {x y : Int32} {o : Int} (hd : decode bs pc = .ok (.if_icmp cd o, 3)) (hp : pc + 3 = pc') (hc : own_cf cd x y) (h : own_End p e below F (T.setTop (mkF m pc' Ls st))) : own_End p e below F (T.setTop (mkF m pc Ls (.int y :: .int x :: st))) := by
  subst hp; exact own_step (fun t k => XS.icmpNo X.here hx rfl (hb hby hd) rfl (own_ct_n hc) k) h
theorem own_if2 (X : Stand p l e R s m args below meth c T locs cells slots) (hx : p.tables.exec = Jvm.exec) (hby : c.code = bs) {cd : ClassFile.Cond} {x : Int32} {o : Int} {pc1 pc2 : Nat} (hd : decode bs pc = .ok (.ifCond cd o, 3)) (ho : 0 ≤ (pc : Int) + o) (hp : ((pc : Int) + o).toNat = pc1) (hp2 : pc + 3 = pc2) (h1 : own_ct cd x 0 → own_End p e below F (T.setTop (mkF m pc1 Ls st))) (h2 : own_cf cd x 0 → own_End p e below F (T.setTop (mkF m pc2 Ls st))) : own_End p e below F (T.setTop (mkF m pc Ls (.int x :: st))) :=
  (own_ct_or cd x 0).elim (fun q => own_ifY X hx hby hd ho hp q (h1 q)) (fun q => own_ifN X hx hby hd hp2 q (h2 q))
theorem own_ic2 (X : Stand p l e R s m args below meth c T locs cells slots) (hx : p.tables.exec = Jvm.exec) (hby : c.code = bs) {cd : ClassFile.Cond} {x y : Int32} {o : Int} {pc1 pc2 : Nat} (hd : decode bs pc = .ok (.if_icmp cd o, 3)) (ho : 0 ≤ (pc : Int) + o) (hp : ((pc : Int) + o).toNat = pc1) (hp2 : pc + 3 = pc2) (h1 : own_ct cd x y → own_End p e below F (T.setTop (mkF m pc1 Ls st))) (h2 : own_cf cd x y → own_End p e below F (T.setTop (mkF m pc2 Ls st))) : own_End p e below F (T.setTop (mkF m pc Ls (.int y :: .int x :: st))) :=
  (own_ct_or cd x y).elim (fun q => own_icY X hx hby hd ho hp q (h1 q)) (fun q => own_icN X hx hby hd hp2 q (h2 q))
theorem own_ifL2 (X : Stand p l e R s m args below meth c T locs cells slots) (hx : p.tables.exec = Jvm.exec) (hby : c.code = bs) {cd : ClassFile.Cond} {x y : Int64} {o : Int} {pc1 pc2 : Nat} (hd : decode bs pc = .ok (.ifCond cd o, 3)) (ho : 0 ≤ (pc : Int) + o) (hp : ((pc : Int) + o).toNat = pc1) (hp2 : pc + 3 = pc2) (h1 : own_ctL cd x y → own_End p e below F (T.setTop (mkF m pc1 Ls st))) (h2 : own_cfL cd x y → own_End p e below F (T.setTop (mkF m pc2 Ls st))) : own_End p e below F (T.setTop (mkF m pc Ls (.int (lcmpW x y) :: st))) :=
  (own_ctL_or cd x y).elim (fun q => own_ifY X hx hby hd ho hp (own_ctL_y q) (h1 q)) (fun q => own_ifN X hx hby hd hp2 (own_ctL_n q) (h2 q))
theorem own_ifnullY (X : Stand p l e R s m args below meth c T locs cells slots) (hx : p.tables.exec = Jvm.exec) (hby : c.code = bs) {o : Int} (hd : decode bs pc = .ok (.ifnull o, 3)) (ho : 0 ≤ (pc : Int) + o) (hp : ((pc : Int) + o).toNat = pc') (h : own_End p e below F (T.setTop (mkF m pc' Ls st))) : own_End p e below F (T.setTop (mkF m pc Ls (.null :: st))) :=
  own_step (fun t k => XS.ifnullYes X.here hx rfl (pc0 := pc) (pc' := pc') rfl (hb hby hd) rfl ho hp k) h
theorem own_ifnullN (X : Stand p l e R s m args below meth c T locs cells slots) (hx : p.tables.exec = Jvm.exec) (hby : c.code = bs) {o : Int} {b : Addr} (hd : decode bs pc = .ok (.ifnull o, 3)) (hp : pc + 3 = pc') (h : own_End p e below F (T.setTop (mkF m pc' Ls st))) : own_End p e below F (T.setTop (mkF m pc Ls (.ref b :: st))) := by
  subst hp; exact own_step (fun t k => XS.ifnullNo X.here hx rfl (hb hby hd) rfl k) h
theorem own_ifnonnullY (X : Stand p l e R s m args below meth c T locs cells slots) (hx : p.tables.exec = Jvm.exec) (hby : c.code = bs) {o : Int} {b : Addr} (hd : decode bs pc = .ok (.ifnonnull o, 3)) (ho : 0 ≤ (pc : Int) + o) (hp : ((pc : Int) + o).toNat = pc') (h : own_End p e below F (T.setTop (mkF m pc' Ls st))) : own_End p e below F (T.setTop (mkF m pc Ls (.ref b :: st))) :=
  own_step (fun t k => XS.ifnonnullYes X.here hx rfl (pc0 := pc) (pc' := pc') rfl (hb hby hd) rfl ho hp k) h
theorem own_ifnonnullN (X : Stand p l e R s m args below meth c T locs cells slots) (hx : p.tables.exec = Jvm.exec) (hby : c.code = bs) {o : Int} (hd : decode bs pc = .ok (.ifnonnull o, 3)) (hp : pc + 3 = pc') (h : own_End p e below F (T.setTop (mkF m pc' Ls st))) : own_End p e below F (T.setTop (mkF m pc Ls (.null :: st))) := by
  subst hp; exact own_step (fun t k => XS.ifnonnullNo X.here hx rfl (hb hby hd) rfl k) h
theorem own_acmp (X : Stand p l e R s m args below meth c T locs cells slots) (hx : p.tables.exec = Jvm.exec) (hby : c.code = bs) {cd : ACond} {x y : Value} {o : Int} {same : Bool} (hd : decode bs pc = .ok (.if_acmp cd o, 3)) (h1 : x.isRef = true) (h2 : y.isRef = true) (hq : decide (x = y) = same) (ho : 0 ≤ (pc : Int) + o) (hp : pc' = if acV cd same = true then ((pc : Int) + o).toNat else pc + 3) (h : own_End p e below F (T.setTop (mkF m pc' Ls st))) : own_End p e below F (T.setTop (mkF m pc Ls (y :: x :: st))) :=
  own_step (fun t k => Jvm.RoadKit.acmp (g := mkF m pc Ls (y :: x :: st)) X hx rfl h1 h2 (pc0 := pc) (pc' := pc') (same := same) rfl (hb hby hd) rfl hq ho hp k) h
end Plain
section Words
variable {Z : State} {a0 : Array Value}
theorem own_ldcInt (X : Stand p l e R s m args below meth c T locs cells slots) (hx : p.tables.exec = Jvm.exec) (hZ : Z.Warmed39 s.vm) (hby : c.code = bs) {own : String} {index : Nat} {v : Int32} (hown : s.vm.findClass own = some m.cls) (w : (Cond.constant own index v).before a0 Z = true) (hd : decode bs pc = .ok (.ldc index, 2)) (hp : pc + 2 = pc') (h : own_End p e below F (T.setTop (mkF m pc' Ls (.int v :: st)))) : own_End p e below F (T.setTop (mkF m pc Ls st)) := by
  subst hp; exact own_step (X.ldcInt hx hown (mvT hZ w) (g := mkF m pc Ls st) rfl (hb hby hd)) h
theorem own_ldc2Long (X : Stand p l e R s m args below meth c T locs cells slots) (hx : p.tables.exec = Jvm.exec) (hZ : Z.Warmed39 s.vm) (hby : c.code = bs) {own : String} {index : Nat} {v : Int64} (hown : s.vm.findClass own = some m.cls) (w : (Cond.constantLong own index v).before a0 Z = true) (hd : decode bs pc = .ok (.ldc2_w index, 3)) (hp : pc + 3 = pc') (h : own_End p e below F (T.setTop (mkF m pc' Ls (.long v :: st)))) : own_End p e below F (T.setTop (mkF m pc Ls st)) := by
  subst hp; exact own_step (X.ldc2Long hx hown (mvT hZ w) (g := mkF m pc Ls st) rfl (hb hby hd)) h
end Words
section Heap
variable {Z : State} {a0 : Array Value} {h : Heap}
theorem own_getF (X : Stand p l e R s m args below meth c T locs cells slots) (hx : p.tables.exec = Jvm.exec) (hZ : Z.Warmed39 s.vm) (hby : c.code = bs) {own R0 O n d host : String} {index : Nat} {a : Addr} {v : Value} (hown : s.vm.findClass own = some m.cls) (w : (Cond.fieldLink own index R0 n d).before a0 Z = true ∨ (Cond.fieldLinkNest own index R0 n d host).before a0 Z = true) (via : Via Z R0 O n d) (eT : T.heap = h) (Fd : Fld Z h a O n d v) (hd : decode bs pc = .ok (.getfield index, 3)) (hp : pc + 3 = pc')
    (k : ∀ T', Stand p l e R s m args below meth c T' locs cells slots → T'.heap = h → own_End p e below F (T'.setTop (mkF m pc' Ls (v :: st)))) : own_End p e below F (T.setTop (mkF m pc Ls (.ref a :: st))) := by
  subst hp
  obtain ⟨T', X', e', stp⟩ := getF X hx hZ hown w via eT Fd (g := mkF m pc Ls (.ref a :: st)) rfl rfl (hb hby hd)
  exact own_step stp (k T' X' e')
theorem own_getS (X : Stand p l e R s m args below meth c T locs cells slots) (hx : p.tables.exec = Jvm.exec) (hZ : Z.Warmed39 s.vm) (hby : c.code = bs) {own R0 O n d host : String} {index : Nat} {v : Value} (hown : s.vm.findClass own = some m.cls) (w : (Cond.fieldLink own index R0 n d).before a0 Z = true ∨ (Cond.fieldLinkNest own index R0 n d host).before a0 Z = true) (via : Via Z R0 O n d) (eT : T.heap = h) (Fd : Sta Z h O n d v) (hd : decode bs pc = .ok (.getstatic index, 3)) (hp : pc + 3 = pc')
    (k : ∀ T', Stand p l e R s m args below meth c T' locs cells slots → T'.heap = h → own_End p e below F (T'.setTop (mkF m pc' Ls (v :: st)))) : own_End p e below F (T.setTop (mkF m pc Ls st)) := by
  subst hp
  obtain ⟨T', X', e', stp⟩ := getS2 X hx hZ hown w via eT Fd (g := mkF m pc Ls st) rfl (hb hby hd)
  exact own_step stp (k T' X' e')
theorem own_putF (X : Stand p l e R s m args below meth c T locs cells slots) (hx : p.tables.exec = Jvm.exec) (hZ : Z.Warmed39 s.vm) (hby : c.code = bs) {own R0 O n d host C : String} {index kk : Nat} {ty : FieldType} {a : Addr} {v old : Value} (hown : s.vm.findClass own = some m.cls) (w : (Cond.fieldLink own index R0 n d).before a0 Z = true ∨ (Cond.fieldLinkNest own index R0 n d host).before a0 Z = true) (via : Via Z R0 O n d) (eT : T.heap = h) (Fd : Fld Z h a O n d old) (E : Exa Z h a C)
    (La : (Cond.lays C O n d).before a0 Z = true ∨ ((Cond.laysFinal C O n d).before a0 Z = true ∧ own = O ∧ meth.name = "<init>")) (wi : (Cond.instantiable C kk).before a0 Z = true) (hty : parseFieldDescriptor d = some ty) (hn : narrow ty v = v) (hf : fits ty v = true) (hd : decode bs pc = .ok (.putfield index, 3)) (hp : pc + 3 = pc')
    (k : ∀ T' h', Stand p l e R s m args below meth c T' (locs ++ [⟨a, Jvm.RoadKit.slotOf Z O n d⟩]) cells slots → T'.heap = h' → Wr h h' a (Jvm.RoadKit.slotOf Z O n d) v → own_End p e below F (T'.setTop (mkF m pc' Ls st))) : own_End p e below F (T.setTop (mkF m pc Ls (v :: .ref a :: st))) := by
  subst hp
  obtain ⟨T', h', X', e', W', stp⟩ := putF X hx hZ hown w via eT Fd E La wi hty hn hf (g := mkF m pc Ls (v :: .ref a :: st)) rfl rfl (hb hby hd)
  exact own_step stp (k T' h' X' e' W')
theorem own_putN (X : Stand p l e R s m args below meth c T locs cells slots) (hx : p.tables.exec = Jvm.exec) (hZ : Z.Warmed39 s.vm) (hby : c.code = bs) {own R0 O n d C : String} {index kk : Nat} {ty : FieldType} {a : Addr} {v v' old : Value} (hown : s.vm.findClass own = some m.cls) (w : (Cond.fieldLink own index R0 n d).before a0 Z = true) (via : Via Z R0 O n d) (eT : T.heap = h) (Fd : Fld Z h a O n d old) (E : Exa Z h a C)
    (La : (Cond.lays C O n d).before a0 Z = true ∨ ((Cond.laysFinal C O n d).before a0 Z = true ∧ own = O ∧ meth.name = "<init>")) (wi : (Cond.instantiable C kk).before a0 Z = true) (hty : parseFieldDescriptor d = some ty) (hn : narrow ty v = v') (hf : fits ty v' = true) (hd : decode bs pc = .ok (.putfield index, 3)) (hp : pc + 3 = pc')
    (k : ∀ T' h', Stand p l e R s m args below meth c T' (locs ++ [⟨a, Jvm.RoadKit.slotOf Z O n d⟩]) cells slots → T'.heap = h' → Wr h h' a (Jvm.RoadKit.slotOf Z O n d) v' → own_End p e below F (T'.setTop (mkF m pc' Ls st))) : own_End p e below F (T.setTop (mkF m pc Ls (v :: .ref a :: st))) := by
  subst hp
  obtain ⟨T', h', X', e', W', stp⟩ := putFN X hx hZ hown w via eT Fd E La wi hty hn hf (g := mkF m pc Ls (v :: .ref a :: st)) rfl rfl (hb hby hd)
  exact own_step stp (k T' h' X' e' W')
theorem own_new (X : Stand p l e R s m args below meth c T locs cells slots) (hx : p.tables.exec = Jvm.exec) (hZ : Z.Warmed39 s.vm) (hby : c.code = bs) {own C : String} {index n : Nat} (hown : s.vm.findClass own = some m.cls) (w : (Cond.classLink own index C).before a0 Z = true) (wi : (Cond.instantiable C n).before a0 Z = true) (wz : (Cond.initialized C).before a0 Z = true) (eT : T.heap = h) (hd : decode bs pc = .ok (.new index, 3)) (hp : pc + 3 = pc') (hc : cells + 1 ≤ R.cells) (hl : slots + n ≤ R.slots)
    (k : ∀ T' h' (b : Addr), b = h.size → Stand p l e R s m args below meth c T' locs (cells + 1) (slots + n) → T'.heap = h' → Ext h h' → Exa Z h' b C → (∀ {O nm d : String} {ty : FieldType}, Laid Z a0 C O nm d → parseFieldDescriptor d = some ty → Fld Z h' b O nm d (defaultValue ty)) → own_End p e below F (T'.setTop (mkF m pc' Ls (.ref b :: st)))) : own_End p e below F (T.setTop (mkF m pc Ls st)) := by
  subst hp
  obtain ⟨T', h', X', e', E', A', D', -, stp⟩ := newO X hx hZ hown w wi wz eT (g := mkF m pc Ls st) rfl (hb hby hd) hc hl
  exact own_step stp (k T' h' h.size rfl X' e' E' A' D')
theorem own_newP (X : Stand p l e R s m args below meth c T locs cells slots) (hx : p.tables.exec = Jvm.exec) (hZ : Z.Warmed39 s.vm) (hby : c.code = bs) {aty : ArrayType} {n : Int32} {cap : Nat} (w : (Cond.arrayClass (newarray.typeOf aty)).before a0 Z = true) (eT : T.heap = h) (hd : decode bs pc = .ok (.newarray aty, 2)) (hp : pc + 2 = pc') (hn : ¬ n < 0) (hcap : n.toNatClampNeg ≤ cap) (hb' : cap * 8 ≤ 536870912) (hc : cells + 1 ≤ R.cells) (hl : slots + cap ≤ R.slots)
    (k : ∀ T' h' cA (b : Addr), b = h.size → Stand p l e R s m args below meth c T' locs (cells + 1) (slots + cap) → T'.heap = h' → Ext h h' → Arr Z h' b (newA cA (newarray.typeOf aty) n) (newarray.typeOf aty) → own_End p e below F (T'.setTop (mkF m pc' Ls (.ref b :: st)))) : own_End p e below F (T.setTop (mkF m pc Ls (.int n :: st))) := by
  subst hp
  obtain ⟨T', h', cA, X', e', E', A', stp⟩ := newP X hx hZ w eT (g := mkF m pc Ls (.int n :: st)) rfl (hb hby hd) rfl hn hcap hb' hc hl
  exact own_step stp (k T' h' cA h.size rfl X' e' E' A')
theorem own_newPE (X : Stand p l e R s m args below meth c T locs cells slots) (hx : p.tables.exec = Jvm.exec) (hZ : Z.Warmed39 s.vm) (hby : c.code = bs) {aty : ArrayType} {n : Int32} {cap : Nat} {ad : String} (had : "[" ++ (newarray.typeOf aty).toString = ad) (w : (Cond.arrayClass (newarray.typeOf aty)).before a0 Z = true) (eT : T.heap = h) (hd : decode bs pc = .ok (.newarray aty, 2)) (hp : pc + 2 = pc') (hn : ¬ n < 0) (hcap : n.toNatClampNeg ≤ cap) (hb' : cap * 8 ≤ 536870912) (hc : cells + 1 ≤ R.cells) (hl : slots + cap ≤ R.slots)
    (k : ∀ T' h' cA (b : Addr), b = h.size → Stand p l e R s m args below meth c T' locs (cells + 1) (slots + cap) → T'.heap = h' → Ext h h' → Arr Z h' b (newA cA (newarray.typeOf aty) n) (newarray.typeOf aty) → Exa Z h' b ad → own_End p e below F (T'.setTop (mkF m pc' Ls (.ref b :: st)))) : own_End p e below F (T.setTop (mkF m pc Ls (.int n :: st))) := by
  subst hp
  obtain ⟨T', h', cA, X', e', E', A', Ex', stp⟩ := newPE X hx hZ w eT (g := mkF m pc Ls (.int n :: st)) rfl (hb hby hd) rfl hn hcap hb' hc hl had
  exact own_step stp (k T' h' cA h.size rfl X' e' E' A' Ex')
theorem own_newR (X : Stand p l e R s m args below meth c T locs cells slots) (hx : p.tables.exec = Jvm.exec) (hZ : Z.Warmed39 s.vm) (hby : c.code = bs) {own C : String} {index : Nat} {n : Int32} {cap : Nat} (hown : s.vm.findClass own = some m.cls) (w1 : (Cond.classLink own index C).before a0 Z = true) (w2 : (Cond.arrayOver (.object C)).before a0 Z = true) (eT : T.heap = h) (hd : decode bs pc = .ok (.anewarray index, 3)) (hp : pc + 3 = pc') (hn : ¬ n < 0) (hcap : n.toNatClampNeg ≤ cap) (hb' : cap * 8 ≤ 536870912) (hc : cells + 1 ≤ R.cells) (hl : slots + cap ≤ R.slots)
    (k : ∀ T' h' cA (b : Addr), b = h.size → Stand p l e R s m args below meth c T' locs (cells + 1) (slots + cap) → T'.heap = h' → Ext h h' → Arr Z h' b (newA cA (.object C) n) (.object C) → Ovr Z cA C → own_End p e below F (T'.setTop (mkF m pc' Ls (.ref b :: st)))) : own_End p e below F (T.setTop (mkF m pc Ls (.int n :: st))) := by
  subst hp
  obtain ⟨T', h', cA, X', e', E', A', O', stp⟩ := newR X hx hZ hown w1 w2 eT (g := mkF m pc Ls (.int n :: st)) rfl (hb hby hd) rfl hn hcap hb' hc hl
  exact own_step stp (k T' h' cA h.size rfl X' e' E' A' O')
theorem own_iastore (X : Stand p l e R s m args below meth c T locs cells slots) (hx : p.tables.exec = Jvm.exec) (hZ : Z.Warmed39 s.vm) (hby : c.code = bs) {a : Addr} {cl : Cell} (eT : T.heap = h) (A : Arr Z h a cl .int) {j : Int32} {x : Int32} (hj : ¬ (j < 0 ∨ cl.slots.size ≤ j.toNatClampNeg)) (hd : decode bs pc = .ok (.iastore, 1)) (hp : pc + 1 = pc')
    (k : ∀ T' h', Stand p l e R s m args below meth c T' (locs ++ [⟨a, j.toNatClampNeg⟩]) cells slots → T'.heap = h' → Wr h h' a j.toNatClampNeg (.int x) → own_End p e below F (T'.setTop (mkF m pc' Ls st))) : own_End p e below F (T.setTop (mkF m pc Ls (.int x :: .int j :: .ref a :: st))) := by
  subst hp
  obtain ⟨T', h', X', e', W', stp⟩ := stI X hx hZ eT A hj (g := mkF m pc Ls (.int x :: .int j :: .ref a :: st)) rfl rfl (hb hby hd)
  exact own_step stp (k T' h' X' e' W')
theorem own_lastore (X : Stand p l e R s m args below meth c T locs cells slots) (hx : p.tables.exec = Jvm.exec) (hZ : Z.Warmed39 s.vm) (hby : c.code = bs) {a : Addr} {cl : Cell} (eT : T.heap = h) (A : Arr Z h a cl .long) {j : Int32} {x : Int64} (hj : ¬ (j < 0 ∨ cl.slots.size ≤ j.toNatClampNeg)) (hd : decode bs pc = .ok (.lastore, 1)) (hp : pc + 1 = pc')
    (k : ∀ T' h', Stand p l e R s m args below meth c T' (locs ++ [⟨a, j.toNatClampNeg⟩]) cells slots → T'.heap = h' → Wr h h' a j.toNatClampNeg (.long x) → own_End p e below F (T'.setTop (mkF m pc' Ls st))) : own_End p e below F (T.setTop (mkF m pc Ls (.long x :: .int j :: .ref a :: st))) := by
  subst hp
  obtain ⟨T', h', X', e', W', stp⟩ := stJ X hx hZ eT A hj (g := mkF m pc Ls (.long x :: .int j :: .ref a :: st)) rfl rfl (hb hby hd)
  exact own_step stp (k T' h' X' e' W')
theorem own_castore (X : Stand p l e R s m args below meth c T locs cells slots) (hx : p.tables.exec = Jvm.exec) (hZ : Z.Warmed39 s.vm) (hby : c.code = bs) {a : Addr} {cl : Cell} (eT : T.heap = h) (A : Arr Z h a cl .char) {j : Int32} {x : Int32} (hj : ¬ (j < 0 ∨ cl.slots.size ≤ j.toNatClampNeg)) (hd : decode bs pc = .ok (.castore, 1)) (hp : pc + 1 = pc')
    (k : ∀ T' h', Stand p l e R s m args below meth c T' (locs ++ [⟨a, j.toNatClampNeg⟩]) cells slots → T'.heap = h' → Wr h h' a j.toNatClampNeg (.int (nar .char x)) → own_End p e below F (T'.setTop (mkF m pc' Ls st))) : own_End p e below F (T.setTop (mkF m pc Ls (.int x :: .int j :: .ref a :: st))) := by
  subst hp
  obtain ⟨T', h', X', e', W', stp⟩ := stC X hx hZ eT A hj (g := mkF m pc Ls (.int x :: .int j :: .ref a :: st)) rfl rfl (hb hby hd)
  exact own_step stp (k T' h' X' e' W')
theorem own_bastore (X : Stand p l e R s m args below meth c T locs cells slots) (hx : p.tables.exec = Jvm.exec) (hZ : Z.Warmed39 s.vm) (hby : c.code = bs) {a : Addr} {cl : Cell} (eT : T.heap = h) (A : Arr Z h a cl .byte) {j : Int32} {x : Int32} (hj : ¬ (j < 0 ∨ cl.slots.size ≤ j.toNatClampNeg)) (hd : decode bs pc = .ok (.bastore, 1)) (hp : pc + 1 = pc')
    (k : ∀ T' h', Stand p l e R s m args below meth c T' (locs ++ [⟨a, j.toNatClampNeg⟩]) cells slots → T'.heap = h' → Wr h h' a j.toNatClampNeg (.int (nar .byte x)) → own_End p e below F (T'.setTop (mkF m pc' Ls st))) : own_End p e below F (T.setTop (mkF m pc Ls (.int x :: .int j :: .ref a :: st))) := by
  subst hp
  obtain ⟨T', h', X', e', W', stp⟩ := stB X hx hZ eT A hj (g := mkF m pc Ls (.int x :: .int j :: .ref a :: st)) rfl rfl (hb hby hd)
  exact own_step stp (k T' h' X' e' W')
theorem own_stR (X : Stand p l e R s m args below meth c T locs cells slots) (hx : p.tables.exec = Jvm.exec) (hZ : Z.Warmed39 s.vm) (hby : c.code = bs) {a : Addr} {cl : Cell} {ty : FieldType} (eT : T.heap = h) (A : Arr Z h a cl ty) {j : Int32} {v : Value} (hj : ¬ (j < 0 ∨ cl.slots.size ≤ j.toNatClampNeg)) (hty : ty.isReference = true) (S : Sto Z h a v) (hd : decode bs pc = .ok (.aastore, 1)) (hp : pc + 1 = pc')
    (k : ∀ T' h', Stand p l e R s m args below meth c T' (locs ++ [⟨a, j.toNatClampNeg⟩]) cells slots → T'.heap = h' → Wr h h' a j.toNatClampNeg v → own_End p e below F (T'.setTop (mkF m pc' Ls st))) : own_End p e below F (T.setTop (mkF m pc Ls (v :: .int j :: .ref a :: st))) := by
  subst hp
  obtain ⟨T', h', X', e', W', stp⟩ := stR X hx hZ eT A hj hty S (g := mkF m pc Ls (v :: .int j :: .ref a :: st)) rfl rfl (hb hby hd)
  exact own_step stp (k T' h' X' e' W')
theorem own_iaload (X : Stand p l e R s m args below meth c T locs cells slots) (hx : p.tables.exec = Jvm.exec) (hZ : Z.Warmed39 s.vm) (hby : c.code = bs) {a : Addr} {cl : Cell} (eT : T.heap = h) (A : Arr Z h a cl .int) {j : Int32} {v : Value} (hj : ¬ (j < 0 ∨ cl.slots.size ≤ j.toNatClampNeg)) (hv : cl.slots[j.toNatClampNeg]? = some v) (hd : decode bs pc = .ok (.iaload, 1)) (hp : pc + 1 = pc') (k : own_End p e below F (T.setTop (mkF m pc' Ls (v :: st)))) : own_End p e below F (T.setTop (mkF m pc Ls (.int j :: .ref a :: st))) := by
  subst hp
  exact own_step (fun t q => X.iaload hx (j := j) (v := v) (by rw [eT]; exact A.1) (State.isArrayOf_alike hZ.alike A.2.1) A.2.2 hj hv (g := mkF m pc Ls (.int j :: .ref a :: st)) rfl rfl (hb hby hd) _ q) k
theorem own_laload (X : Stand p l e R s m args below meth c T locs cells slots) (hx : p.tables.exec = Jvm.exec) (hZ : Z.Warmed39 s.vm) (hby : c.code = bs) {a : Addr} {cl : Cell} (eT : T.heap = h) (A : Arr Z h a cl .long) {j : Int32} {v : Value} (hj : ¬ (j < 0 ∨ cl.slots.size ≤ j.toNatClampNeg)) (hv : cl.slots[j.toNatClampNeg]? = some v) (hd : decode bs pc = .ok (.laload, 1)) (hp : pc + 1 = pc') (k : own_End p e below F (T.setTop (mkF m pc' Ls (v :: st)))) : own_End p e below F (T.setTop (mkF m pc Ls (.int j :: .ref a :: st))) := by
  subst hp
  exact own_step (fun t q => X.laload hx (j := j) (v := v) (by rw [eT]; exact A.1) (State.isArrayOf_alike hZ.alike A.2.1) A.2.2 hj hv (g := mkF m pc Ls (.int j :: .ref a :: st)) rfl rfl (hb hby hd) _ q) k
theorem own_caload (X : Stand p l e R s m args below meth c T locs cells slots) (hx : p.tables.exec = Jvm.exec) (hZ : Z.Warmed39 s.vm) (hby : c.code = bs) {a : Addr} {cl : Cell} (eT : T.heap = h) (A : Arr Z h a cl .char) {j : Int32} {v : Value} (hj : ¬ (j < 0 ∨ cl.slots.size ≤ j.toNatClampNeg)) (hv : cl.slots[j.toNatClampNeg]? = some v) (hd : decode bs pc = .ok (.caload, 1)) (hp : pc + 1 = pc') (k : own_End p e below F (T.setTop (mkF m pc' Ls (v :: st)))) : own_End p e below F (T.setTop (mkF m pc Ls (.int j :: .ref a :: st))) := by
  subst hp
  exact own_step (fun t q => X.caload hx (j := j) (v := v) (by rw [eT]; exact A.1) (State.isArrayOf_alike hZ.alike A.2.1) A.2.2 hj hv (g := mkF m pc Ls (.int j :: .ref a :: st)) rfl rfl (hb hby hd) _ q) k
theorem own_baload (X : Stand p l e R s m args below meth c T locs cells slots) (hx : p.tables.exec = Jvm.exec) (hZ : Z.Warmed39 s.vm) (hby : c.code = bs) {a : Addr} {cl : Cell} (eT : T.heap = h) (A : Arr Z h a cl .byte) {j : Int32} {v : Value} (hj : ¬ (j < 0 ∨ cl.slots.size ≤ j.toNatClampNeg)) (hv : cl.slots[j.toNatClampNeg]? = some v) (hd : decode bs pc = .ok (.baload, 1)) (hp : pc + 1 = pc') (k : own_End p e below F (T.setTop (mkF m pc' Ls (v :: st)))) : own_End p e below F (T.setTop (mkF m pc Ls (.int j :: .ref a :: st))) := by
  subst hp
  exact own_step (fun t q => X.baloadBytes hx (j := j) (v := v) (by rw [eT]; exact A.1) (State.isArrayOf_alike hZ.alike A.2.1) A.2.2 hj hv (g := mkF m pc Ls (.int j :: .ref a :: st)) rfl rfl (hb hby hd) _ q) k
theorem own_aaload (X : Stand p l e R s m args below meth c T locs cells slots) (hx : p.tables.exec = Jvm.exec) (hZ : Z.Warmed39 s.vm) (hby : c.code = bs) {a : Addr} {cl : Cell} {ty : FieldType} (eT : T.heap = h) (A : Arr Z h a cl ty) (hty : ty.isReference = true) {j : Int32} {v : Value} (hj : ¬ (j < 0 ∨ cl.slots.size ≤ j.toNatClampNeg)) (hv : cl.slots[j.toNatClampNeg]? = some v) (hd : decode bs pc = .ok (.aaload, 1)) (hp : pc + 1 = pc') (k : own_End p e below F (T.setTop (mkF m pc' Ls (v :: st)))) : own_End p e below F (T.setTop (mkF m pc Ls (.int j :: .ref a :: st))) := by
  subst hp
  exact own_step (fun t q => X.aaload hx (j := j) (v := v) (by rw [eT]; exact A.1) (State.isArrayOf_alike hZ.alike A.2.1) hty A.2.2 hj hv (g := mkF m pc Ls (.int j :: .ref a :: st)) rfl rfl (hb hby hd) _ q) k
theorem own_alen (X : Stand p l e R s m args below meth c T locs cells slots) (hx : p.tables.exec = Jvm.exec) (hZ : Z.Warmed39 s.vm) (hby : c.code = bs) {a : Addr} {cl : Cell} {ty : FieldType} {z : Int32} (eT : T.heap = h) (A : Arr Z h a cl ty) (S : cl.slots.size = z.toNatClampNeg) (M : ¬ z < 0) (hd : decode bs pc = .ok (.arraylength, 1)) (hp : pc + 1 = pc') (k : own_End p e below F (T.setTop (mkF m pc' Ls (.int z :: st)))) : own_End p e below F (T.setTop (mkF m pc Ls (.ref a :: st))) := by
  subst hp
  have hl := len_of S M
  exact own_step (fun t q => X.arraylength hx (by rw [eT]; exact A.1) (State.isArrayOf_alike hZ.alike A.2.1) (g := mkF m pc Ls (.ref a :: st)) rfl rfl (hb hby hd) _ (by rw [hl]; exact q)) k
theorem own_init (X : Stand p l e R s m args below meth c T locs cells slots) (hx : p.tables.exec = Jvm.exec) (hZ : Z.Warmed39 s.vm) (hby : c.code = bs) {own : String} {index : Nat} {a : Addr} {W : Nat} (hown : s.vm.findClass own = some m.cls) (w1 : (Cond.methodLink own index Lib.objectInit).before a0 Z = true) (w2 : (Cond.instanceMethod Lib.objectInit).before a0 Z = true) (w3 : (Cond.code Lib.objectInit ⟨#[0xb1]⟩ 1 none).before a0 Z = true) (eT : T.heap = h) (hsz : Ls.size = c.maxLocals) (hd : decode bs pc = .ok (.invokespecial index, 3)) (hp : pc + 3 = pc') (hf : 1 ≤ R.frames) (hW : (st.map fun v => v.category).sum ≤ W) (hl : W + 12 ≤ R.locals)
    (k : ∀ T', Stand p l e R s m args below meth c T' locs cells slots → T'.heap = h → own_End p e below F (T'.setTop (mkF m pc' Ls st))) : own_End p e below F (T.setTop (mkF m pc Ls (.ref a :: st))) := by
  subst hp
  obtain ⟨T', X', e', stp⟩ := initO X hx hZ hown w1 w2 w3 eT (g := mkF m pc Ls (.ref a :: st)) rfl hsz rfl (hb hby hd) hf (W := W) (by show 2 * 0 + _ ≤ _; omega) hl
  exact own_step stp (k T' X' e')
theorem own_cast (X : Stand p l e R s m args below meth c T locs cells slots) (hx : p.tables.exec = Jvm.exec) (hZ : Z.Warmed39 s.vm) (hby : c.code = bs) {own K : String} {index : Nat} {a : Addr} (hown : s.vm.findClass own = some m.cls) (w : (Cond.classLink own index K).before a0 Z = true) (eT : T.heap = h) (I : Ins Z h a K true) (hd : decode bs pc = .ok (.checkcast index, 3)) (hp : pc + 3 = pc')
    (k : ∀ T', Stand p l e R s m args below meth c T' locs cells slots → T'.heap = h → own_End p e below F (T'.setTop (mkF m pc' Ls (.ref a :: st)))) : own_End p e below F (T.setTop (mkF m pc Ls (.ref a :: st))) := by
  subst hp
  obtain ⟨T', X', e', stp⟩ := castY X hx hZ hown w eT I (g := mkF m pc Ls (.ref a :: st)) rfl rfl (hb hby hd)
  exact own_step stp (k T' X' e')
theorem own_inst (X : Stand p l e R s m args below meth c T locs cells slots) (hx : p.tables.exec = Jvm.exec) (hZ : Z.Warmed39 s.vm) (hby : c.code = bs) {own K : String} {index : Nat} {a : Addr} (hown : s.vm.findClass own = some m.cls) (w : (Cond.classLink own index K).before a0 Z = true) (eT : T.heap = h) (I : Ins Z h a K true) (hd : decode bs pc = .ok (.instanceof index, 3)) (hp : pc + 3 = pc')
    (k : ∀ T', Stand p l e R s m args below meth c T' locs cells slots → T'.heap = h → own_End p e below F (T'.setTop (mkF m pc' Ls (.int 1 :: st)))) : own_End p e below F (T.setTop (mkF m pc Ls (.ref a :: st))) := by
  subst hp
  obtain ⟨T', X', e', stp⟩ := instY X hx hZ hown w eT I (g := mkF m pc Ls (.ref a :: st)) rfl rfl (hb hby hd)
  exact own_step stp (k T' X' e')
theorem own_instNull (X : Stand p l e R s m args below meth c T locs cells slots) (hx : p.tables.exec = Jvm.exec) (hby : c.code = bs) {index : Nat} (hd : decode bs pc = .ok (.instanceof index, 3)) (hp : pc + 3 = pc') (k : own_End p e below F (T.setTop (mkF m pc' Ls (.int 0 :: st)))) : own_End p e below F (T.setTop (mkF m pc Ls (.null :: st))) := by
  subst hp
  exact own_step (fun t q => X.instanceofNull hx (g := mkF m pc Ls (.null :: st)) rfl rfl (hb hby hd) _ q) k
end Heap
end OwnKit

theorem wd_0 {a0 : Array Value} {Z : State} (hw : ∀ d ∈ tables_1, d.before a0 Z = true) : (Jvm.Cond.arrayClass Jvm.ClassFile.FieldType.byte).before a0 Z = true := hw _ (List.mem_of_getElem? (i := 0) rfl)
theorem wd_1 {a0 : Array Value} {Z : State} (hw : ∀ d ∈ tables_1, d.before a0 Z = true) : (Jvm.Cond.constant "com/example/halyard/halyard/base/XmlSliceStartTagClosePinLaw" (7 : Nat) (65535 : Int32)).before a0 Z = true := hw _ (List.mem_of_getElem? (i := 1) rfl)
theorem wd_2 {a0 : Array Value} {Z : State} (hw : ∀ d ∈ tables_1, d.before a0 Z = true) : (Jvm.Cond.classLink "com/example/halyard/halyard/base/XmlSliceStartTagClosePinLaw" (8 : Nat) "com/example/halyard/halyard/base/XmlScan$StartTag").before a0 Z = true := hw _ (List.mem_of_getElem? (i := 2) rfl)
theorem wd_3 {a0 : Array Value} {Z : State} (hw : ∀ d ∈ tables_1, d.before a0 Z = true) : (Jvm.Cond.instantiable "com/example/halyard/halyard/base/XmlScan$StartTag" (8 : Nat)).before a0 Z = true := hw _ (List.mem_of_getElem? (i := 3) rfl)
theorem wd_4 {a0 : Array Value} {Z : State} (hw : ∀ d ∈ tables_1, d.before a0 Z = true) : (Jvm.Cond.initialized "com/example/halyard/halyard/base/XmlScan$StartTag").before a0 Z = true := hw _ (List.mem_of_getElem? (i := 4) rfl)
theorem wd_5 {a0 : Array Value} {Z : State} (hw : ∀ d ∈ tables_1, d.before a0 Z = true) : (Jvm.Cond.stringLink "com/example/halyard/halyard/base/XmlSliceStartTagClosePinLaw" (10 : Nat) "").before a0 Z = true := hw _ (List.mem_of_getElem? (i := 5) rfl)
theorem wd_6 {a0 : Array Value} {Z : State} (hw : ∀ d ∈ tables_1, d.before a0 Z = true) : (Jvm.Cond.initialized "java/lang/String").before a0 Z = true := hw _ (List.mem_of_getElem? (i := 6) rfl)
theorem wd_7 {a0 : Array Value} {Z : State} (hw : ∀ d ∈ tables_1, d.before a0 Z = true) : (Jvm.Cond.instantiable "java/lang/String" (4 : Nat)).before a0 Z = true := hw _ (List.mem_of_getElem? (i := 7) rfl)
theorem wd_8 {a0 : Array Value} {Z : State} (hw : ∀ d ∈ tables_1, d.before a0 Z = true) : (Jvm.Cond.laysFinal "java/lang/String" "java/lang/String" "value" "[B").before a0 Z = true := hw _ (List.mem_of_getElem? (i := 8) rfl)
theorem wd_9 {a0 : Array Value} {Z : State} (hw : ∀ d ∈ tables_1, d.before a0 Z = true) : (Jvm.Cond.laysFinal "java/lang/String" "java/lang/String" "coder" "B").before a0 Z = true := hw _ (List.mem_of_getElem? (i := 9) rfl)
theorem wd_10 {a0 : Array Value} {Z : State} (hw : ∀ d ∈ tables_1, d.before a0 Z = true) : (Jvm.Cond.soleField "java/lang/String" "value").before a0 Z = true := hw _ (List.mem_of_getElem? (i := 10) rfl)
theorem wd_11 {a0 : Array Value} {Z : State} (hw : ∀ d ∈ tables_1, d.before a0 Z = true) : (Jvm.Cond.soleField "java/lang/String" "coder").before a0 Z = true := hw _ (List.mem_of_getElem? (i := 11) rfl)
theorem wd_12 {a0 : Array Value} {Z : State} (hw : ∀ d ∈ tables_1, d.before a0 Z = true) : (Jvm.Cond.methodLink "com/example/halyard/halyard/base/XmlSliceStartTagClosePinLaw" (12 : Nat) ({ cls := "java/lang/String", name := "valueOf", desc := "(C)Ljava/lang/String;" } : Jvm.MethodName)).before a0 Z = true := hw _ (List.mem_of_getElem? (i := 12) rfl)
theorem wd_13 {a0 : Array Value} {Z : State} (hw : ∀ d ∈ tables_1, d.before a0 Z = true) : (Jvm.Cond.static ({ cls := "java/lang/String", name := "valueOf", desc := "(C)Ljava/lang/String;" } : Jvm.MethodName)).before a0 Z = true := hw _ (List.mem_of_getElem? (i := 13) rfl)
theorem wd_14 {a0 : Array Value} {Z : State} (hw : ∀ d ∈ tables_1, d.before a0 Z = true) : (Jvm.Cond.code ({ cls := "java/lang/String", name := "valueOf", desc := "(C)Ljava/lang/String;" } : Jvm.MethodName) jdk_42_method_139_code (1 : Nat) (Option.some (Jvm.ClassFile.FieldType.object "java/lang/String"))).before a0 Z = true := hw _ (List.mem_of_getElem? (i := 14) rfl)
theorem wd_15 {a0 : Array Value} {Z : State} (hw : ∀ d ∈ tables_1, d.before a0 Z = true) : (Jvm.Cond.fieldLink "java/lang/String" (38 : Nat) "java/lang/String" "COMPACT_STRINGS" "Z").before a0 Z = true := hw _ (List.mem_of_getElem? (i := 15) rfl)
theorem wd_16 {a0 : Array Value} {Z : State} (hw : ∀ d ∈ tables_1, d.before a0 Z = true) : (Jvm.Cond.methodLink "java/lang/String" (1015 : Nat) ({ cls := "java/lang/StringLatin1", name := "canEncode", desc := "(C)Z" } : Jvm.MethodName)).before a0 Z = true := hw _ (List.mem_of_getElem? (i := 16) rfl)
theorem wd_17 {a0 : Array Value} {Z : State} (hw : ∀ d ∈ tables_1, d.before a0 Z = true) : (Jvm.Cond.static ({ cls := "java/lang/StringLatin1", name := "canEncode", desc := "(C)Z" } : Jvm.MethodName)).before a0 Z = true := hw _ (List.mem_of_getElem? (i := 17) rfl)
theorem wd_18 {a0 : Array Value} {Z : State} (hw : ∀ d ∈ tables_1, d.before a0 Z = true) : (Jvm.Cond.initialized "java/lang/StringLatin1").before a0 Z = true := hw _ (List.mem_of_getElem? (i := 18) rfl)
theorem wd_19 {a0 : Array Value} {Z : State} (hw : ∀ d ∈ tables_1, d.before a0 Z = true) : (Jvm.Cond.code ({ cls := "java/lang/StringLatin1", name := "canEncode", desc := "(C)Z" } : Jvm.MethodName) jdk_43_method_3_code (1 : Nat) (Option.some Jvm.ClassFile.FieldType.boolean)).before a0 Z = true := hw _ (List.mem_of_getElem? (i := 19) rfl)
theorem wd_20 {a0 : Array Value} {Z : State} (hw : ∀ d ∈ tables_1, d.before a0 Z = true) : (Jvm.Cond.classLink "java/lang/String" (10 : Nat) "java/lang/String").before a0 Z = true := hw _ (List.mem_of_getElem? (i := 20) rfl)
theorem wd_21 {a0 : Array Value} {Z : State} (hw : ∀ d ∈ tables_1, d.before a0 Z = true) : (Jvm.Cond.methodLink "java/lang/String" (1018 : Nat) ({ cls := "java/lang/StringLatin1", name := "toBytes", desc := "(C)[B" } : Jvm.MethodName)).before a0 Z = true := hw _ (List.mem_of_getElem? (i := 21) rfl)
theorem wd_22 {a0 : Array Value} {Z : State} (hw : ∀ d ∈ tables_1, d.before a0 Z = true) : (Jvm.Cond.static ({ cls := "java/lang/StringLatin1", name := "toBytes", desc := "(C)[B" } : Jvm.MethodName)).before a0 Z = true := hw _ (List.mem_of_getElem? (i := 22) rfl)
theorem wd_23 {a0 : Array Value} {Z : State} (hw : ∀ d ∈ tables_1, d.before a0 Z = true) : (Jvm.Cond.code ({ cls := "java/lang/StringLatin1", name := "toBytes", desc := "(C)[B" } : Jvm.MethodName) jdk_43_method_46_code (1 : Nat) (Option.some (Jvm.ClassFile.FieldType.array Jvm.ClassFile.FieldType.byte))).before a0 Z = true := hw _ (List.mem_of_getElem? (i := 23) rfl)
theorem wd_24 {a0 : Array Value} {Z : State} (hw : ∀ d ∈ tables_1, d.before a0 Z = true) : (Jvm.Cond.methodLink "java/lang/String" (209 : Nat) ({ cls := "java/lang/String", name := "<init>", desc := "([BB)V" } : Jvm.MethodName)).before a0 Z = true := hw _ (List.mem_of_getElem? (i := 24) rfl)
theorem wd_25 {a0 : Array Value} {Z : State} (hw : ∀ d ∈ tables_1, d.before a0 Z = true) : (Jvm.Cond.instanceMethod ({ cls := "java/lang/String", name := "<init>", desc := "([BB)V" } : Jvm.MethodName)).before a0 Z = true := hw _ (List.mem_of_getElem? (i := 25) rfl)
theorem wd_27 {a0 : Array Value} {Z : State} (hw : ∀ d ∈ tables_1, d.before a0 Z = true) : (Jvm.Cond.code ({ cls := "java/lang/String", name := "<init>", desc := "([BB)V" } : Jvm.MethodName) jdk_42_method_151_code (3 : Nat) (Option.none : Option Jvm.ClassFile.FieldType)).before a0 Z = true := hw _ (List.mem_of_getElem? (i := 27) rfl)
theorem wd_28 {a0 : Array Value} {Z : State} (hw : ∀ d ∈ tables_1, d.before a0 Z = true) : (Jvm.Cond.methodLink "java/lang/String" (1 : Nat) ({ cls := "java/lang/Object", name := "<init>", desc := "()V" } : Jvm.MethodName)).before a0 Z = true := hw _ (List.mem_of_getElem? (i := 28) rfl)
theorem wd_29 {a0 : Array Value} {Z : State} (hw : ∀ d ∈ tables_1, d.before a0 Z = true) : (Jvm.Cond.instanceMethod ({ cls := "java/lang/Object", name := "<init>", desc := "()V" } : Jvm.MethodName)).before a0 Z = true := hw _ (List.mem_of_getElem? (i := 29) rfl)
theorem wd_30 {a0 : Array Value} {Z : State} (hw : ∀ d ∈ tables_1, d.before a0 Z = true) : (Jvm.Cond.code ({ cls := "java/lang/Object", name := "<init>", desc := "()V" } : Jvm.MethodName) object_method_1_code (1 : Nat) (Option.none : Option Jvm.ClassFile.FieldType)).before a0 Z = true := hw _ (List.mem_of_getElem? (i := 30) rfl)
theorem wd_31 {a0 : Array Value} {Z : State} (hw : ∀ d ∈ tables_1, d.before a0 Z = true) : (Jvm.Cond.fieldLink "java/lang/String" (9 : Nat) "java/lang/String" "value" "[B").before a0 Z = true := hw _ (List.mem_of_getElem? (i := 31) rfl)
theorem wd_32 {a0 : Array Value} {Z : State} (hw : ∀ d ∈ tables_1, d.before a0 Z = true) : (Jvm.Cond.fieldLink "java/lang/String" (15 : Nat) "java/lang/String" "coder" "B").before a0 Z = true := hw _ (List.mem_of_getElem? (i := 32) rfl)
theorem wd_33 {a0 : Array Value} {Z : State} (hw : ∀ d ∈ tables_1, d.before a0 Z = true) : (Jvm.Cond.arrayClass Jvm.ClassFile.FieldType.int).before a0 Z = true := hw _ (List.mem_of_getElem? (i := 33) rfl)
theorem wd_34 {a0 : Array Value} {Z : State} (hw : ∀ d ∈ tables_1, d.before a0 Z = true) : (Jvm.Cond.methodLink "com/example/halyard/halyard/base/XmlSliceStartTagClosePinLaw" (18 : Nat) ({ cls := "com/example/halyard/halyard/base/XmlScan$StartTag", name := "<init>", desc := "(IIIILjava/lang/String;Ljava/lang/String;[ILjava/util/Map;)V" } : Jvm.MethodName)).before a0 Z = true := hw _ (List.mem_of_getElem? (i := 34) rfl)
theorem wd_35 {a0 : Array Value} {Z : State} (hw : ∀ d ∈ tables_1, d.before a0 Z = true) : (Jvm.Cond.instanceMethod ({ cls := "com/example/halyard/halyard/base/XmlScan$StartTag", name := "<init>", desc := "(IIIILjava/lang/String;Ljava/lang/String;[ILjava/util/Map;)V" } : Jvm.MethodName)).before a0 Z = true := hw _ (List.mem_of_getElem? (i := 35) rfl)
theorem wd_36 {a0 : Array Value} {Z : State} (hw : ∀ d ∈ tables_1, d.before a0 Z = true) : (Jvm.Cond.code ({ cls := "com/example/halyard/halyard/base/XmlScan$StartTag", name := "<init>", desc := "(IIIILjava/lang/String;Ljava/lang/String;[ILjava/util/Map;)V" } : Jvm.MethodName) prog_23_method_1_code (9 : Nat) (Option.none : Option Jvm.ClassFile.FieldType)).before a0 Z = true := hw _ (List.mem_of_getElem? (i := 36) rfl)
theorem wd_37 {a0 : Array Value} {Z : State} (hw : ∀ d ∈ tables_1, d.before a0 Z = true) : (Jvm.Cond.methodLink "com/example/halyard/halyard/base/XmlScan$StartTag" (1 : Nat) ({ cls := "java/lang/Record", name := "<init>", desc := "()V" } : Jvm.MethodName)).before a0 Z = true := hw _ (List.mem_of_getElem? (i := 37) rfl)
theorem wd_38 {a0 : Array Value} {Z : State} (hw : ∀ d ∈ tables_1, d.before a0 Z = true) : (Jvm.Cond.instanceMethod ({ cls := "java/lang/Record", name := "<init>", desc := "()V" } : Jvm.MethodName)).before a0 Z = true := hw _ (List.mem_of_getElem? (i := 38) rfl)
theorem wd_40 {a0 : Array Value} {Z : State} (hw : ∀ d ∈ tables_1, d.before a0 Z = true) : (Jvm.Cond.initialized "java/lang/Record").before a0 Z = true := hw _ (List.mem_of_getElem? (i := 40) rfl)
theorem wd_41 {a0 : Array Value} {Z : State} (hw : ∀ d ∈ tables_1, d.before a0 Z = true) : (Jvm.Cond.code ({ cls := "java/lang/Record", name := "<init>", desc := "()V" } : Jvm.MethodName) jdk_30_method_1_code (1 : Nat) (Option.none : Option Jvm.ClassFile.FieldType)).before a0 Z = true := hw _ (List.mem_of_getElem? (i := 41) rfl)
theorem wd_42 {a0 : Array Value} {Z : State} (hw : ∀ d ∈ tables_1, d.before a0 Z = true) : (Jvm.Cond.methodLink "java/lang/Record" (1 : Nat) ({ cls := "java/lang/Object", name := "<init>", desc := "()V" } : Jvm.MethodName)).before a0 Z = true := hw _ (List.mem_of_getElem? (i := 42) rfl)
theorem wd_43 {a0 : Array Value} {Z : State} (hw : ∀ d ∈ tables_1, d.before a0 Z = true) : (Jvm.Cond.fieldLink "com/example/halyard/halyard/base/XmlScan$StartTag" (7 : Nat) "com/example/halyard/halyard/base/XmlScan$StartTag" "depth" "I").before a0 Z = true := hw _ (List.mem_of_getElem? (i := 43) rfl)
theorem wd_44 {a0 : Array Value} {Z : State} (hw : ∀ d ∈ tables_1, d.before a0 Z = true) : (Jvm.Cond.laysFinal "com/example/halyard/halyard/base/XmlScan$StartTag" "com/example/halyard/halyard/base/XmlScan$StartTag" "depth" "I").before a0 Z = true := hw _ (List.mem_of_getElem? (i := 44) rfl)
theorem wd_45 {a0 : Array Value} {Z : State} (hw : ∀ d ∈ tables_1, d.before a0 Z = true) : (Jvm.Cond.fieldLink "com/example/halyard/halyard/base/XmlScan$StartTag" (13 : Nat) "com/example/halyard/halyard/base/XmlScan$StartTag" "start" "I").before a0 Z = true := hw _ (List.mem_of_getElem? (i := 45) rfl)
theorem wd_46 {a0 : Array Value} {Z : State} (hw : ∀ d ∈ tables_1, d.before a0 Z = true) : (Jvm.Cond.laysFinal "com/example/halyard/halyard/base/XmlScan$StartTag" "com/example/halyard/halyard/base/XmlScan$StartTag" "start" "I").before a0 Z = true := hw _ (List.mem_of_getElem? (i := 46) rfl)
theorem wd_47 {a0 : Array Value} {Z : State} (hw : ∀ d ∈ tables_1, d.before a0 Z = true) : (Jvm.Cond.fieldLink "com/example/halyard/halyard/base/XmlScan$StartTag" (16 : Nat) "com/example/halyard/halyard/base/XmlScan$StartTag" "nameEnd" "I").before a0 Z = true := hw _ (List.mem_of_getElem? (i := 47) rfl)
theorem wd_48 {a0 : Array Value} {Z : State} (hw : ∀ d ∈ tables_1, d.before a0 Z = true) : (Jvm.Cond.laysFinal "com/example/halyard/halyard/base/XmlScan$StartTag" "com/example/halyard/halyard/base/XmlScan$StartTag" "nameEnd" "I").before a0 Z = true := hw _ (List.mem_of_getElem? (i := 48) rfl)
theorem wd_49 {a0 : Array Value} {Z : State} (hw : ∀ d ∈ tables_1, d.before a0 Z = true) : (Jvm.Cond.fieldLink "com/example/halyard/halyard/base/XmlScan$StartTag" (19 : Nat) "com/example/halyard/halyard/base/XmlScan$StartTag" "end" "I").before a0 Z = true := hw _ (List.mem_of_getElem? (i := 49) rfl)
theorem wd_50 {a0 : Array Value} {Z : State} (hw : ∀ d ∈ tables_1, d.before a0 Z = true) : (Jvm.Cond.laysFinal "com/example/halyard/halyard/base/XmlScan$StartTag" "com/example/halyard/halyard/base/XmlScan$StartTag" "end" "I").before a0 Z = true := hw _ (List.mem_of_getElem? (i := 50) rfl)
theorem wd_51 {a0 : Array Value} {Z : State} (hw : ∀ d ∈ tables_1, d.before a0 Z = true) : (Jvm.Cond.fieldLink "com/example/halyard/halyard/base/XmlScan$StartTag" (22 : Nat) "com/example/halyard/halyard/base/XmlScan$StartTag" "namespace" "Ljava/lang/String;").before a0 Z = true := hw _ (List.mem_of_getElem? (i := 51) rfl)
theorem wd_52 {a0 : Array Value} {Z : State} (hw : ∀ d ∈ tables_1, d.before a0 Z = true) : (Jvm.Cond.laysFinal "com/example/halyard/halyard/base/XmlScan$StartTag" "com/example/halyard/halyard/base/XmlScan$StartTag" "namespace" "Ljava/lang/String;").before a0 Z = true := hw _ (List.mem_of_getElem? (i := 52) rfl)
theorem wd_53 {a0 : Array Value} {Z : State} (hw : ∀ d ∈ tables_1, d.before a0 Z = true) : (Jvm.Cond.fieldLink "com/example/halyard/halyard/base/XmlScan$StartTag" (26 : Nat) "com/example/halyard/halyard/base/XmlScan$StartTag" "localName" "Ljava/lang/String;").before a0 Z = true := hw _ (List.mem_of_getElem? (i := 53) rfl)
theorem wd_54 {a0 : Array Value} {Z : State} (hw : ∀ d ∈ tables_1, d.before a0 Z = true) : (Jvm.Cond.laysFinal "com/example/halyard/halyard/base/XmlScan$StartTag" "com/example/halyard/halyard/base/XmlScan$StartTag" "localName" "Ljava/lang/String;").before a0 Z = true := hw _ (List.mem_of_getElem? (i := 54) rfl)
theorem wd_55 {a0 : Array Value} {Z : State} (hw : ∀ d ∈ tables_1, d.before a0 Z = true) : (Jvm.Cond.fieldLink "com/example/halyard/halyard/base/XmlScan$StartTag" (29 : Nat) "com/example/halyard/halyard/base/XmlScan$StartTag" "attributes" "[I").before a0 Z = true := hw _ (List.mem_of_getElem? (i := 55) rfl)
theorem wd_56 {a0 : Array Value} {Z : State} (hw : ∀ d ∈ tables_1, d.before a0 Z = true) : (Jvm.Cond.laysFinal "com/example/halyard/halyard/base/XmlScan$StartTag" "com/example/halyard/halyard/base/XmlScan$StartTag" "attributes" "[I").before a0 Z = true := hw _ (List.mem_of_getElem? (i := 56) rfl)
theorem wd_57 {a0 : Array Value} {Z : State} (hw : ∀ d ∈ tables_1, d.before a0 Z = true) : (Jvm.Cond.fieldLink "com/example/halyard/halyard/base/XmlScan$StartTag" (33 : Nat) "com/example/halyard/halyard/base/XmlScan$StartTag" "scope" "Ljava/util/Map;").before a0 Z = true := hw _ (List.mem_of_getElem? (i := 57) rfl)
theorem wd_58 {a0 : Array Value} {Z : State} (hw : ∀ d ∈ tables_1, d.before a0 Z = true) : (Jvm.Cond.laysFinal "com/example/halyard/halyard/base/XmlScan$StartTag" "com/example/halyard/halyard/base/XmlScan$StartTag" "scope" "Ljava/util/Map;").before a0 Z = true := hw _ (List.mem_of_getElem? (i := 58) rfl)
theorem wd_59 {a0 : Array Value} {Z : State} (hw : ∀ d ∈ tables_1, d.before a0 Z = true) : (Jvm.Cond.classLink "com/example/halyard/halyard/base/XmlSliceStartTagClosePinLaw" (21 : Nat) "com/example/halyard/halyard/base/XmlSlice").before a0 Z = true := hw _ (List.mem_of_getElem? (i := 59) rfl)
theorem wd_60 {a0 : Array Value} {Z : State} (hw : ∀ d ∈ tables_1, d.before a0 Z = true) : (Jvm.Cond.instantiable "com/example/halyard/halyard/base/XmlSlice" (5 : Nat)).before a0 Z = true := hw _ (List.mem_of_getElem? (i := 60) rfl)
theorem wd_61 {a0 : Array Value} {Z : State} (hw : ∀ d ∈ tables_1, d.before a0 Z = true) : (Jvm.Cond.initialized "com/example/halyard/halyard/base/XmlSlice").before a0 Z = true := hw _ (List.mem_of_getElem? (i := 61) rfl)
theorem wd_62 {a0 : Array Value} {Z : State} (hw : ∀ d ∈ tables_1, d.before a0 Z = true) : (Jvm.Cond.methodLink "com/example/halyard/halyard/base/XmlSliceStartTagClosePinLaw" (23 : Nat) ({ cls := "com/example/halyard/halyard/base/XmlSlice", name := "<init>", desc := "([BLcom/example/halyard/halyard/base/XmlScan$StartTag;ILjava/util/List;[I)V" } : Jvm.MethodName)).before a0 Z = true := hw _ (List.mem_of_getElem? (i := 62) rfl)
theorem wd_63 {a0 : Array Value} {Z : State} (hw : ∀ d ∈ tables_1, d.before a0 Z = true) : (Jvm.Cond.instanceMethod ({ cls := "com/example/halyard/halyard/base/XmlSlice", name := "<init>", desc := "([BLcom/example/halyard/halyard/base/XmlScan$StartTag;ILjava/util/List;[I)V" } : Jvm.MethodName)).before a0 Z = true := hw _ (List.mem_of_getElem? (i := 63) rfl)
theorem wd_64 {a0 : Array Value} {Z : State} (hw : ∀ d ∈ tables_1, d.before a0 Z = true) : (Jvm.Cond.code ({ cls := "com/example/halyard/halyard/base/XmlSlice", name := "<init>", desc := "([BLcom/example/halyard/halyard/base/XmlScan$StartTag;ILjava/util/List;[I)V" } : Jvm.MethodName) prog_24_method_1_code (6 : Nat) (Option.none : Option Jvm.ClassFile.FieldType)).before a0 Z = true := hw _ (List.mem_of_getElem? (i := 64) rfl)
theorem wd_65 {a0 : Array Value} {Z : State} (hw : ∀ d ∈ tables_1, d.before a0 Z = true) : (Jvm.Cond.methodLink "com/example/halyard/halyard/base/XmlSlice" (1 : Nat) ({ cls := "java/lang/Object", name := "<init>", desc := "()V" } : Jvm.MethodName)).before a0 Z = true := hw _ (List.mem_of_getElem? (i := 65) rfl)
theorem wd_66 {a0 : Array Value} {Z : State} (hw : ∀ d ∈ tables_1, d.before a0 Z = true) : (Jvm.Cond.fieldLink "com/example/halyard/halyard/base/XmlSlice" (7 : Nat) "com/example/halyard/halyard/base/XmlSlice" "document" "[B").before a0 Z = true := hw _ (List.mem_of_getElem? (i := 66) rfl)
theorem wd_67 {a0 : Array Value} {Z : State} (hw : ∀ d ∈ tables_1, d.before a0 Z = true) : (Jvm.Cond.laysFinal "com/example/halyard/halyard/base/XmlSlice" "com/example/halyard/halyard/base/XmlSlice" "document" "[B").before a0 Z = true := hw _ (List.mem_of_getElem? (i := 67) rfl)
theorem wd_68 {a0 : Array Value} {Z : State} (hw : ∀ d ∈ tables_1, d.before a0 Z = true) : (Jvm.Cond.fieldLink "com/example/halyard/halyard/base/XmlSlice" (13 : Nat) "com/example/halyard/halyard/base/XmlSlice" "tag" "Lcom/example/halyard/halyard/base/XmlScan$StartTag;").before a0 Z = true := hw _ (List.mem_of_getElem? (i := 68) rfl)
theorem wd_69 {a0 : Array Value} {Z : State} (hw : ∀ d ∈ tables_1, d.before a0 Z = true) : (Jvm.Cond.laysFinal "com/example/halyard/halyard/base/XmlSlice" "com/example/halyard/halyard/base/XmlSlice" "tag" "Lcom/example/halyard/halyard/base/XmlScan$StartTag;").before a0 Z = true := hw _ (List.mem_of_getElem? (i := 69) rfl)
theorem wd_70 {a0 : Array Value} {Z : State} (hw : ∀ d ∈ tables_1, d.before a0 Z = true) : (Jvm.Cond.fieldLink "com/example/halyard/halyard/base/XmlSlice" (17 : Nat) "com/example/halyard/halyard/base/XmlSlice" "end" "I").before a0 Z = true := hw _ (List.mem_of_getElem? (i := 70) rfl)
theorem wd_71 {a0 : Array Value} {Z : State} (hw : ∀ d ∈ tables_1, d.before a0 Z = true) : (Jvm.Cond.laysFinal "com/example/halyard/halyard/base/XmlSlice" "com/example/halyard/halyard/base/XmlSlice" "end" "I").before a0 Z = true := hw _ (List.mem_of_getElem? (i := 71) rfl)
theorem wd_72 {a0 : Array Value} {Z : State} (hw : ∀ d ∈ tables_1, d.before a0 Z = true) : (Jvm.Cond.fieldLink "com/example/halyard/halyard/base/XmlSlice" (21 : Nat) "com/example/halyard/halyard/base/XmlSlice" "children" "Ljava/util/List;").before a0 Z = true := hw _ (List.mem_of_getElem? (i := 72) rfl)
theorem wd_73 {a0 : Array Value} {Z : State} (hw : ∀ d ∈ tables_1, d.before a0 Z = true) : (Jvm.Cond.laysFinal "com/example/halyard/halyard/base/XmlSlice" "com/example/halyard/halyard/base/XmlSlice" "children" "Ljava/util/List;").before a0 Z = true := hw _ (List.mem_of_getElem? (i := 73) rfl)
theorem wd_74 {a0 : Array Value} {Z : State} (hw : ∀ d ∈ tables_1, d.before a0 Z = true) : (Jvm.Cond.fieldLink "com/example/halyard/halyard/base/XmlSlice" (25 : Nat) "com/example/halyard/halyard/base/XmlSlice" "held" "[I").before a0 Z = true := hw _ (List.mem_of_getElem? (i := 74) rfl)
theorem wd_75 {a0 : Array Value} {Z : State} (hw : ∀ d ∈ tables_1, d.before a0 Z = true) : (Jvm.Cond.laysFinal "com/example/halyard/halyard/base/XmlSlice" "com/example/halyard/halyard/base/XmlSlice" "held" "[I").before a0 Z = true := hw _ (List.mem_of_getElem? (i := 75) rfl)
theorem wd_76 {a0 : Array Value} {Z : State} (hw : ∀ d ∈ tables_1, d.before a0 Z = true) : (Jvm.Cond.methodLink "com/example/halyard/halyard/base/XmlSliceStartTagClosePinLaw" (26 : Nat) ({ cls := "com/example/halyard/halyard/base/XmlSlice", name := "startTagClose", desc := "()I" } : Jvm.MethodName)).before a0 Z = true := hw _ (List.mem_of_getElem? (i := 76) rfl)
theorem wd_77 {a0 : Array Value} {Z : State} (hw : ∀ d ∈ tables_1, d.before a0 Z = true) : (Jvm.Cond.declares ({ cls := "com/example/halyard/halyard/base/XmlSlice", name := "startTagClose", desc := "()I" } : Jvm.MethodName)).before a0 Z = true := hw _ (List.mem_of_getElem? (i := 77) rfl)
theorem wd_78 {a0 : Array Value} {Z : State} (hw : ∀ d ∈ tables_1, d.before a0 Z = true) : (Jvm.Cond.instanceMethod ({ cls := "com/example/halyard/halyard/base/XmlSlice", name := "startTagClose", desc := "()I" } : Jvm.MethodName)).before a0 Z = true := hw _ (List.mem_of_getElem? (i := 78) rfl)
theorem wd_79 {a0 : Array Value} {Z : State} (hw : ∀ d ∈ tables_1, d.before a0 Z = true) : (Jvm.Cond.selects "com/example/halyard/halyard/base/XmlSlice" ({ cls := "com/example/halyard/halyard/base/XmlSlice", name := "startTagClose", desc := "()I" } : Jvm.MethodName) ({ cls := "com/example/halyard/halyard/base/XmlSlice", name := "startTagClose", desc := "()I" } : Jvm.MethodName)).before a0 Z = true := hw _ (List.mem_of_getElem? (i := 79) rfl)
theorem wd_80 {a0 : Array Value} {Z : State} (hw : ∀ d ∈ tables_1, d.before a0 Z = true) : (Jvm.Cond.code ({ cls := "com/example/halyard/halyard/base/XmlSlice", name := "startTagClose", desc := "()I" } : Jvm.MethodName) prog_24_method_14_code (1 : Nat) (Option.some Jvm.ClassFile.FieldType.int)).before a0 Z = true := hw _ (List.mem_of_getElem? (i := 80) rfl)
theorem wd_81 {a0 : Array Value} {Z : State} (hw : ∀ d ∈ tables_1, d.before a0 Z = true) : (Jvm.Cond.methodLink "com/example/halyard/halyard/base/XmlSlice" (141 : Nat) ({ cls := "com/example/halyard/halyard/base/XmlScan$StartTag", name := "end", desc := "()I" } : Jvm.MethodName)).before a0 Z = true := hw _ (List.mem_of_getElem? (i := 81) rfl)
theorem wd_82 {a0 : Array Value} {Z : State} (hw : ∀ d ∈ tables_1, d.before a0 Z = true) : (Jvm.Cond.declares ({ cls := "com/example/halyard/halyard/base/XmlScan$StartTag", name := "end", desc := "()I" } : Jvm.MethodName)).before a0 Z = true := hw _ (List.mem_of_getElem? (i := 82) rfl)
theorem wd_83 {a0 : Array Value} {Z : State} (hw : ∀ d ∈ tables_1, d.before a0 Z = true) : (Jvm.Cond.instanceMethod ({ cls := "com/example/halyard/halyard/base/XmlScan$StartTag", name := "end", desc := "()I" } : Jvm.MethodName)).before a0 Z = true := hw _ (List.mem_of_getElem? (i := 83) rfl)
theorem wd_84 {a0 : Array Value} {Z : State} (hw : ∀ d ∈ tables_1, d.before a0 Z = true) : (Jvm.Cond.selects "com/example/halyard/halyard/base/XmlScan$StartTag" ({ cls := "com/example/halyard/halyard/base/XmlScan$StartTag", name := "end", desc := "()I" } : Jvm.MethodName) ({ cls := "com/example/halyard/halyard/base/XmlScan$StartTag", name := "end", desc := "()I" } : Jvm.MethodName)).before a0 Z = true := hw _ (List.mem_of_getElem? (i := 84) rfl)
theorem wd_85 {a0 : Array Value} {Z : State} (hw : ∀ d ∈ tables_1, d.before a0 Z = true) : (Jvm.Cond.code ({ cls := "com/example/halyard/halyard/base/XmlScan$StartTag", name := "end", desc := "()I" } : Jvm.MethodName) prog_23_method_8_code (1 : Nat) (Option.some Jvm.ClassFile.FieldType.int)).before a0 Z = true := hw _ (List.mem_of_getElem? (i := 85) rfl)
theorem d1_0 : decode jdk_42_method_139_code 0 = .ok (.getstatic 38, 3) := by decide +kernel
theorem d1_3 : decode jdk_42_method_139_code 3 = .ok (.ifCond .eq 23, 3) := by decide +kernel
theorem d1_6 : decode jdk_42_method_139_code 6 = .ok (.iload_n 0, 1) := by decide +kernel
theorem d1_7 : decode jdk_42_method_139_code 7 = .ok (.invokestatic 1015, 3) := by decide +kernel
theorem d1_10 : decode jdk_42_method_139_code 10 = .ok (.ifCond .eq 16, 3) := by decide +kernel
theorem d1_13 : decode jdk_42_method_139_code 13 = .ok (.new 10, 3) := by decide +kernel
theorem d1_16 : decode jdk_42_method_139_code 16 = .ok (.dup, 1) := by decide +kernel
theorem d1_17 : decode jdk_42_method_139_code 17 = .ok (.iload_n 0, 1) := by decide +kernel
theorem d1_18 : decode jdk_42_method_139_code 18 = .ok (.invokestatic 1018, 3) := by decide +kernel
theorem d1_21 : decode jdk_42_method_139_code 21 = .ok (.iconst 0, 1) := by decide +kernel
theorem d1_22 : decode jdk_42_method_139_code 22 = .ok (.invokespecial 209, 3) := by decide +kernel
theorem d1_25 : decode jdk_42_method_139_code 25 = .ok (.areturn, 1) := by decide +kernel
theorem d2_0 : decode jdk_43_method_3_code 0 = .ok (.iload_n 0, 1) := by decide +kernel
theorem d2_1 : decode jdk_43_method_3_code 1 = .ok (.sipush 255, 3) := by decide +kernel
theorem d2_4 : decode jdk_43_method_3_code 4 = .ok (.if_icmp .gt 7, 3) := by decide +kernel
theorem d2_7 : decode jdk_43_method_3_code 7 = .ok (.iconst 1, 1) := by decide +kernel
theorem d2_8 : decode jdk_43_method_3_code 8 = .ok (.goto 4, 3) := by decide +kernel
theorem d2_12 : decode jdk_43_method_3_code 12 = .ok (.ireturn, 1) := by decide +kernel
theorem d3_0 : decode jdk_43_method_46_code 0 = .ok (.iconst 1, 1) := by decide +kernel
theorem d3_1 : decode jdk_43_method_46_code 1 = .ok (.newarray .byte, 2) := by decide +kernel
theorem d3_3 : decode jdk_43_method_46_code 3 = .ok (.dup, 1) := by decide +kernel
theorem d3_4 : decode jdk_43_method_46_code 4 = .ok (.iconst 0, 1) := by decide +kernel
theorem d3_5 : decode jdk_43_method_46_code 5 = .ok (.iload_n 0, 1) := by decide +kernel
theorem d3_6 : decode jdk_43_method_46_code 6 = .ok (.i2b, 1) := by decide +kernel
theorem d3_7 : decode jdk_43_method_46_code 7 = .ok (.bastore, 1) := by decide +kernel
theorem d3_8 : decode jdk_43_method_46_code 8 = .ok (.areturn, 1) := by decide +kernel
theorem d4_0 : decode jdk_42_method_151_code 0 = .ok (.aload_n 0, 1) := by decide +kernel
theorem d4_1 : decode jdk_42_method_151_code 1 = .ok (.invokespecial 1, 3) := by decide +kernel
theorem d4_4 : decode jdk_42_method_151_code 4 = .ok (.aload_n 0, 1) := by decide +kernel
theorem d4_5 : decode jdk_42_method_151_code 5 = .ok (.aload_n 1, 1) := by decide +kernel
theorem d4_6 : decode jdk_42_method_151_code 6 = .ok (.putfield 9, 3) := by decide +kernel
theorem d4_9 : decode jdk_42_method_151_code 9 = .ok (.aload_n 0, 1) := by decide +kernel
theorem d4_10 : decode jdk_42_method_151_code 10 = .ok (.iload_n 2, 1) := by decide +kernel
theorem d4_11 : decode jdk_42_method_151_code 11 = .ok (.putfield 15, 3) := by decide +kernel
theorem d4_14 : decode jdk_42_method_151_code 14 = .ok (.return_, 1) := by decide +kernel
theorem d6_0 : decode prog_23_method_1_code 0 = .ok (.aload_n 0, 1) := by decide +kernel
theorem d6_1 : decode prog_23_method_1_code 1 = .ok (.invokespecial 1, 3) := by decide +kernel
theorem d6_4 : decode prog_23_method_1_code 4 = .ok (.aload_n 0, 1) := by decide +kernel
theorem d6_5 : decode prog_23_method_1_code 5 = .ok (.iload_n 1, 1) := by decide +kernel
theorem d6_6 : decode prog_23_method_1_code 6 = .ok (.putfield 7, 3) := by decide +kernel
theorem d6_9 : decode prog_23_method_1_code 9 = .ok (.aload_n 0, 1) := by decide +kernel
theorem d6_10 : decode prog_23_method_1_code 10 = .ok (.iload_n 2, 1) := by decide +kernel
theorem d6_11 : decode prog_23_method_1_code 11 = .ok (.putfield 13, 3) := by decide +kernel
theorem d6_14 : decode prog_23_method_1_code 14 = .ok (.aload_n 0, 1) := by decide +kernel
theorem d6_15 : decode prog_23_method_1_code 15 = .ok (.iload_n 3, 1) := by decide +kernel
theorem d6_16 : decode prog_23_method_1_code 16 = .ok (.putfield 16, 3) := by decide +kernel
theorem d6_19 : decode prog_23_method_1_code 19 = .ok (.aload_n 0, 1) := by decide +kernel
theorem d6_20 : decode prog_23_method_1_code 20 = .ok (.iload 4, 2) := by decide +kernel
theorem d6_22 : decode prog_23_method_1_code 22 = .ok (.putfield 19, 3) := by decide +kernel
theorem d6_25 : decode prog_23_method_1_code 25 = .ok (.aload_n 0, 1) := by decide +kernel
theorem d6_26 : decode prog_23_method_1_code 26 = .ok (.aload 5, 2) := by decide +kernel
theorem d6_28 : decode prog_23_method_1_code 28 = .ok (.putfield 22, 3) := by decide +kernel
theorem d6_31 : decode prog_23_method_1_code 31 = .ok (.aload_n 0, 1) := by decide +kernel
theorem d6_32 : decode prog_23_method_1_code 32 = .ok (.aload 6, 2) := by decide +kernel
theorem d6_34 : decode prog_23_method_1_code 34 = .ok (.putfield 26, 3) := by decide +kernel
theorem d6_37 : decode prog_23_method_1_code 37 = .ok (.aload_n 0, 1) := by decide +kernel
theorem d6_38 : decode prog_23_method_1_code 38 = .ok (.aload 7, 2) := by decide +kernel
theorem d6_40 : decode prog_23_method_1_code 40 = .ok (.putfield 29, 3) := by decide +kernel
theorem d6_43 : decode prog_23_method_1_code 43 = .ok (.aload_n 0, 1) := by decide +kernel
theorem d6_44 : decode prog_23_method_1_code 44 = .ok (.aload 8, 2) := by decide +kernel
theorem d6_46 : decode prog_23_method_1_code 46 = .ok (.putfield 33, 3) := by decide +kernel
theorem d6_49 : decode prog_23_method_1_code 49 = .ok (.return_, 1) := by decide +kernel
theorem d7_0 : decode jdk_30_method_1_code 0 = .ok (.aload_n 0, 1) := by decide +kernel
theorem d7_1 : decode jdk_30_method_1_code 1 = .ok (.invokespecial 1, 3) := by decide +kernel
theorem d7_4 : decode jdk_30_method_1_code 4 = .ok (.return_, 1) := by decide +kernel
theorem d8_0 : decode prog_24_method_1_code 0 = .ok (.aload_n 0, 1) := by decide +kernel
theorem d8_1 : decode prog_24_method_1_code 1 = .ok (.invokespecial 1, 3) := by decide +kernel
theorem d8_4 : decode prog_24_method_1_code 4 = .ok (.aload_n 0, 1) := by decide +kernel
theorem d8_5 : decode prog_24_method_1_code 5 = .ok (.aload_n 1, 1) := by decide +kernel
theorem d8_6 : decode prog_24_method_1_code 6 = .ok (.putfield 7, 3) := by decide +kernel
theorem d8_9 : decode prog_24_method_1_code 9 = .ok (.aload_n 0, 1) := by decide +kernel
theorem d8_10 : decode prog_24_method_1_code 10 = .ok (.aload_n 2, 1) := by decide +kernel
theorem d8_11 : decode prog_24_method_1_code 11 = .ok (.putfield 13, 3) := by decide +kernel
theorem d8_14 : decode prog_24_method_1_code 14 = .ok (.aload_n 0, 1) := by decide +kernel
theorem d8_15 : decode prog_24_method_1_code 15 = .ok (.iload_n 3, 1) := by decide +kernel
theorem d8_16 : decode prog_24_method_1_code 16 = .ok (.putfield 17, 3) := by decide +kernel
theorem d8_19 : decode prog_24_method_1_code 19 = .ok (.aload_n 0, 1) := by decide +kernel
theorem d8_20 : decode prog_24_method_1_code 20 = .ok (.aload 4, 2) := by decide +kernel
theorem d8_22 : decode prog_24_method_1_code 22 = .ok (.putfield 21, 3) := by decide +kernel
theorem d8_25 : decode prog_24_method_1_code 25 = .ok (.aload_n 0, 1) := by decide +kernel
theorem d8_26 : decode prog_24_method_1_code 26 = .ok (.aload 5, 2) := by decide +kernel
theorem d8_28 : decode prog_24_method_1_code 28 = .ok (.putfield 25, 3) := by decide +kernel
theorem d8_31 : decode prog_24_method_1_code 31 = .ok (.return_, 1) := by decide +kernel
theorem d9_0 : decode prog_24_method_14_code 0 = .ok (.aload_n 0, 1) := by decide +kernel
theorem d9_1 : decode prog_24_method_14_code 1 = .ok (.getfield 7, 3) := by decide +kernel
theorem d9_4 : decode prog_24_method_14_code 4 = .ok (.aload_n 0, 1) := by decide +kernel
theorem d9_5 : decode prog_24_method_14_code 5 = .ok (.getfield 13, 3) := by decide +kernel
theorem d9_8 : decode prog_24_method_14_code 8 = .ok (.invokevirtual 141, 3) := by decide +kernel
theorem d9_11 : decode prog_24_method_14_code 11 = .ok (.iconst 2, 1) := by decide +kernel
theorem d9_12 : decode prog_24_method_14_code 12 = .ok (.isub, 1) := by decide +kernel
theorem d9_13 : decode prog_24_method_14_code 13 = .ok (.baload, 1) := by decide +kernel
theorem d9_14 : decode prog_24_method_14_code 14 = .ok (.bipush 47, 2) := by decide +kernel
theorem d9_16 : decode prog_24_method_14_code 16 = .ok (.if_icmp .ne 15, 3) := by decide +kernel
theorem d9_19 : decode prog_24_method_14_code 19 = .ok (.aload_n 0, 1) := by decide +kernel
theorem d9_20 : decode prog_24_method_14_code 20 = .ok (.getfield 13, 3) := by decide +kernel
theorem d9_23 : decode prog_24_method_14_code 23 = .ok (.invokevirtual 141, 3) := by decide +kernel
theorem d9_26 : decode prog_24_method_14_code 26 = .ok (.iconst 2, 1) := by decide +kernel
theorem d9_27 : decode prog_24_method_14_code 27 = .ok (.isub, 1) := by decide +kernel
theorem d9_28 : decode prog_24_method_14_code 28 = .ok (.goto 12, 3) := by decide +kernel
theorem d9_31 : decode prog_24_method_14_code 31 = .ok (.aload_n 0, 1) := by decide +kernel
theorem d9_32 : decode prog_24_method_14_code 32 = .ok (.getfield 13, 3) := by decide +kernel
theorem d9_35 : decode prog_24_method_14_code 35 = .ok (.invokevirtual 141, 3) := by decide +kernel
theorem d9_38 : decode prog_24_method_14_code 38 = .ok (.iconst 1, 1) := by decide +kernel
theorem d9_39 : decode prog_24_method_14_code 39 = .ok (.isub, 1) := by decide +kernel
theorem d9_40 : decode prog_24_method_14_code 40 = .ok (.ireturn, 1) := by decide +kernel
theorem d10_0 : decode prog_23_method_8_code 0 = .ok (.aload_n 0, 1) := by decide +kernel
theorem d10_1 : decode prog_23_method_8_code 1 = .ok (.getfield 19, 3) := by decide +kernel
theorem d10_4 : decode prog_23_method_8_code 4 = .ok (.ireturn, 1) := by decide +kernel
theorem own_pn0 : plainName "java/lang/StringLatin1" = true := by first | (simp [plainName, overriddenIn]; done) | decide +kernel
theorem own_pn1 : plainName "java/lang/String" = true := by first | (simp [plainName, overriddenIn]; done) | decide +kernel
theorem own_pd2 : parseMethodDescriptor "(C)Z" = some ⟨[.char], some .boolean⟩ := by decide +kernel
theorem own_pd3 : parseMethodDescriptor "(C)[B" = some ⟨[.char], some (.array .byte)⟩ := by decide +kernel
theorem own_pd4 : parseMethodDescriptor "([BB)V" = some ⟨[(.array .byte), .byte], none⟩ := by decide +kernel
theorem own_pn5 : plainName "java/lang/Record" = true := by first | (simp [plainName, overriddenIn]; done) | decide +kernel
theorem own_pd6 : parseMethodDescriptor "()V" = some ⟨[], none⟩ := by decide +kernel
theorem own_pn7 : plainName "com/example/halyard/halyard/base/XmlScan$StartTag" = true := by first | (simp [plainName, overriddenIn]; done) | decide +kernel
theorem own_pn8 : plainName "com/example/halyard/halyard/base/XmlSlice" = true := by first | (simp [plainName, overriddenIn]; done) | decide +kernel
theorem own_pd9 : parseMethodDescriptor "()I" = some ⟨[], some .int⟩ := by decide +kernel
theorem own_wS {a0 : Array Value} {Z : State} (hw : ∀ d ∈ tables_1, d.before a0 Z = true) : ∀ a ∈ Bundle.stringAtoms, a.before a0 Z = true := by
  intro d hd
  simp only [Bundle.stringAtoms, List.mem_cons, List.not_mem_nil, or_false] at hd
  rcases hd with rfl | rfl | rfl | rfl | rfl | rfl | rfl
  · exact wd_6 hw
  · exact wd_7 hw
  · exact wd_0 hw
  · exact wd_8 hw
  · exact wd_9 hw
  · exact wd_10 hw
  · exact wd_11 hw
theorem own_pd10 : parseMethodDescriptor "(C)Ljava/lang/String;" = some ⟨[.char], some (.object "java/lang/String")⟩ := by decide +kernel
theorem own_pd11 : parseMethodDescriptor "(IIIILjava/lang/String;Ljava/lang/String;[ILjava/util/Map;)V" = some ⟨[.int, .int, .int, .int, (.object "java/lang/String"), (.object "java/lang/String"), (.array .int), (.object "java/util/Map")], none⟩ := by decide +kernel
theorem own_pd12 : parseMethodDescriptor "([BLcom/example/halyard/halyard/base/XmlScan$StartTag;ILjava/util/List;[I)V" = some ⟨[(.array .byte), (.object "com/example/halyard/halyard/base/XmlScan$StartTag"), .int, (.object "java/util/List"), (.array .int)], none⟩ := by decide +kernel
theorem own_pn13 : plainName "com/example/halyard/halyard/base/XmlSliceStartTagClosePinLaw" = true := by first | (simp [plainName, overriddenIn]; done) | decide +kernel
set_option maxRecDepth 65536 in
theorem own_lk0 {p : Program} {l : Launch} {e : Env} {R : Room} {s : State} {m : MethodId} {args : Array Value} {below : List Frame} {meth : Method} {c : Code} {T : State} {locs : List Loc} {cells slots : Nat} {F : Option Value → State → Prop} {bs : ByteArray} {pc pc' : Nat} {Ls : Array Slot} {Z : State} {a0 : Array Value} {h : Heap} {x0 : Value} {rest : List Value} {W : Nat} {rm : Room} {Q : Option Value → Heap → List Loc → Prop} (hw : ∀ d ∈ tables_1, d.before a0 Z = true) (X : Stand p l e R s m args below meth c T locs cells slots) (hx : p.tables.exec = Jvm.exec) (hZ : Z.Warmed39 s.vm) (hby : c.code = bs) (hsz : Ls.size = c.maxLocals) (hown : s.vm.findClass "java/lang/String" = some m.cls) (hd : decode bs pc = .ok (.invokestatic 1015, 3)) (hp : pc + 3 = pc') (eT : T.heap = h) (hW : (rest.map fun v => v.category).sum ≤ W)
    (hM : MetFree l (⟨"java/lang/StringLatin1", "canEncode", "(C)Z"⟩ : MethodName) (head1 [(Cond.code (⟨"java/lang/StringLatin1", "canEncode", "(C)Z"⟩ : MethodName) jdk_43_method_3_code 1 (some .boolean))] rm) (fun aa U => aa = #[x0] ∧ Z.Warmed39 U.vm ∧ U.heap = h) (fun _ _ _ _ _ => True) (fun _ U o U' => ∃ v L, o = .returned v ∧ Q v U'.heap L ∧ FrameEnd U o U' L rm.cells rm.slots)) (hf : rm.frames + 1 ≤ R.frames) (hl : W + (1 + 11) + rm.locals ≤ R.locals) (hc : cells + rm.cells ≤ R.cells) (hs : slots + rm.slots ≤ R.slots)
    (k : ∀ v T' L', Stand p l e R s m args below meth c T' (locs ++ L') (cells + rm.cells) (slots + rm.slots) → Q v T'.heap L' → own_End p e below F (T'.setTop (mkF m pc' Ls (v.toList ++ rest)))) : own_End p e below F (T.setTop (mkF m pc Ls (x0 :: rest))) := by
  subst hp
  obtain ⟨v, _, ⟨T', L0, k0, n0⟩, -, X', ⟨L', hQ, e1, e2, e3⟩, stp⟩ := Jvm.LawKit.callS X hx (y := (⟨"java/lang/StringLatin1", "canEncode", "(C)Z"⟩ : MethodName)) hown (mvT hZ (wd_16 hw)) (mvT hZ (wd_17 hw)) (mvT hZ (wd_18 hw)) (mvT hZ (wd_19 hw)) (by decide) (backOf (W := W) hM hZ (wd_19 hw) (wd_18 hw) hf hl) (g := mkF m pc Ls (x0 :: rest)) rfl hsz (argsL := [x0]) (rest := rest) (lenOf own_pd2 rfl) rfl (by show 2 * 0 + _ ≤ _; omega) (hb hby hd) (fun _ _ => ⟨rfl, eT, hc, hs⟩)
  dsimp only [Pt.U, Pt.locs, Pt.cells, Pt.slots] at X' e1 e2 e3 stp hQ
  subst e1 e2 e3
  exact own_step stp (k v T' L' X' hQ)
set_option maxRecDepth 65536 in
theorem own_lk1 {p : Program} {l : Launch} {e : Env} {R : Room} {s : State} {m : MethodId} {args : Array Value} {below : List Frame} {meth : Method} {c : Code} {T : State} {locs : List Loc} {cells slots : Nat} {F : Option Value → State → Prop} {bs : ByteArray} {pc pc' : Nat} {Ls : Array Slot} {Z : State} {a0 : Array Value} {h : Heap} {x0 : Value} {rest : List Value} {W : Nat} {rm : Room} {Q : Option Value → Heap → List Loc → Prop} (hw : ∀ d ∈ tables_1, d.before a0 Z = true) (X : Stand p l e R s m args below meth c T locs cells slots) (hx : p.tables.exec = Jvm.exec) (hZ : Z.Warmed39 s.vm) (hby : c.code = bs) (hsz : Ls.size = c.maxLocals) (hown : s.vm.findClass "java/lang/String" = some m.cls) (hd : decode bs pc = .ok (.invokestatic 1018, 3)) (hp : pc + 3 = pc') (eT : T.heap = h) (hW : (rest.map fun v => v.category).sum ≤ W)
    (hM : MetFree l (⟨"java/lang/StringLatin1", "toBytes", "(C)[B"⟩ : MethodName) (head1 [(Cond.code (⟨"java/lang/StringLatin1", "toBytes", "(C)[B"⟩ : MethodName) jdk_43_method_46_code 1 (some (.array .byte)))] rm) (fun aa U => aa = #[x0] ∧ Z.Warmed39 U.vm ∧ U.heap = h) (fun _ _ _ _ _ => True) (fun _ U o U' => ∃ v L, o = .returned v ∧ Q v U'.heap L ∧ FrameEnd U o U' L rm.cells rm.slots)) (hf : rm.frames + 1 ≤ R.frames) (hl : W + (1 + 11) + rm.locals ≤ R.locals) (hc : cells + rm.cells ≤ R.cells) (hs : slots + rm.slots ≤ R.slots)
    (k : ∀ v T' L', Stand p l e R s m args below meth c T' (locs ++ L') (cells + rm.cells) (slots + rm.slots) → Q v T'.heap L' → own_End p e below F (T'.setTop (mkF m pc' Ls (v.toList ++ rest)))) : own_End p e below F (T.setTop (mkF m pc Ls (x0 :: rest))) := by
  subst hp
  obtain ⟨v, _, ⟨T', L0, k0, n0⟩, -, X', ⟨L', hQ, e1, e2, e3⟩, stp⟩ := Jvm.LawKit.callS X hx (y := (⟨"java/lang/StringLatin1", "toBytes", "(C)[B"⟩ : MethodName)) hown (mvT hZ (wd_21 hw)) (mvT hZ (wd_22 hw)) (mvT hZ (wd_18 hw)) (mvT hZ (wd_23 hw)) (by decide) (backOf (W := W) hM hZ (wd_23 hw) (wd_18 hw) hf hl) (g := mkF m pc Ls (x0 :: rest)) rfl hsz (argsL := [x0]) (rest := rest) (lenOf own_pd3 rfl) rfl (by show 2 * 0 + _ ≤ _; omega) (hb hby hd) (fun _ _ => ⟨rfl, eT, hc, hs⟩)
  dsimp only [Pt.U, Pt.locs, Pt.cells, Pt.slots] at X' e1 e2 e3 stp hQ
  subst e1 e2 e3
  exact own_step stp (k v T' L' X' hQ)
set_option maxRecDepth 65536 in
theorem own_lk2 {p : Program} {l : Launch} {e : Env} {R : Room} {s : State} {m : MethodId} {args : Array Value} {below : List Frame} {meth : Method} {c : Code} {T : State} {locs : List Loc} {cells slots : Nat} {F : Option Value → State → Prop} {bs : ByteArray} {pc pc' : Nat} {Ls : Array Slot} {Z : State} {a0 : Array Value} {h : Heap} {x0 : Value} {x1 : Value} {b : Addr} {rest : List Value} {W : Nat} {rm : Room} {Q : Option Value → Heap → List Loc → Prop} (hw : ∀ d ∈ tables_1, d.before a0 Z = true) (X : Stand p l e R s m args below meth c T locs cells slots) (hx : p.tables.exec = Jvm.exec) (hZ : Z.Warmed39 s.vm) (hby : c.code = bs) (hsz : Ls.size = c.maxLocals) (hown : s.vm.findClass "java/lang/String" = some m.cls) (hd : decode bs pc = .ok (.invokespecial 209, 3)) (hp : pc + 3 = pc') (eT : T.heap = h) (hW : (rest.map fun v => v.category).sum ≤ W)
    (hM : MetFree l (⟨"java/lang/String", "<init>", "([BB)V"⟩ : MethodName) (head1 [(Cond.code (⟨"java/lang/String", "<init>", "([BB)V"⟩ : MethodName) jdk_42_method_151_code 3 none)] rm) (fun aa U => aa = #[.ref b, x0, x1] ∧ Z.Warmed39 U.vm ∧ U.heap = h) (fun _ _ _ _ _ => True) (fun _ U o U' => ∃ v L, o = .returned v ∧ Q v U'.heap L ∧ FrameEnd U o U' L rm.cells rm.slots)) (hf : rm.frames + 1 ≤ R.frames) (hl : W + (3 + 11) + rm.locals ≤ R.locals) (hc : cells + rm.cells ≤ R.cells) (hs : slots + rm.slots ≤ R.slots)
    (k : ∀ v T' L', Stand p l e R s m args below meth c T' (locs ++ L') (cells + rm.cells) (slots + rm.slots) → Q v T'.heap L' → own_End p e below F (T'.setTop (mkF m pc' Ls (v.toList ++ rest)))) : own_End p e below F (T.setTop (mkF m pc Ls (x1 :: x0 :: .ref b :: rest))) := by
  subst hp
  obtain ⟨v, _, ⟨T', L0, k0, n0⟩, -, X', ⟨L', hQ, e1, e2, e3⟩, stp⟩ := X.specialBack hx (y := (⟨"java/lang/String", "<init>", "([BB)V"⟩ : MethodName)) rfl hown (mvT hZ (wd_24 hw)) (mvT hZ (wd_25 hw)) (mvT hZ (wd_27 hw)) (by decide) (backOf (W := W) hM hZ (wd_27 hw) (wd_6 hw) hf hl) (g := mkF m pc Ls (x1 :: x0 :: .ref b :: rest)) rfl hsz (Steps.refl _) (a := b) (argsL := [x0, x1]) (rest := rest) (lenOf own_pd4 rfl) rfl (by show 2 * 0 + _ ≤ _; omega) (hb hby hd) (fun _ _ => ⟨rfl, eT, hc, hs⟩)
  dsimp only [Pt.U, Pt.locs, Pt.cells, Pt.slots] at X' e1 e2 e3 stp hQ
  subst e1 e2 e3
  exact own_trans stp (k v T' L' X' hQ)
set_option maxRecDepth 65536 in
theorem own_lk3 {p : Program} {l : Launch} {e : Env} {R : Room} {s : State} {m : MethodId} {args : Array Value} {below : List Frame} {meth : Method} {c : Code} {T : State} {locs : List Loc} {cells slots : Nat} {F : Option Value → State → Prop} {bs : ByteArray} {pc pc' : Nat} {Ls : Array Slot} {Z : State} {a0 : Array Value} {h : Heap} {b : Addr} {rest : List Value} {W : Nat} {rm : Room} {Q : Option Value → Heap → List Loc → Prop} (hw : ∀ d ∈ tables_1, d.before a0 Z = true) (X : Stand p l e R s m args below meth c T locs cells slots) (hx : p.tables.exec = Jvm.exec) (hZ : Z.Warmed39 s.vm) (hby : c.code = bs) (hsz : Ls.size = c.maxLocals) (hown : s.vm.findClass "com/example/halyard/halyard/base/XmlScan$StartTag" = some m.cls) (hd : decode bs pc = .ok (.invokespecial 1, 3)) (hp : pc + 3 = pc') (eT : T.heap = h) (hW : (rest.map fun v => v.category).sum ≤ W)
    (hM : MetFree l (⟨"java/lang/Record", "<init>", "()V"⟩ : MethodName) (head1 [(Cond.code (⟨"java/lang/Record", "<init>", "()V"⟩ : MethodName) jdk_30_method_1_code 1 none)] rm) (fun aa U => aa = #[.ref b] ∧ Z.Warmed39 U.vm ∧ U.heap = h) (fun _ _ _ _ _ => True) (fun _ U o U' => ∃ v L, o = .returned v ∧ Q v U'.heap L ∧ FrameEnd U o U' L rm.cells rm.slots)) (hf : rm.frames + 1 ≤ R.frames) (hl : W + (1 + 11) + rm.locals ≤ R.locals) (hc : cells + rm.cells ≤ R.cells) (hs : slots + rm.slots ≤ R.slots)
    (k : ∀ v T' L', Stand p l e R s m args below meth c T' (locs ++ L') (cells + rm.cells) (slots + rm.slots) → Q v T'.heap L' → own_End p e below F (T'.setTop (mkF m pc' Ls (v.toList ++ rest)))) : own_End p e below F (T.setTop (mkF m pc Ls (.ref b :: rest))) := by
  subst hp
  obtain ⟨v, _, ⟨T', L0, k0, n0⟩, -, X', ⟨L', hQ, e1, e2, e3⟩, stp⟩ := X.specialBack hx (y := (⟨"java/lang/Record", "<init>", "()V"⟩ : MethodName)) rfl hown (mvT hZ (wd_37 hw)) (mvT hZ (wd_38 hw)) (mvT hZ (wd_41 hw)) (by decide) (backOf (W := W) hM hZ (wd_41 hw) (wd_40 hw) hf hl) (g := mkF m pc Ls (.ref b :: rest)) rfl hsz (Steps.refl _) (a := b) (argsL := []) (rest := rest) (lenOf own_pd6 rfl) rfl (by show 2 * 0 + _ ≤ _; omega) (hb hby hd) (fun _ _ => ⟨rfl, eT, hc, hs⟩)
  dsimp only [Pt.U, Pt.locs, Pt.cells, Pt.slots] at X' e1 e2 e3 stp hQ
  subst e1 e2 e3
  exact own_trans stp (k v T' L' X' hQ)
set_option maxRecDepth 65536 in
theorem own_lk4 {p : Program} {l : Launch} {e : Env} {R : Room} {s : State} {m : MethodId} {args : Array Value} {below : List Frame} {meth : Method} {c : Code} {T : State} {locs : List Loc} {cells slots : Nat} {F : Option Value → State → Prop} {bs : ByteArray} {pc pc' : Nat} {Ls : Array Slot} {Z : State} {a0 : Array Value} {h : Heap} {b : Addr} {rest : List Value} {W : Nat} {rm : Room} {Q : Option Value → Heap → List Loc → Prop} (hw : ∀ d ∈ tables_1, d.before a0 Z = true) (X : Stand p l e R s m args below meth c T locs cells slots) (hx : p.tables.exec = Jvm.exec) (hZ : Z.Warmed39 s.vm) (hby : c.code = bs) (hsz : Ls.size = c.maxLocals) (hown : s.vm.findClass "com/example/halyard/halyard/base/XmlSlice" = some m.cls) (hd : decode bs pc = .ok (.invokevirtual 141, 3)) (hp : pc + 3 = pc') (eT : T.heap = h) (E : Exa Z h b "com/example/halyard/halyard/base/XmlScan$StartTag") (hW : (rest.map fun v => v.category).sum ≤ W)
    (hM : MetFree l (⟨"com/example/halyard/halyard/base/XmlScan$StartTag", "end", "()I"⟩ : MethodName) (head1 [(Cond.code (⟨"com/example/halyard/halyard/base/XmlScan$StartTag", "end", "()I"⟩ : MethodName) prog_23_method_8_code 1 (some .int))] rm) (fun aa U => aa = #[.ref b] ∧ Z.Warmed39 U.vm ∧ U.heap = h) (fun _ _ _ _ _ => True) (fun _ U o U' => ∃ v L, o = .returned v ∧ Q v U'.heap L ∧ FrameEnd U o U' L rm.cells rm.slots)) (hf : rm.frames + 1 ≤ R.frames) (hl : W + (1 + 11) + rm.locals ≤ R.locals) (hc : cells + rm.cells ≤ R.cells) (hs : slots + rm.slots ≤ R.slots)
    (k : ∀ v T' L', Stand p l e R s m args below meth c T' (locs ++ L') (cells + rm.cells) (slots + rm.slots) → Q v T'.heap L' → own_End p e below F (T'.setTop (mkF m pc' Ls (v.toList ++ rest)))) : own_End p e below F (T.setTop (mkF m pc Ls (.ref b :: rest))) := by
  subst hp
  obtain ⟨cq, kq, q1, q2, q3⟩ := isOf hZ eT E
  obtain ⟨v, _, ⟨T', L0, k0, n0⟩, -, X', ⟨L', hQ, e1, e2, e3⟩, stp⟩ := X.virtualBack hx (y := (⟨"com/example/halyard/halyard/base/XmlScan$StartTag", "end", "()I"⟩ : MethodName)) (z := (⟨"com/example/halyard/halyard/base/XmlScan$StartTag", "end", "()I"⟩ : MethodName)) hown (mvT hZ (wd_81 hw)) (mvT hZ (wd_82 hw)) (notFace_of_selects (args := #[]) (mvT hZ (wd_84 hw))) (mvT hZ (wd_84 hw)) (mvT hZ (wd_83 hw)) (by decide) (backOf (W := W) hM hZ (wd_85 hw) (wd_4 hw) hf hl) q1 q3 (g := mkF m pc Ls (.ref b :: rest)) rfl hsz (Steps.refl _) (argsL := []) (rest := rest) (lenOf own_pd9 rfl) rfl (by show 2 * 0 + _ ≤ _; omega) (hb hby hd) (fun _ _ => ⟨rfl, eT, hc, hs⟩)
  dsimp only [Pt.U, Pt.locs, Pt.cells, Pt.slots] at X' e1 e2 e3 stp hQ
  subst e1 e2 e3
  exact own_trans stp (k v T' L' X' hQ)
set_option maxRecDepth 65536 in
theorem own_lk5 {p : Program} {l : Launch} {e : Env} {R : Room} {s : State} {m : MethodId} {args : Array Value} {below : List Frame} {meth : Method} {c : Code} {T : State} {locs : List Loc} {cells slots : Nat} {F : Option Value → State → Prop} {bs : ByteArray} {pc pc' : Nat} {Ls : Array Slot} {Z : State} {a0 : Array Value} {h : Heap} {x0 : Value} {rest : List Value} {W : Nat} {rm : Room} {Q : Option Value → Heap → List Loc → Prop} (hw : ∀ d ∈ tables_1, d.before a0 Z = true) (X : Stand p l e R s m args below meth c T locs cells slots) (hx : p.tables.exec = Jvm.exec) (hZ : Z.Warmed39 s.vm) (hby : c.code = bs) (hsz : Ls.size = c.maxLocals) (hown : s.vm.findClass "com/example/halyard/halyard/base/XmlSliceStartTagClosePinLaw" = some m.cls) (hd : decode bs pc = .ok (.invokestatic 12, 3)) (hp : pc + 3 = pc') (eT : T.heap = h) (hW : (rest.map fun v => v.category).sum ≤ W)
    (hM : MetFree l (⟨"java/lang/String", "valueOf", "(C)Ljava/lang/String;"⟩ : MethodName) (head1 [(Cond.code (⟨"java/lang/String", "valueOf", "(C)Ljava/lang/String;"⟩ : MethodName) jdk_42_method_139_code 1 (some (.object "java/lang/String")))] rm) (fun aa U => aa = #[x0] ∧ Z.Warmed39 U.vm ∧ U.heap = h) (fun _ _ _ _ _ => True) (fun _ U o U' => ∃ v L, o = .returned v ∧ Q v U'.heap L ∧ FrameEnd U o U' L rm.cells rm.slots)) (hf : rm.frames + 1 ≤ R.frames) (hl : W + (1 + 11) + rm.locals ≤ R.locals) (hc : cells + rm.cells ≤ R.cells) (hs : slots + rm.slots ≤ R.slots)
    (k : ∀ v T' L', Stand p l e R s m args below meth c T' (locs ++ L') (cells + rm.cells) (slots + rm.slots) → Q v T'.heap L' → own_End p e below F (T'.setTop (mkF m pc' Ls (v.toList ++ rest)))) : own_End p e below F (T.setTop (mkF m pc Ls (x0 :: rest))) := by
  subst hp
  obtain ⟨v, _, ⟨T', L0, k0, n0⟩, -, X', ⟨L', hQ, e1, e2, e3⟩, stp⟩ := Jvm.LawKit.callS X hx (y := (⟨"java/lang/String", "valueOf", "(C)Ljava/lang/String;"⟩ : MethodName)) hown (mvT hZ (wd_12 hw)) (mvT hZ (wd_13 hw)) (mvT hZ (wd_6 hw)) (mvT hZ (wd_14 hw)) (by decide) (backOf (W := W) hM hZ (wd_14 hw) (wd_6 hw) hf hl) (g := mkF m pc Ls (x0 :: rest)) rfl hsz (argsL := [x0]) (rest := rest) (lenOf own_pd10 rfl) rfl (by show 2 * 0 + _ ≤ _; omega) (hb hby hd) (fun _ _ => ⟨rfl, eT, hc, hs⟩)
  dsimp only [Pt.U, Pt.locs, Pt.cells, Pt.slots] at X' e1 e2 e3 stp hQ
  subst e1 e2 e3
  exact own_step stp (k v T' L' X' hQ)
set_option maxRecDepth 65536 in
theorem own_lk6 {p : Program} {l : Launch} {e : Env} {R : Room} {s : State} {m : MethodId} {args : Array Value} {below : List Frame} {meth : Method} {c : Code} {T : State} {locs : List Loc} {cells slots : Nat} {F : Option Value → State → Prop} {bs : ByteArray} {pc pc' : Nat} {Ls : Array Slot} {Z : State} {a0 : Array Value} {h : Heap} {x0 : Value} {x1 : Value} {x2 : Value} {x3 : Value} {x4 : Value} {x5 : Value} {x6 : Value} {x7 : Value} {b : Addr} {rest : List Value} {W : Nat} {rm : Room} {Q : Option Value → Heap → List Loc → Prop} (hw : ∀ d ∈ tables_1, d.before a0 Z = true) (X : Stand p l e R s m args below meth c T locs cells slots) (hx : p.tables.exec = Jvm.exec) (hZ : Z.Warmed39 s.vm) (hby : c.code = bs) (hsz : Ls.size = c.maxLocals) (hown : s.vm.findClass "com/example/halyard/halyard/base/XmlSliceStartTagClosePinLaw" = some m.cls) (hd : decode bs pc = .ok (.invokespecial 18, 3)) (hp : pc + 3 = pc') (eT : T.heap = h) (hW : (rest.map fun v => v.category).sum ≤ W)
    (hM : MetFree l (⟨"com/example/halyard/halyard/base/XmlScan$StartTag", "<init>", "(IIIILjava/lang/String;Ljava/lang/String;[ILjava/util/Map;)V"⟩ : MethodName) (head1 [(Cond.code (⟨"com/example/halyard/halyard/base/XmlScan$StartTag", "<init>", "(IIIILjava/lang/String;Ljava/lang/String;[ILjava/util/Map;)V"⟩ : MethodName) prog_23_method_1_code 9 none)] rm) (fun aa U => aa = #[.ref b, x0, x1, x2, x3, x4, x5, x6, x7] ∧ Z.Warmed39 U.vm ∧ U.heap = h) (fun _ _ _ _ _ => True) (fun _ U o U' => ∃ v L, o = .returned v ∧ Q v U'.heap L ∧ FrameEnd U o U' L rm.cells rm.slots)) (hf : rm.frames + 1 ≤ R.frames) (hl : W + (9 + 11) + rm.locals ≤ R.locals) (hc : cells + rm.cells ≤ R.cells) (hs : slots + rm.slots ≤ R.slots)
    (k : ∀ v T' L', Stand p l e R s m args below meth c T' (locs ++ L') (cells + rm.cells) (slots + rm.slots) → Q v T'.heap L' → own_End p e below F (T'.setTop (mkF m pc' Ls (v.toList ++ rest)))) : own_End p e below F (T.setTop (mkF m pc Ls (x7 :: x6 :: x5 :: x4 :: x3 :: x2 :: x1 :: x0 :: .ref b :: rest))) := by
  subst hp
  obtain ⟨v, _, ⟨T', L0, k0, n0⟩, -, X', ⟨L', hQ, e1, e2, e3⟩, stp⟩ := X.specialBack hx (y := (⟨"com/example/halyard/halyard/base/XmlScan$StartTag", "<init>", "(IIIILjava/lang/String;Ljava/lang/String;[ILjava/util/Map;)V"⟩ : MethodName)) rfl hown (mvT hZ (wd_34 hw)) (mvT hZ (wd_35 hw)) (mvT hZ (wd_36 hw)) (by decide) (backOf (W := W) hM hZ (wd_36 hw) (wd_4 hw) hf hl) (g := mkF m pc Ls (x7 :: x6 :: x5 :: x4 :: x3 :: x2 :: x1 :: x0 :: .ref b :: rest)) rfl hsz (Steps.refl _) (a := b) (argsL := [x0, x1, x2, x3, x4, x5, x6, x7]) (rest := rest) (lenOf own_pd11 rfl) rfl (by show 2 * 0 + _ ≤ _; omega) (hb hby hd) (fun _ _ => ⟨rfl, eT, hc, hs⟩)
  dsimp only [Pt.U, Pt.locs, Pt.cells, Pt.slots] at X' e1 e2 e3 stp hQ
  subst e1 e2 e3
  exact own_trans stp (k v T' L' X' hQ)
set_option maxRecDepth 65536 in
theorem own_lk7 {p : Program} {l : Launch} {e : Env} {R : Room} {s : State} {m : MethodId} {args : Array Value} {below : List Frame} {meth : Method} {c : Code} {T : State} {locs : List Loc} {cells slots : Nat} {F : Option Value → State → Prop} {bs : ByteArray} {pc pc' : Nat} {Ls : Array Slot} {Z : State} {a0 : Array Value} {h : Heap} {x0 : Value} {x1 : Value} {x2 : Value} {x3 : Value} {x4 : Value} {b : Addr} {rest : List Value} {W : Nat} {rm : Room} {Q : Option Value → Heap → List Loc → Prop} (hw : ∀ d ∈ tables_1, d.before a0 Z = true) (X : Stand p l e R s m args below meth c T locs cells slots) (hx : p.tables.exec = Jvm.exec) (hZ : Z.Warmed39 s.vm) (hby : c.code = bs) (hsz : Ls.size = c.maxLocals) (hown : s.vm.findClass "com/example/halyard/halyard/base/XmlSliceStartTagClosePinLaw" = some m.cls) (hd : decode bs pc = .ok (.invokespecial 23, 3)) (hp : pc + 3 = pc') (eT : T.heap = h) (hW : (rest.map fun v => v.category).sum ≤ W)
    (hM : MetFree l (⟨"com/example/halyard/halyard/base/XmlSlice", "<init>", "([BLcom/example/halyard/halyard/base/XmlScan$StartTag;ILjava/util/List;[I)V"⟩ : MethodName) (head1 [(Cond.code (⟨"com/example/halyard/halyard/base/XmlSlice", "<init>", "([BLcom/example/halyard/halyard/base/XmlScan$StartTag;ILjava/util/List;[I)V"⟩ : MethodName) prog_24_method_1_code 6 none)] rm) (fun aa U => aa = #[.ref b, x0, x1, x2, x3, x4] ∧ Z.Warmed39 U.vm ∧ U.heap = h) (fun _ _ _ _ _ => True) (fun _ U o U' => ∃ v L, o = .returned v ∧ Q v U'.heap L ∧ FrameEnd U o U' L rm.cells rm.slots)) (hf : rm.frames + 1 ≤ R.frames) (hl : W + (6 + 11) + rm.locals ≤ R.locals) (hc : cells + rm.cells ≤ R.cells) (hs : slots + rm.slots ≤ R.slots)
    (k : ∀ v T' L', Stand p l e R s m args below meth c T' (locs ++ L') (cells + rm.cells) (slots + rm.slots) → Q v T'.heap L' → own_End p e below F (T'.setTop (mkF m pc' Ls (v.toList ++ rest)))) : own_End p e below F (T.setTop (mkF m pc Ls (x4 :: x3 :: x2 :: x1 :: x0 :: .ref b :: rest))) := by
  subst hp
  obtain ⟨v, _, ⟨T', L0, k0, n0⟩, -, X', ⟨L', hQ, e1, e2, e3⟩, stp⟩ := X.specialBack hx (y := (⟨"com/example/halyard/halyard/base/XmlSlice", "<init>", "([BLcom/example/halyard/halyard/base/XmlScan$StartTag;ILjava/util/List;[I)V"⟩ : MethodName)) rfl hown (mvT hZ (wd_62 hw)) (mvT hZ (wd_63 hw)) (mvT hZ (wd_64 hw)) (by decide) (backOf (W := W) hM hZ (wd_64 hw) (wd_61 hw) hf hl) (g := mkF m pc Ls (x4 :: x3 :: x2 :: x1 :: x0 :: .ref b :: rest)) rfl hsz (Steps.refl _) (a := b) (argsL := [x0, x1, x2, x3, x4]) (rest := rest) (lenOf own_pd12 rfl) rfl (by show 2 * 0 + _ ≤ _; omega) (hb hby hd) (fun _ _ => ⟨rfl, eT, hc, hs⟩)
  dsimp only [Pt.U, Pt.locs, Pt.cells, Pt.slots] at X' e1 e2 e3 stp hQ
  subst e1 e2 e3
  exact own_trans stp (k v T' L' X' hQ)
set_option maxRecDepth 65536 in
theorem own_lk8 {p : Program} {l : Launch} {e : Env} {R : Room} {s : State} {m : MethodId} {args : Array Value} {below : List Frame} {meth : Method} {c : Code} {T : State} {locs : List Loc} {cells slots : Nat} {F : Option Value → State → Prop} {bs : ByteArray} {pc pc' : Nat} {Ls : Array Slot} {Z : State} {a0 : Array Value} {h : Heap} {b : Addr} {rest : List Value} {W : Nat} {rm : Room} {Q : Option Value → Heap → List Loc → Prop} (hw : ∀ d ∈ tables_1, d.before a0 Z = true) (X : Stand p l e R s m args below meth c T locs cells slots) (hx : p.tables.exec = Jvm.exec) (hZ : Z.Warmed39 s.vm) (hby : c.code = bs) (hsz : Ls.size = c.maxLocals) (hown : s.vm.findClass "com/example/halyard/halyard/base/XmlSliceStartTagClosePinLaw" = some m.cls) (hd : decode bs pc = .ok (.invokevirtual 26, 3)) (hp : pc + 3 = pc') (eT : T.heap = h) (E : Exa Z h b "com/example/halyard/halyard/base/XmlSlice") (hW : (rest.map fun v => v.category).sum ≤ W)
    (hM : MetFree l (⟨"com/example/halyard/halyard/base/XmlSlice", "startTagClose", "()I"⟩ : MethodName) (head1 [(Cond.code (⟨"com/example/halyard/halyard/base/XmlSlice", "startTagClose", "()I"⟩ : MethodName) prog_24_method_14_code 1 (some .int))] rm) (fun aa U => aa = #[.ref b] ∧ Z.Warmed39 U.vm ∧ U.heap = h) (fun _ _ _ _ _ => True) (fun _ U o U' => ∃ v L, o = .returned v ∧ Q v U'.heap L ∧ FrameEnd U o U' L rm.cells rm.slots)) (hf : rm.frames + 1 ≤ R.frames) (hl : W + (1 + 11) + rm.locals ≤ R.locals) (hc : cells + rm.cells ≤ R.cells) (hs : slots + rm.slots ≤ R.slots)
    (k : ∀ v T' L', Stand p l e R s m args below meth c T' (locs ++ L') (cells + rm.cells) (slots + rm.slots) → Q v T'.heap L' → own_End p e below F (T'.setTop (mkF m pc' Ls (v.toList ++ rest)))) : own_End p e below F (T.setTop (mkF m pc Ls (.ref b :: rest))) := by
  subst hp
  obtain ⟨cq, kq, q1, q2, q3⟩ := isOf hZ eT E
  obtain ⟨v, _, ⟨T', L0, k0, n0⟩, -, X', ⟨L', hQ, e1, e2, e3⟩, stp⟩ := X.virtualBack hx (y := (⟨"com/example/halyard/halyard/base/XmlSlice", "startTagClose", "()I"⟩ : MethodName)) (z := (⟨"com/example/halyard/halyard/base/XmlSlice", "startTagClose", "()I"⟩ : MethodName)) hown (mvT hZ (wd_76 hw)) (mvT hZ (wd_77 hw)) (notFace_of_selects (args := #[]) (mvT hZ (wd_79 hw))) (mvT hZ (wd_79 hw)) (mvT hZ (wd_78 hw)) (by decide) (backOf (W := W) hM hZ (wd_80 hw) (wd_61 hw) hf hl) q1 q3 (g := mkF m pc Ls (.ref b :: rest)) rfl hsz (Steps.refl _) (argsL := []) (rest := rest) (lenOf own_pd9 rfl) rfl (by show 2 * 0 + _ ≤ _; omega) (hb hby hd) (fun _ _ => ⟨rfl, eT, hc, hs⟩)
  dsimp only [Pt.U, Pt.locs, Pt.cells, Pt.slots] at X' e1 e2 e3 stp hQ
  subst e1 e2 e3
  exact own_trans stp (k v T' L' X' hQ)

def own_ST (Z : State) (h : Heap) (a : Addr) (v0 : Int32) (v1 : Int32) (v2 : Int32) (v3 : Int32) (v4 : Value) (v5 : Value) (v6 : Value) (v7 : Value) : Prop := Exa Z h a "com/example/halyard/halyard/base/XmlScan$StartTag" ∧ Fld Z h a "com/example/halyard/halyard/base/XmlScan$StartTag" "depth" "I" (.int v0) ∧ Fld Z h a "com/example/halyard/halyard/base/XmlScan$StartTag" "start" "I" (.int v1) ∧ Fld Z h a "com/example/halyard/halyard/base/XmlScan$StartTag" "nameEnd" "I" (.int v2) ∧ Fld Z h a "com/example/halyard/halyard/base/XmlScan$StartTag" "end" "I" (.int v3) ∧ Fld Z h a "com/example/halyard/halyard/base/XmlScan$StartTag" "namespace" "Ljava/lang/String;" v4 ∧ Fld Z h a "com/example/halyard/halyard/base/XmlScan$StartTag" "localName" "Ljava/lang/String;" v5 ∧ Fld Z h a "com/example/halyard/halyard/base/XmlScan$StartTag" "attributes" "[I" v6 ∧ Fld Z h a "com/example/halyard/halyard/base/XmlScan$StartTag" "scope" "Ljava/util/Map;" v7
theorem own_ST.ext {Z : State} {h h' : Heap} {a : Addr} {v0 : Int32} {v1 : Int32} {v2 : Int32} {v3 : Int32} {v4 : Value} {v5 : Value} {v6 : Value} {v7 : Value} (O : own_ST Z h a v0 v1 v2 v3 v4 v5 v6 v7) (X : Ext h h') : own_ST Z h' a v0 v1 v2 v3 v4 v5 v6 v7 := by
  obtain ⟨E, F0, F1, F2, F3, F4, F5, F6, F7⟩ := O
  exact ⟨E.ext X, F0.ext X, F1.ext X, F2.ext X, F3.ext X, F4.ext X, F5.ext X, F6.ext X, F7.ext X⟩
theorem own_ST.keep {Z : State} {h h' : Heap} {a : Addr} {v0 : Int32} {v1 : Int32} {v2 : Int32} {v3 : Int32} {v4 : Value} {v5 : Value} {v6 : Value} {v7 : Value} (O : own_ST Z h a v0 v1 v2 v3 v4 v5 v6 v7) {ws : List Addr} (K : Keep h h' ws) (q : a ∉ ws) : own_ST Z h' a v0 v1 v2 v3 v4 v5 v6 v7 := by
  obtain ⟨E, F0, F1, F2, F3, F4, F5, F6, F7⟩ := O
  exact ⟨E.keep K, F0.keep K q, F1.keep K q, F2.keep K q, F3.keep K q, F4.keep K q, F5.keep K q, F6.keep K q, F7.keep K q⟩
theorem own_ST.other {Z : State} {h h' : Heap} {a : Addr} {v0 : Int32} {v1 : Int32} {v2 : Int32} {v3 : Int32} {v4 : Value} {v5 : Value} {v6 : Value} {v7 : Value} (O : own_ST Z h a v0 v1 v2 v3 v4 v5 v6 v7) {b : Addr} {sl : Nat} {v : Value} (W : Wr h h' b sl v) (q : a ≠ b) : own_ST Z h' a v0 v1 v2 v3 v4 v5 v6 v7 := by
  obtain ⟨E, F0, F1, F2, F3, F4, F5, F6, F7⟩ := O
  exact ⟨E.wr W, F0.other W (Or.inl q), F1.other W (Or.inl q), F2.other W (Or.inl q), F3.other W (Or.inl q), F4.other W (Or.inl q), F5.other W (Or.inl q), F6.other W (Or.inl q), F7.other W (Or.inl q)⟩
theorem own_ST.lt {Z : State} {h : Heap} {a : Addr} {v0 : Int32} {v1 : Int32} {v2 : Int32} {v3 : Int32} {v4 : Value} {v5 : Value} {v6 : Value} {v7 : Value} (O : own_ST Z h a v0 v1 v2 v3 v4 v5 v6 v7) : a < h.size := by
  obtain ⟨E, F0, F1, F2, F3, F4, F5, F6, F7⟩ := O
  exact E.lt
def own_XS (Z : State) (h : Heap) (a : Addr) (v0 : Value) (v1 : Value) (v2 : Int32) (v3 : Value) (v4 : Value) : Prop := Exa Z h a "com/example/halyard/halyard/base/XmlSlice" ∧ Fld Z h a "com/example/halyard/halyard/base/XmlSlice" "document" "[B" v0 ∧ Fld Z h a "com/example/halyard/halyard/base/XmlSlice" "tag" "Lcom/example/halyard/halyard/base/XmlScan$StartTag;" v1 ∧ Fld Z h a "com/example/halyard/halyard/base/XmlSlice" "end" "I" (.int v2) ∧ Fld Z h a "com/example/halyard/halyard/base/XmlSlice" "children" "Ljava/util/List;" v3 ∧ Fld Z h a "com/example/halyard/halyard/base/XmlSlice" "held" "[I" v4
theorem own_XS.ext {Z : State} {h h' : Heap} {a : Addr} {v0 : Value} {v1 : Value} {v2 : Int32} {v3 : Value} {v4 : Value} (O : own_XS Z h a v0 v1 v2 v3 v4) (X : Ext h h') : own_XS Z h' a v0 v1 v2 v3 v4 := by
  obtain ⟨E, F0, F1, F2, F3, F4⟩ := O
  exact ⟨E.ext X, F0.ext X, F1.ext X, F2.ext X, F3.ext X, F4.ext X⟩
theorem own_XS.keep {Z : State} {h h' : Heap} {a : Addr} {v0 : Value} {v1 : Value} {v2 : Int32} {v3 : Value} {v4 : Value} (O : own_XS Z h a v0 v1 v2 v3 v4) {ws : List Addr} (K : Keep h h' ws) (q : a ∉ ws) : own_XS Z h' a v0 v1 v2 v3 v4 := by
  obtain ⟨E, F0, F1, F2, F3, F4⟩ := O
  exact ⟨E.keep K, F0.keep K q, F1.keep K q, F2.keep K q, F3.keep K q, F4.keep K q⟩
theorem own_XS.other {Z : State} {h h' : Heap} {a : Addr} {v0 : Value} {v1 : Value} {v2 : Int32} {v3 : Value} {v4 : Value} (O : own_XS Z h a v0 v1 v2 v3 v4) {b : Addr} {sl : Nat} {v : Value} (W : Wr h h' b sl v) (q : a ≠ b) : own_XS Z h' a v0 v1 v2 v3 v4 := by
  obtain ⟨E, F0, F1, F2, F3, F4⟩ := O
  exact ⟨E.wr W, F0.other W (Or.inl q), F1.other W (Or.inl q), F2.other W (Or.inl q), F3.other W (Or.inl q), F4.other W (Or.inl q)⟩
theorem own_XS.lt {Z : State} {h : Heap} {a : Addr} {v0 : Value} {v1 : Value} {v2 : Int32} {v3 : Value} {v4 : Value} (O : own_XS Z h a v0 v1 v2 v3 v4) : a < h.size := by
  obtain ⟨E, F0, F1, F2, F3, F4⟩ := O
  exact E.lt
def own_SO (Z : State) (h : Heap) (a : Addr) (v0 : Value) (v1 : Int32) : Prop := Exa Z h a "java/lang/String" ∧ Fld Z h a "java/lang/String" "value" "[B" v0 ∧ Fld Z h a "java/lang/String" "coder" "B" (.int v1)
theorem own_SO.ext {Z : State} {h h' : Heap} {a : Addr} {v0 : Value} {v1 : Int32} (O : own_SO Z h a v0 v1) (X : Ext h h') : own_SO Z h' a v0 v1 := by
  obtain ⟨E, F0, F1⟩ := O
  exact ⟨E.ext X, F0.ext X, F1.ext X⟩
theorem own_SO.keep {Z : State} {h h' : Heap} {a : Addr} {v0 : Value} {v1 : Int32} (O : own_SO Z h a v0 v1) {ws : List Addr} (K : Keep h h' ws) (q : a ∉ ws) : own_SO Z h' a v0 v1 := by
  obtain ⟨E, F0, F1⟩ := O
  exact ⟨E.keep K, F0.keep K q, F1.keep K q⟩
theorem own_SO.other {Z : State} {h h' : Heap} {a : Addr} {v0 : Value} {v1 : Int32} (O : own_SO Z h a v0 v1) {b : Addr} {sl : Nat} {v : Value} (W : Wr h h' b sl v) (q : a ≠ b) : own_SO Z h' a v0 v1 := by
  obtain ⟨E, F0, F1⟩ := O
  exact ⟨E.wr W, F0.other W (Or.inl q), F1.other W (Or.inl q)⟩
theorem own_SO.lt {Z : State} {h : Heap} {a : Addr} {v0 : Value} {v1 : Int32} (O : own_SO Z h a v0 v1) : a < h.size := by
  obtain ⟨E, F0, F1⟩ := O
  exact E.lt
theorem own_and3 (x : Int32) : x &&& 3 = 0 ∨ x &&& 3 = 1 ∨ x &&& 3 = 2 ∨ x &&& 3 = 3 := by
  have h := c_mask x 3 2 (by decide) (by decide)
  have e : ∀ k : Int32, (x &&& 3).toInt = k.toInt → x &&& 3 = k := fun k q => Int32.toInt_inj.mp q
  have h0 : (0 : Int32).toInt = 0 := rfl
  have h1 : (1 : Int32).toInt = 1 := rfl
  have h2 : (2 : Int32).toInt = 2 := rfl
  have h3 : (3 : Int32).toInt = 3 := rfl
  have : (x &&& 3).toInt = 0 ∨ (x &&& 3).toInt = 1 ∨ (x &&& 3).toInt = 2 ∨ (x &&& 3).toInt = 3 := by omega
  rcases this with q | q | q | q
  · exact Or.inl (e 0 q)
  · exact Or.inr (Or.inl (e 1 q))
  · exact Or.inr (Or.inr (Or.inl (e 2 q)))
  · exact Or.inr (Or.inr (Or.inr (e 3 q)))

theorem own_b8 (x : Int32) : x.toInt8.toInt32.toInt8.toInt32 = x.toInt8.toInt32 := by simp
theorem own_let (x : Int32) : 0 ≤ ((x &&& (65535 : Int32)) % (52 : Int32)).toInt ∧ ((x &&& (65535 : Int32)) % (52 : Int32)).toInt < 52 := by
  have h1 := c_mask x 65535 16 (by decide) (by decide)
  have h2 := (c_irem (x &&& 65535) 52 52 rfl).1 (by omega)
  omega
theorem own_nbA (l : Int32) (h : 0 ≤ l.toInt ∧ l.toInt < 52) (h2 : l < (26 : Int32)) : ¬ ((((97 : Int32) + l).toInt8.toInt32).toInt8.toInt32) = (47 : Int32) := fun q => by
  rw [own_b8] at q
  have h3 := c_iadd 97 l
  have r3 := rng32 (97 + l)
  have h4 := c_i2b (97 + l)
  rw [q] at h4
  have e1 : (97 : Int32).toInt = 97 := rfl
  have e2 : (47 : Int32).toInt = 47 := rfl
  have e3 : (26 : Int32).toInt = 26 := rfl
  rw [Int32.lt_iff_toInt_lt] at h2
  omega
theorem own_nbB (l : Int32) (h : 0 ≤ l.toInt ∧ l.toInt < 52) (h2 : ¬ l < (26 : Int32)) : ¬ (((((65 : Int32) + l) - (26 : Int32)).toInt8.toInt32).toInt8.toInt32) = (47 : Int32) := fun q => by
  rw [own_b8] at q
  have h3 := c_iadd 65 l
  have r3 := rng32 (65 + l)
  have h5 := c_isub (65 + l) 26
  have r5 := rng32 (65 + l - 26)
  have h4 := c_i2b (65 + l - 26)
  rw [q] at h4
  have e1 : (65 : Int32).toInt = 65 := rfl
  have e2 : (47 : Int32).toInt = 47 := rfl
  have e3 : (26 : Int32).toInt = 26 := rfl
  rw [Int32.lt_iff_toInt_lt] at h2
  omega
theorem own_chr2 (x : Int32) : ¬ (255 : Int32) < x &&& (255 : Int32) := by
  have h := c_mask x 255 8 (by decide) (by decide)
  rw [Int32.lt_iff_toInt_lt]
  have e : (255 : Int32).toInt = 255 := rfl
  omega
theorem own_chr (x : Int32) : ¬ (255 : Int32) < ((x &&& (255 : Int32)).toUInt32.toUInt16.toUInt32.toInt32) := by
  rw [i2c_mask]
  have h1 := c_mask x 255 8 (by decide) (by decide)
  have e : (255 : Int32).toInt = 255 := rfl
  rw [Int32.lt_iff_toInt_lt]
  omega
theorem own_ef_rm2 (m : MethodId) (x : Int32)  : entryFrame m #[(.int x)] 1 = mkF m 0 #[.val (.int x)] [] := by first | (simp [entryFrame, mkF, argsToLocals, Value.category]; done) | rfl
def Q2 (Z : State) (x : Int32) (h0 : Heap) (n0 : Nat) (v : Option Value) (h : Heap) (L : List Loc) : Prop := v = some (.int 1) ∧ Fr n0 L ∧ h = h0
set_option maxRecDepth 65536 in
set_option maxHeartbeats 40000000 in
theorem rm2 (l : Launch) (Z : State) (a0 : Array Value) (hw : ∀ d ∈ tables_1, d.before a0 Z = true) (ws : List Jvm.Cond) (x : Int32) (h0 : Heap) (n0 : Nat) (Z0 : n0 ≤ h0.size) (hx' : ¬ (255 : Int32) < x) :
    MetFree l (⟨"java/lang/StringLatin1", "canEncode", "(C)Z"⟩ : MethodName) (head1 (Jvm.Cond.code (⟨"java/lang/StringLatin1", "canEncode", "(C)Z"⟩ : MethodName) jdk_43_method_3_code 1 (some .boolean) :: ws) ({ frames := 0, cells := 0, slots := 0, locals := 0 } : Room)) (fun aa U => aa = #[(.int x)] ∧ Z.Warmed39 U.vm ∧ U.heap = h0) (fun _ _ _ _ _ => True) (fun _ U oc U' => ∃ v L, oc = .returned v ∧ Q2 Z x h0 n0 v U'.heap L ∧ FrameEnd U oc U' L ({ frames := 0, cells := 0, slots := 0, locals := 0 } : Room).cells ({ frames := 0, cells := 0, slots := 0, locals := 0 } : Room).slots) := by
  refine MetFree.of_bodySF (plainFor_of_name own_pn0) hisR ?_
  intro p e s m args below meth c s₁ Bd hml0 hP hK
  obtain ⟨rfl, hZ, hh⟩ := hP
  have hx := Bd.exec
  have hby := Bd.bytes
  have hlk := Bd.notSynchronized
  have hret := Bd.returns
  have hml : c.maxLocals = 1 := hml0
  have hown : s.vm.findClass "java/lang/StringLatin1" = some m.cls := findClass_of_methodNamed Bd.named
  have hnm := (name_of_methodNamed Bd.named Bd.method).1
  have X0 : Stand p l e ({ frames := 0, cells := 0, slots := 0, locals := 0 } : Room) s m #[(.int x)] below meth c s₁ [] 0 0 := Stand.of_body Bd
  have e0 : s₁.heap = h0 := by rw [← hh, Bd.state]; rfl
  have N0 := Fr.nil n0
  refine own_body (Q := Q2 Z x h0 n0) (KC := ({ frames := 0, cells := 0, slots := 0, locals := 0 } : Room).cells) (KS := ({ frames := 0, cells := 0, slots := 0, locals := 0 } : Room).slots) ?_
  rw [own_ef_rm2 m x]
  refine own_iloadN X0 hx hby d2_0 (pc' := 1) rfl rfl ?_
  refine own_sipush X0 hx hby d2_1 (pc' := 4) rfl (n := (255 : Int32)) (by decide) ?_
  refine own_icN X0 hx hby d2_4 (pc' := 7) rfl (show ¬ (255 : Int32) < x from hx') ?_
  refine own_iconst X0 hx hby d2_7 (pc' := 8) rfl (n := (1 : Int32)) (by decide) ?_
  refine own_goto X0 hx hby d2_8 (pc' := 12) (by decide) (by decide) ?_
  refine own_zreturn X0 hx hlk hby hret (Or.inr rfl) d2_12 (own_lv ?_ (by decide) (by decide))
  show Q2 Z x  h0 n0 (some (.int (1 : Int32))) s₁.heap _
  rw [e0]
  exact ⟨rfl, N0, rfl⟩
theorem own_ef_rm3 (m : MethodId) (x : Int32)  : entryFrame m #[(.int x)] 1 = mkF m 0 #[.val (.int x)] [] := by first | (simp [entryFrame, mkF, argsToLocals, Value.category]; done) | rfl
def Q3 (Z : State) (x : Int32) (h0 : Heap) (n0 : Nat) (v : Option Value) (h : Heap) (L : List Loc) : Prop := ∃ w : Addr, v = some (.ref w) ∧ Fr n0 L ∧ Keep h0 h [] ∧ h0.size ≤ w
set_option maxRecDepth 65536 in
set_option maxHeartbeats 40000000 in
theorem rm3 (l : Launch) (Z : State) (a0 : Array Value) (hw : ∀ d ∈ tables_1, d.before a0 Z = true) (ws : List Jvm.Cond) (x : Int32) (h0 : Heap) (n0 : Nat) (Z0 : n0 ≤ h0.size)  :
    MetFree l (⟨"java/lang/StringLatin1", "toBytes", "(C)[B"⟩ : MethodName) (head1 (Jvm.Cond.code (⟨"java/lang/StringLatin1", "toBytes", "(C)[B"⟩ : MethodName) jdk_43_method_46_code 1 (some (.array .byte)) :: ws) ({ frames := 0, cells := 1, slots := 1, locals := 0 } : Room)) (fun aa U => aa = #[(.int x)] ∧ Z.Warmed39 U.vm ∧ U.heap = h0) (fun _ _ _ _ _ => True) (fun _ U oc U' => ∃ v L, oc = .returned v ∧ Q3 Z x h0 n0 v U'.heap L ∧ FrameEnd U oc U' L ({ frames := 0, cells := 1, slots := 1, locals := 0 } : Room).cells ({ frames := 0, cells := 1, slots := 1, locals := 0 } : Room).slots) := by
  refine MetFree.of_bodySF (plainFor_of_name own_pn0) hisR ?_
  intro p e s m args below meth c s₁ Bd hml0 hP hK
  obtain ⟨rfl, hZ, hh⟩ := hP
  have hx := Bd.exec
  have hby := Bd.bytes
  have hlk := Bd.notSynchronized
  have hret := Bd.returns
  have hml : c.maxLocals = 1 := hml0
  have hown : s.vm.findClass "java/lang/StringLatin1" = some m.cls := findClass_of_methodNamed Bd.named
  have hnm := (name_of_methodNamed Bd.named Bd.method).1
  have X0 : Stand p l e ({ frames := 0, cells := 1, slots := 1, locals := 0 } : Room) s m #[(.int x)] below meth c s₁ [] 0 0 := Stand.of_body Bd
  have e0 : s₁.heap = h0 := by rw [← hh, Bd.state]; rfl
  have N0 := Fr.nil n0
  refine own_body (Q := Q3 Z x h0 n0) (KC := ({ frames := 0, cells := 1, slots := 1, locals := 0 } : Room).cells) (KS := ({ frames := 0, cells := 1, slots := 1, locals := 0 } : Room).slots) ?_
  rw [own_ef_rm3 m x]
  have Kp : Keep h0 h0 [] := Keep.refl h0 _
  refine own_iconst X0 hx hby d3_0 (pc' := 1) rfl (n := (1 : Int32)) (by decide) ?_
  refine own_newP (aty := .byte) X0 hx hZ hby (wd_0 hw) e0 d3_1 (pc' := 3) rfl (by decide) (cap := 1) (by decide) (by decide) (by decide) (by decide) (fun T1 h1 k1 b1 g1 X1 e1 E1 A1 => ?_)
  have ge_b1 : n0 ≤ b1 := by rw [g1]; exact Z0
  have sz_b1 : h0.size ≤ b1 := by rw [g1]; exact Kp.1
  have Zn := Nat.le_trans Z0 E1.1
  have Kp := Kp.ext E1
  have f_V_b1 : Arv Z h1 b1 k1 .byte (1 : Int32) [(.int (0 : Int32))] (.int (0 : Int32)) := (Arv.new A1 (by decide)).pad (pad_rep [] (.int (0 : Int32)) 1)
  refine own_dup X1 hx hby d3_3 (pc' := 4) rfl rfl ?_
  refine own_iconst X1 hx hby d3_4 (pc' := 5) rfl (n := (0 : Int32)) (by decide) ?_
  refine own_iloadN X1 hx hby d3_5 (pc' := 6) rfl rfl ?_
  refine own_i2b X1 hx hby d3_6 (pc' := 7) rfl ?_
  obtain ⟨cl2, Ar2, q2, S2, M2, H2, G2⟩ := id f_V_b1
  have hin2 : ¬ ((0 : Int32) < 0 ∨ cl2.slots.size ≤ ((0 : Int32)).toNatClampNeg) := inb_of S2 ⟨by decide, by decide⟩
  refine own_bastore X1 hx hZ hby e1 Ar2 hin2 d3_7 (pc' := 8) rfl (fun T3 h3 X3 e3 W3 => ?_)
  have f_V_b1 := Arv.set Ar2 q2 S2 M2 H2 G2 (fits_nar_byte _) W3 0 rfl (Nat.le_of_ble_eq_true rfl)
  have f_V_b1 : Arv Z h3 b1 k1 .byte (1 : Int32) [(.int ((x.toInt8.toInt32).toInt8.toInt32))] (.int (0 : Int32)) := f_V_b1
  rw [own_b8 x] at f_V_b1
  have Zn := Nat.le_trans Zn (Keep.of_wr W3).1
  have Kp := Kp.wr W3 (Or.inr sz_b1)
  have N3 := Fr.snoc X3 N0 ge_b1
  refine own_areturn X3 hx hlk hby hret rfl rfl d3_8 (own_lv ?_ (by decide) (by decide))
  show Q3 Z x  h0 n0 (some (.ref b1)) T3.heap _
  rw [e3]
  exact ⟨_, rfl, N3, Kp, sz_b1⟩
theorem own_ef_rm4 (m : MethodId) (a : Addr) (w : Addr)  : entryFrame m #[(.ref a), (.ref w), (.int (0 : Int32))] 3 = mkF m 0 #[.val (.ref a), .val (.ref w), .val (.int (0 : Int32))] [] := by first | (simp [entryFrame, mkF, argsToLocals, Value.category]; done) | rfl
def Q4 (Z : State) (a : Addr) (w : Addr) (h0 : Heap) (n0 : Nat) (v : Option Value) (h : Heap) (L : List Loc) : Prop := v = none ∧ Fr n0 L ∧ Keep h0 h [a] ∧ own_SO Z h a (.ref w) 0
set_option maxRecDepth 65536 in
set_option maxHeartbeats 40000000 in
theorem rm4 (l : Launch) (Z : State) (a0 : Array Value) (hw : ∀ d ∈ tables_1, d.before a0 Z = true) (ws : List Jvm.Cond) (a : Addr) (w : Addr) (h0 : Heap) (n0 : Nat) (Z0 : n0 ≤ h0.size) (f_O_a : own_SO Z h0 a .null (0 : Int32)) (ge_a : n0 ≤ a) :
    MetFree l (⟨"java/lang/String", "<init>", "([BB)V"⟩ : MethodName) (head1 (Jvm.Cond.code (⟨"java/lang/String", "<init>", "([BB)V"⟩ : MethodName) jdk_42_method_151_code 3 none :: ws) ({ frames := 1, cells := 0, slots := 0, locals := 12 } : Room)) (fun aa U => aa = #[(.ref a), (.ref w), (.int (0 : Int32))] ∧ Z.Warmed39 U.vm ∧ U.heap = h0) (fun _ _ _ _ _ => True) (fun _ U oc U' => ∃ v L, oc = .returned v ∧ Q4 Z a w h0 n0 v U'.heap L ∧ FrameEnd U oc U' L ({ frames := 1, cells := 0, slots := 0, locals := 12 } : Room).cells ({ frames := 1, cells := 0, slots := 0, locals := 12 } : Room).slots) := by
  refine MetFree.of_bodySF (plainFor_of_name own_pn1) hisR ?_
  intro p e s m args below meth c s₁ Bd hml0 hP hK
  obtain ⟨rfl, hZ, hh⟩ := hP
  have hx := Bd.exec
  have hby := Bd.bytes
  have hlk := Bd.notSynchronized
  have hret := Bd.returns
  have hml : c.maxLocals = 3 := hml0
  have hown : s.vm.findClass "java/lang/String" = some m.cls := findClass_of_methodNamed Bd.named
  have hnm := (name_of_methodNamed Bd.named Bd.method).1
  have X0 : Stand p l e ({ frames := 1, cells := 0, slots := 0, locals := 12 } : Room) s m #[(.ref a), (.ref w), (.int (0 : Int32))] below meth c s₁ [] 0 0 := Stand.of_body Bd
  have e0 : s₁.heap = h0 := by rw [← hh, Bd.state]; rfl
  have N0 := Fr.nil n0
  refine own_body (Q := Q4 Z a w h0 n0) (KC := ({ frames := 1, cells := 0, slots := 0, locals := 12 } : Room).cells) (KS := ({ frames := 1, cells := 0, slots := 0, locals := 12 } : Room).slots) ?_
  rw [own_ef_rm4 m a w]
  have Kp : Keep h0 h0 [a] := Keep.refl h0 _
  refine own_aloadN X0 hx hby d4_0 (pc' := 1) rfl rfl rfl ?_
  refine own_init X0 hx hZ hby hown (wd_28 hw) (wd_29 hw) (wd_30 hw) e0 (by rw [hml]; rfl) d4_1 (pc' := 4) rfl (by decide) (W := 0) (Nat.le_of_eq rfl) (by decide) (fun T1 X1 e1 => ?_)
  refine own_aloadN X1 hx hby d4_4 (pc' := 5) rfl rfl rfl ?_
  refine own_aloadN X1 hx hby d4_5 (pc' := 6) rfl rfl rfl ?_
  obtain ⟨f_E_a, f_F_a_value, f_F_a_coder⟩ := f_O_a
  refine own_putF X1 hx hZ hby hown (host := "") (Or.inl (wd_31 hw)) Via.refl e1 f_F_a_value f_E_a (Or.inr ⟨(wd_8 hw), rfl, hnm⟩) (wd_7 hw) (ty := (.array .byte)) (by decide) rfl rfl d4_6 (pc' := 9) rfl (fun T2 h2 X2 e2 W2 => ?_)
  have f_F_a_value := f_F_a_value.same W2
  have f_E_a := f_E_a.wr W2
  have f_F_a_coder := f_F_a_coder.other W2 (Or.inr (slot_ne (Or.inr (wd_9 hw)) (Or.inr (wd_8 hw)) (by decide) (t := .byte) (t' := (.array .byte)) (by decide) (by decide)))
  have Zn := Nat.le_trans Z0 (Keep.of_wr W2).1
  have Kp := Kp.wr W2 (Or.inl (List.mem_of_getElem? (i := 0) rfl))
  have N2 := Fr.snoc X2 N0 ge_a
  refine own_aloadN X2 hx hby d4_9 (pc' := 10) rfl rfl rfl ?_
  refine own_iloadN X2 hx hby d4_10 (pc' := 11) rfl rfl ?_
  refine own_putN X2 hx hZ hby hown (wd_32 hw) Via.refl e2 f_F_a_coder f_E_a (Or.inr ⟨(wd_9 hw), rfl, hnm⟩) (wd_7 hw) (ty := .byte) (v' := (.int (0 : Int32))) (by decide) rfl (by decide) d4_11 (pc' := 14) rfl (fun T3 h3 X3 e3 W3 => ?_)
  have f_F_a_coder := f_F_a_coder.same W3
  have f_E_a := f_E_a.wr W3
  have f_F_a_value := f_F_a_value.other W3 (Or.inr (slot_ne (Or.inr (wd_8 hw)) (Or.inr (wd_9 hw)) (by decide) (t := (.array .byte)) (t' := .byte) (by decide) (by decide)))
  have Zn := Nat.le_trans Zn (Keep.of_wr W3).1
  have Kp := Kp.wr W3 (Or.inl (List.mem_of_getElem? (i := 0) rfl))
  have N3 := Fr.snoc X3 N2 ge_a
  refine own_return X3 hx hlk hby hret d4_14 (own_lv ?_ (by decide) (by decide))
  show Q4 Z a w  h0 n0 none T3.heap _
  rw [e3]
  exact ⟨rfl, N3, Kp, ⟨f_E_a, f_F_a_value, f_F_a_coder⟩⟩
theorem own_ef_rm1 (m : MethodId) (x : Int32)  : entryFrame m #[(.int x)] 1 = mkF m 0 #[.val (.int x)] [] := by first | (simp [entryFrame, mkF, argsToLocals, Value.category]; done) | rfl
def Q1 (Z : State) (x : Int32) (cs : Int32) (h0 : Heap) (n0 : Nat) (v : Option Value) (h : Heap) (L : List Loc) : Prop := ∃ a : Addr, v = some (.ref a) ∧ Fr n0 L ∧ Keep h0 h [] ∧ h0.size ≤ a
set_option maxRecDepth 65536 in
set_option maxHeartbeats 40000000 in
theorem rm1 (l : Launch) (Z : State) (a0 : Array Value) (hw : ∀ d ∈ tables_1, d.before a0 Z = true) (ws : List Jvm.Cond) (x : Int32) (cs : Int32) (h0 : Heap) (n0 : Nat) (Z0 : n0 ≤ h0.size) (f_S_java_lang_String_COMPACT_STRINGS : Sta Z h0 "java/lang/String" "COMPACT_STRINGS" "Z" (.int cs)) (hcs : ¬ cs = (0 : Int32)) (hx' : ¬ (255 : Int32) < x) :
    MetFree l (⟨"java/lang/String", "valueOf", "(C)Ljava/lang/String;"⟩ : MethodName) (head1 (Jvm.Cond.code (⟨"java/lang/String", "valueOf", "(C)Ljava/lang/String;"⟩ : MethodName) jdk_42_method_139_code 1 (some (.object "java/lang/String")) :: ws) ({ frames := 2, cells := 2, slots := 5, locals := 27 } : Room)) (fun aa U => aa = #[(.int x)] ∧ Z.Warmed39 U.vm ∧ U.heap = h0) (fun _ _ _ _ _ => True) (fun _ U oc U' => ∃ v L, oc = .returned v ∧ Q1 Z x cs h0 n0 v U'.heap L ∧ FrameEnd U oc U' L ({ frames := 2, cells := 2, slots := 5, locals := 27 } : Room).cells ({ frames := 2, cells := 2, slots := 5, locals := 27 } : Room).slots) := by
  refine MetFree.of_bodySF (plainFor_of_name own_pn1) hisR ?_
  intro p e s m args below meth c s₁ Bd hml0 hP hK
  obtain ⟨rfl, hZ, hh⟩ := hP
  have hx := Bd.exec
  have hby := Bd.bytes
  have hlk := Bd.notSynchronized
  have hret := Bd.returns
  have hml : c.maxLocals = 1 := hml0
  have hown : s.vm.findClass "java/lang/String" = some m.cls := findClass_of_methodNamed Bd.named
  have hnm := (name_of_methodNamed Bd.named Bd.method).1
  have X0 : Stand p l e ({ frames := 2, cells := 2, slots := 5, locals := 27 } : Room) s m #[(.int x)] below meth c s₁ [] 0 0 := Stand.of_body Bd
  have e0 : s₁.heap = h0 := by rw [← hh, Bd.state]; rfl
  have N0 := Fr.nil n0
  refine own_body (Q := Q1 Z x cs h0 n0) (KC := ({ frames := 2, cells := 2, slots := 5, locals := 27 } : Room).cells) (KS := ({ frames := 2, cells := 2, slots := 5, locals := 27 } : Room).slots) ?_
  rw [own_ef_rm1 m x]
  have Kp : Keep h0 h0 [] := Keep.refl h0 _
  refine own_getS X0 hx hZ hby hown (host := "") (Or.inl (wd_15 hw)) Via.refl e0 f_S_java_lang_String_COMPACT_STRINGS d1_0 (pc' := 3) rfl (fun T1 X1 e1 => ?_)
  refine own_ifN X1 hx hby d1_3 (pc' := 6) rfl (show ¬ cs = (0 : Int32) from hcs) ?_
  refine own_iloadN X1 hx hby d1_6 (pc' := 7) rfl rfl ?_
  refine own_lk0 hw X1 hx hZ hby (by rw [hml]; rfl) hown d1_7 (pc' := 10) rfl e1 (W := 0) (Nat.le_of_eq rfl) (rm2 l Z a0 hw [] x h0 n0 Z0 hx') (by decide) (by decide) (by decide) (by decide) (fun v2 T2 L2 X2 hQ2 => ?_)
  obtain ⟨rfl, Nq2, e2⟩ := hQ2
  have N2 := Fr.app N0 Nq2
  show own_End p e below _ (T2.setTop (mkF m 10 _ [(.int (1 : Int32))]))
  refine own_ifN X2 hx hby d1_10 (pc' := 13) rfl (show ¬ (1 : Int32) = (0 : Int32) by decide) ?_
  refine own_new X2 hx hZ hby hown (wd_20 hw) (wd_7 hw) (wd_6 hw) e2 d1_13 (pc' := 16) rfl (by decide) (by decide) (fun T3 h3 b3 g3 X3 e3 E3 A3 D3 => ?_)
  have ge_b3 : n0 ≤ b3 := by rw [g3]; exact Z0
  have sz_b3 : h0.size ≤ b3 := by rw [g3]; exact Kp.1
  have f_S_java_lang_String_COMPACT_STRINGS := f_S_java_lang_String_COMPACT_STRINGS.ext E3
  have Zn := Nat.le_trans Z0 E3.1
  have Kp := Kp.ext E3
  have f_O_b3 : own_SO Z h3 b3 .null (0 : Int32) := ⟨A3, D3 (Or.inr (wd_8 hw)) (ty := (.array .byte)) (by decide), D3 (Or.inr (wd_9 hw)) (ty := .byte) (by decide)⟩
  refine own_dup X3 hx hby d1_16 (pc' := 17) rfl rfl ?_
  refine own_iloadN X3 hx hby d1_17 (pc' := 18) rfl rfl ?_
  refine own_lk1 hw X3 hx hZ hby (by rw [hml]; rfl) hown d1_18 (pc' := 21) rfl e3 (W := 2) (Nat.le_of_eq rfl) (rm3 l Z a0 hw [] x h3 n0 Zn ) (by decide) (by decide) (by decide) (by decide) (fun v5 T5 L5 X5 hQ5 => ?_)
  obtain ⟨w4, rfl, Nq5, K5, gw5⟩ := hQ5
  have N5 := Fr.app N2 Nq5
  have f_S_java_lang_String_COMPACT_STRINGS := own_sta0 f_S_java_lang_String_COMPACT_STRINGS K5
  have f_O_b3 := f_O_b3.keep K5 nin0
  have Zn := Nat.le_trans Zn K5.1
  have Kp := Kp.trans K5 all0
  show own_End p e below _ (T5.setTop (mkF m 21 _ [(.ref w4), (.ref b3), (.ref b3)]))
  refine own_iconst X5 hx hby d1_21 (pc' := 22) rfl (n := (0 : Int32)) (by decide) ?_
  refine own_lk2 hw X5 hx hZ hby (by rw [hml]; rfl) hown d1_22 (pc' := 25) rfl rfl (W := 1) (Nat.le_of_eq rfl) (rm4 l Z a0 hw [] b3 w4 T5.heap n0 Zn f_O_b3 ge_b3) (by decide) (by decide) (by decide) (by decide) (fun v6 T6 L6 X6 hQ6 => ?_)
  obtain ⟨rfl, Nq6, K6, O6⟩ := hQ6
  have N6 := Fr.app N5 Nq6
  have f_S_java_lang_String_COMPACT_STRINGS := own_sta1 f_S_java_lang_String_COMPACT_STRINGS K6 f_O_b3.1
  have Zn := Nat.le_trans Zn K6.1
  have Kp := Kp.trans K6 (allS (Or.inr sz_b3) all0)
  show own_End p e below _ (T6.setTop (mkF m 25 _ [(.ref b3)]))
  refine own_areturn X6 hx hlk hby hret rfl rfl d1_25 (own_lv ?_ (by decide) (by decide))
  show Q1 Z x cs  h0 n0 (some (.ref b3)) T6.heap _
  exact ⟨_, rfl, N6, Kp, sz_b3⟩
theorem own_ef_rm7 (m : MethodId) (a : Addr)  : entryFrame m #[(.ref a)] 1 = mkF m 0 #[.val (.ref a)] [] := by first | (simp [entryFrame, mkF, argsToLocals, Value.category]; done) | rfl
def Q7 (Z : State) (a : Addr) (h0 : Heap) (n0 : Nat) (v : Option Value) (h : Heap) (L : List Loc) : Prop := v = none ∧ Fr n0 L ∧ h = h0
set_option maxRecDepth 65536 in
set_option maxHeartbeats 40000000 in
theorem rm7 (l : Launch) (Z : State) (a0 : Array Value) (hw : ∀ d ∈ tables_1, d.before a0 Z = true) (ws : List Jvm.Cond) (a : Addr) (h0 : Heap) (n0 : Nat) (Z0 : n0 ≤ h0.size)  :
    MetFree l (⟨"java/lang/Record", "<init>", "()V"⟩ : MethodName) (head1 (Jvm.Cond.code (⟨"java/lang/Record", "<init>", "()V"⟩ : MethodName) jdk_30_method_1_code 1 none :: ws) ({ frames := 1, cells := 0, slots := 0, locals := 12 } : Room)) (fun aa U => aa = #[(.ref a)] ∧ Z.Warmed39 U.vm ∧ U.heap = h0) (fun _ _ _ _ _ => True) (fun _ U oc U' => ∃ v L, oc = .returned v ∧ Q7 Z a h0 n0 v U'.heap L ∧ FrameEnd U oc U' L ({ frames := 1, cells := 0, slots := 0, locals := 12 } : Room).cells ({ frames := 1, cells := 0, slots := 0, locals := 12 } : Room).slots) := by
  refine MetFree.of_bodySF (plainFor_of_name own_pn5) hisR ?_
  intro p e s m args below meth c s₁ Bd hml0 hP hK
  obtain ⟨rfl, hZ, hh⟩ := hP
  have hx := Bd.exec
  have hby := Bd.bytes
  have hlk := Bd.notSynchronized
  have hret := Bd.returns
  have hml : c.maxLocals = 1 := hml0
  have hown : s.vm.findClass "java/lang/Record" = some m.cls := findClass_of_methodNamed Bd.named
  have hnm := (name_of_methodNamed Bd.named Bd.method).1
  have X0 : Stand p l e ({ frames := 1, cells := 0, slots := 0, locals := 12 } : Room) s m #[(.ref a)] below meth c s₁ [] 0 0 := Stand.of_body Bd
  have e0 : s₁.heap = h0 := by rw [← hh, Bd.state]; rfl
  have N0 := Fr.nil n0
  refine own_body (Q := Q7 Z a h0 n0) (KC := ({ frames := 1, cells := 0, slots := 0, locals := 12 } : Room).cells) (KS := ({ frames := 1, cells := 0, slots := 0, locals := 12 } : Room).slots) ?_
  rw [own_ef_rm7 m a]
  refine own_aloadN X0 hx hby d7_0 (pc' := 1) rfl rfl rfl ?_
  refine own_init X0 hx hZ hby hown (wd_42 hw) (wd_29 hw) (wd_30 hw) e0 (by rw [hml]; rfl) d7_1 (pc' := 4) rfl (by decide) (W := 0) (Nat.le_of_eq rfl) (by decide) (fun T1 X1 e1 => ?_)
  refine own_return X1 hx hlk hby hret d7_4 (own_lv ?_ (by decide) (by decide))
  show Q7 Z a  h0 n0 none T1.heap _
  rw [e1]
  exact ⟨rfl, N0, rfl⟩
theorem own_ef_rm6 (m : MethodId) (a : Addr) (p1 : Int32) (p2 : Int32) (p3 : Int32) (p4 : Int32) (p5 : Addr) (p6 : Addr) (p7 : Addr)  : entryFrame m #[(.ref a), (.int p1), (.int p2), (.int p3), (.int p4), (.ref p5), (.ref p6), (.ref p7), .null] 9 = mkF m 0 #[.val (.ref a), .val (.int p1), .val (.int p2), .val (.int p3), .val (.int p4), .val (.ref p5), .val (.ref p6), .val (.ref p7), .val .null] [] := by first | (simp [entryFrame, mkF, argsToLocals, Value.category]; done) | rfl
def Q6 (Z : State) (a : Addr) (p1 : Int32) (p2 : Int32) (p3 : Int32) (p4 : Int32) (p5 : Addr) (p6 : Addr) (p7 : Addr) (h0 : Heap) (n0 : Nat) (v : Option Value) (h : Heap) (L : List Loc) : Prop := v = none ∧ Fr n0 L ∧ Keep h0 h [a] ∧ own_ST Z h a p1 p2 p3 p4 (.ref p5) (.ref p6) (.ref p7) .null
set_option maxRecDepth 65536 in
set_option maxHeartbeats 40000000 in
theorem rm6 (l : Launch) (Z : State) (a0 : Array Value) (hw : ∀ d ∈ tables_1, d.before a0 Z = true) (ws : List Jvm.Cond) (a : Addr) (p1 : Int32) (p2 : Int32) (p3 : Int32) (p4 : Int32) (p5 : Addr) (p6 : Addr) (p7 : Addr) (h0 : Heap) (n0 : Nat) (Z0 : n0 ≤ h0.size) (f_O_a : own_ST Z h0 a (0 : Int32) (0 : Int32) (0 : Int32) (0 : Int32) .null .null .null .null) (ge_a : n0 ≤ a) :
    MetFree l (⟨"com/example/halyard/halyard/base/XmlScan$StartTag", "<init>", "(IIIILjava/lang/String;Ljava/lang/String;[ILjava/util/Map;)V"⟩ : MethodName) (head1 (Jvm.Cond.code (⟨"com/example/halyard/halyard/base/XmlScan$StartTag", "<init>", "(IIIILjava/lang/String;Ljava/lang/String;[ILjava/util/Map;)V"⟩ : MethodName) prog_23_method_1_code 9 none :: ws) ({ frames := 2, cells := 0, slots := 0, locals := 24 } : Room)) (fun aa U => aa = #[(.ref a), (.int p1), (.int p2), (.int p3), (.int p4), (.ref p5), (.ref p6), (.ref p7), .null] ∧ Z.Warmed39 U.vm ∧ U.heap = h0) (fun _ _ _ _ _ => True) (fun _ U oc U' => ∃ v L, oc = .returned v ∧ Q6 Z a p1 p2 p3 p4 p5 p6 p7 h0 n0 v U'.heap L ∧ FrameEnd U oc U' L ({ frames := 2, cells := 0, slots := 0, locals := 24 } : Room).cells ({ frames := 2, cells := 0, slots := 0, locals := 24 } : Room).slots) := by
  refine MetFree.of_bodySF (plainFor_of_name own_pn7) hisR ?_
  intro p e s m args below meth c s₁ Bd hml0 hP hK
  obtain ⟨rfl, hZ, hh⟩ := hP
  have hx := Bd.exec
  have hby := Bd.bytes
  have hlk := Bd.notSynchronized
  have hret := Bd.returns
  have hml : c.maxLocals = 9 := hml0
  have hown : s.vm.findClass "com/example/halyard/halyard/base/XmlScan$StartTag" = some m.cls := findClass_of_methodNamed Bd.named
  have hnm := (name_of_methodNamed Bd.named Bd.method).1
  have X0 : Stand p l e ({ frames := 2, cells := 0, slots := 0, locals := 24 } : Room) s m #[(.ref a), (.int p1), (.int p2), (.int p3), (.int p4), (.ref p5), (.ref p6), (.ref p7), .null] below meth c s₁ [] 0 0 := Stand.of_body Bd
  have e0 : s₁.heap = h0 := by rw [← hh, Bd.state]; rfl
  have N0 := Fr.nil n0
  refine own_body (Q := Q6 Z a p1 p2 p3 p4 p5 p6 p7 h0 n0) (KC := ({ frames := 2, cells := 0, slots := 0, locals := 24 } : Room).cells) (KS := ({ frames := 2, cells := 0, slots := 0, locals := 24 } : Room).slots) ?_
  rw [own_ef_rm6 m a p1 p2 p3 p4 p5 p6 p7]
  have Kp : Keep h0 h0 [a] := Keep.refl h0 _
  refine own_aloadN X0 hx hby d6_0 (pc' := 1) rfl rfl rfl ?_
  refine own_lk3 hw X0 hx hZ hby (by rw [hml]; rfl) hown d6_1 (pc' := 4) rfl e0 (W := 0) (Nat.le_of_eq rfl) (rm7 l Z a0 hw [] a h0 n0 Z0 ) (by decide) (by decide) (by decide) (by decide) (fun v1 T1 L1 X1 hQ1 => ?_)
  obtain ⟨rfl, Nq1, e1⟩ := hQ1
  have N1 := Fr.app N0 Nq1
  show own_End p e below _ (T1.setTop (mkF m 4 _ []))
  refine own_aloadN X1 hx hby d6_4 (pc' := 5) rfl rfl rfl ?_
  refine own_iloadN X1 hx hby d6_5 (pc' := 6) rfl rfl ?_
  obtain ⟨f_E_a, f_F_a_depth, f_F_a_start, f_F_a_nameEnd, f_F_a_end, f_F_a_namespace, f_F_a_localName, f_F_a_attributes, f_F_a_scope⟩ := f_O_a
  refine own_putF X1 hx hZ hby hown (host := "") (Or.inl (wd_43 hw)) Via.refl e1 f_F_a_depth f_E_a (Or.inr ⟨(wd_44 hw), rfl, hnm⟩) (wd_3 hw) (ty := .int) (by decide) rfl rfl d6_6 (pc' := 9) rfl (fun T2 h2 X2 e2 W2 => ?_)
  have f_F_a_depth := f_F_a_depth.same W2
  have f_E_a := f_E_a.wr W2
  have f_F_a_start := f_F_a_start.other W2 (Or.inr (slot_ne (Or.inr (wd_46 hw)) (Or.inr (wd_44 hw)) (by decide) (t := .int) (t' := .int) (by decide) (by decide)))
  have f_F_a_nameEnd := f_F_a_nameEnd.other W2 (Or.inr (slot_ne (Or.inr (wd_48 hw)) (Or.inr (wd_44 hw)) (by decide) (t := .int) (t' := .int) (by decide) (by decide)))
  have f_F_a_end := f_F_a_end.other W2 (Or.inr (slot_ne (Or.inr (wd_50 hw)) (Or.inr (wd_44 hw)) (by decide) (t := .int) (t' := .int) (by decide) (by decide)))
  have f_F_a_namespace := f_F_a_namespace.other W2 (Or.inr (slot_ne (Or.inr (wd_52 hw)) (Or.inr (wd_44 hw)) (by decide) (t := (.object "java/lang/String")) (t' := .int) (by decide) (by decide)))
  have f_F_a_localName := f_F_a_localName.other W2 (Or.inr (slot_ne (Or.inr (wd_54 hw)) (Or.inr (wd_44 hw)) (by decide) (t := (.object "java/lang/String")) (t' := .int) (by decide) (by decide)))
  have f_F_a_attributes := f_F_a_attributes.other W2 (Or.inr (slot_ne (Or.inr (wd_56 hw)) (Or.inr (wd_44 hw)) (by decide) (t := (.array .int)) (t' := .int) (by decide) (by decide)))
  have f_F_a_scope := f_F_a_scope.other W2 (Or.inr (slot_ne (Or.inr (wd_58 hw)) (Or.inr (wd_44 hw)) (by decide) (t := (.object "java/util/Map")) (t' := .int) (by decide) (by decide)))
  have Zn := Nat.le_trans Z0 (Keep.of_wr W2).1
  have Kp := Kp.wr W2 (Or.inl (List.mem_of_getElem? (i := 0) rfl))
  have N2 := Fr.snoc X2 N1 ge_a
  refine own_aloadN X2 hx hby d6_9 (pc' := 10) rfl rfl rfl ?_
  refine own_iloadN X2 hx hby d6_10 (pc' := 11) rfl rfl ?_
  refine own_putF X2 hx hZ hby hown (host := "") (Or.inl (wd_45 hw)) Via.refl e2 f_F_a_start f_E_a (Or.inr ⟨(wd_46 hw), rfl, hnm⟩) (wd_3 hw) (ty := .int) (by decide) rfl rfl d6_11 (pc' := 14) rfl (fun T3 h3 X3 e3 W3 => ?_)
  have f_F_a_start := f_F_a_start.same W3
  have f_E_a := f_E_a.wr W3
  have f_F_a_depth := f_F_a_depth.other W3 (Or.inr (slot_ne (Or.inr (wd_44 hw)) (Or.inr (wd_46 hw)) (by decide) (t := .int) (t' := .int) (by decide) (by decide)))
  have f_F_a_nameEnd := f_F_a_nameEnd.other W3 (Or.inr (slot_ne (Or.inr (wd_48 hw)) (Or.inr (wd_46 hw)) (by decide) (t := .int) (t' := .int) (by decide) (by decide)))
  have f_F_a_end := f_F_a_end.other W3 (Or.inr (slot_ne (Or.inr (wd_50 hw)) (Or.inr (wd_46 hw)) (by decide) (t := .int) (t' := .int) (by decide) (by decide)))
  have f_F_a_namespace := f_F_a_namespace.other W3 (Or.inr (slot_ne (Or.inr (wd_52 hw)) (Or.inr (wd_46 hw)) (by decide) (t := (.object "java/lang/String")) (t' := .int) (by decide) (by decide)))
  have f_F_a_localName := f_F_a_localName.other W3 (Or.inr (slot_ne (Or.inr (wd_54 hw)) (Or.inr (wd_46 hw)) (by decide) (t := (.object "java/lang/String")) (t' := .int) (by decide) (by decide)))
  have f_F_a_attributes := f_F_a_attributes.other W3 (Or.inr (slot_ne (Or.inr (wd_56 hw)) (Or.inr (wd_46 hw)) (by decide) (t := (.array .int)) (t' := .int) (by decide) (by decide)))
  have f_F_a_scope := f_F_a_scope.other W3 (Or.inr (slot_ne (Or.inr (wd_58 hw)) (Or.inr (wd_46 hw)) (by decide) (t := (.object "java/util/Map")) (t' := .int) (by decide) (by decide)))
  have Zn := Nat.le_trans Zn (Keep.of_wr W3).1
  have Kp := Kp.wr W3 (Or.inl (List.mem_of_getElem? (i := 0) rfl))
  have N3 := Fr.snoc X3 N2 ge_a
  refine own_aloadN X3 hx hby d6_14 (pc' := 15) rfl rfl rfl ?_
  refine own_iloadN X3 hx hby d6_15 (pc' := 16) rfl rfl ?_
  refine own_putF X3 hx hZ hby hown (host := "") (Or.inl (wd_47 hw)) Via.refl e3 f_F_a_nameEnd f_E_a (Or.inr ⟨(wd_48 hw), rfl, hnm⟩) (wd_3 hw) (ty := .int) (by decide) rfl rfl d6_16 (pc' := 19) rfl (fun T4 h4 X4 e4 W4 => ?_)
  have f_F_a_nameEnd := f_F_a_nameEnd.same W4
  have f_E_a := f_E_a.wr W4
  have f_F_a_depth := f_F_a_depth.other W4 (Or.inr (slot_ne (Or.inr (wd_44 hw)) (Or.inr (wd_48 hw)) (by decide) (t := .int) (t' := .int) (by decide) (by decide)))
  have f_F_a_start := f_F_a_start.other W4 (Or.inr (slot_ne (Or.inr (wd_46 hw)) (Or.inr (wd_48 hw)) (by decide) (t := .int) (t' := .int) (by decide) (by decide)))
  have f_F_a_end := f_F_a_end.other W4 (Or.inr (slot_ne (Or.inr (wd_50 hw)) (Or.inr (wd_48 hw)) (by decide) (t := .int) (t' := .int) (by decide) (by decide)))
  have f_F_a_namespace := f_F_a_namespace.other W4 (Or.inr (slot_ne (Or.inr (wd_52 hw)) (Or.inr (wd_48 hw)) (by decide) (t := (.object "java/lang/String")) (t' := .int) (by decide) (by decide)))
  have f_F_a_localName := f_F_a_localName.other W4 (Or.inr (slot_ne (Or.inr (wd_54 hw)) (Or.inr (wd_48 hw)) (by decide) (t := (.object "java/lang/String")) (t' := .int) (by decide) (by decide)))
  have f_F_a_attributes := f_F_a_attributes.other W4 (Or.inr (slot_ne (Or.inr (wd_56 hw)) (Or.inr (wd_48 hw)) (by decide) (t := (.array .int)) (t' := .int) (by decide) (by decide)))
  have f_F_a_scope := f_F_a_scope.other W4 (Or.inr (slot_ne (Or.inr (wd_58 hw)) (Or.inr (wd_48 hw)) (by decide) (t := (.object "java/util/Map")) (t' := .int) (by decide) (by decide)))
  have Zn := Nat.le_trans Zn (Keep.of_wr W4).1
  have Kp := Kp.wr W4 (Or.inl (List.mem_of_getElem? (i := 0) rfl))
  have N4 := Fr.snoc X4 N3 ge_a
  refine own_aloadN X4 hx hby d6_19 (pc' := 20) rfl rfl rfl ?_
  refine own_iload X4 hx hby d6_20 (pc' := 22) rfl rfl ?_
  refine own_putF X4 hx hZ hby hown (host := "") (Or.inl (wd_49 hw)) Via.refl e4 f_F_a_end f_E_a (Or.inr ⟨(wd_50 hw), rfl, hnm⟩) (wd_3 hw) (ty := .int) (by decide) rfl rfl d6_22 (pc' := 25) rfl (fun T5 h5 X5 e5 W5 => ?_)
  have f_F_a_end := f_F_a_end.same W5
  have f_E_a := f_E_a.wr W5
  have f_F_a_depth := f_F_a_depth.other W5 (Or.inr (slot_ne (Or.inr (wd_44 hw)) (Or.inr (wd_50 hw)) (by decide) (t := .int) (t' := .int) (by decide) (by decide)))
  have f_F_a_start := f_F_a_start.other W5 (Or.inr (slot_ne (Or.inr (wd_46 hw)) (Or.inr (wd_50 hw)) (by decide) (t := .int) (t' := .int) (by decide) (by decide)))
  have f_F_a_nameEnd := f_F_a_nameEnd.other W5 (Or.inr (slot_ne (Or.inr (wd_48 hw)) (Or.inr (wd_50 hw)) (by decide) (t := .int) (t' := .int) (by decide) (by decide)))
  have f_F_a_namespace := f_F_a_namespace.other W5 (Or.inr (slot_ne (Or.inr (wd_52 hw)) (Or.inr (wd_50 hw)) (by decide) (t := (.object "java/lang/String")) (t' := .int) (by decide) (by decide)))
  have f_F_a_localName := f_F_a_localName.other W5 (Or.inr (slot_ne (Or.inr (wd_54 hw)) (Or.inr (wd_50 hw)) (by decide) (t := (.object "java/lang/String")) (t' := .int) (by decide) (by decide)))
  have f_F_a_attributes := f_F_a_attributes.other W5 (Or.inr (slot_ne (Or.inr (wd_56 hw)) (Or.inr (wd_50 hw)) (by decide) (t := (.array .int)) (t' := .int) (by decide) (by decide)))
  have f_F_a_scope := f_F_a_scope.other W5 (Or.inr (slot_ne (Or.inr (wd_58 hw)) (Or.inr (wd_50 hw)) (by decide) (t := (.object "java/util/Map")) (t' := .int) (by decide) (by decide)))
  have Zn := Nat.le_trans Zn (Keep.of_wr W5).1
  have Kp := Kp.wr W5 (Or.inl (List.mem_of_getElem? (i := 0) rfl))
  have N5 := Fr.snoc X5 N4 ge_a
  refine own_aloadN X5 hx hby d6_25 (pc' := 26) rfl rfl rfl ?_
  refine own_aload X5 hx hby d6_26 (pc' := 28) rfl rfl rfl ?_
  refine own_putF X5 hx hZ hby hown (host := "") (Or.inl (wd_51 hw)) Via.refl e5 f_F_a_namespace f_E_a (Or.inr ⟨(wd_52 hw), rfl, hnm⟩) (wd_3 hw) (ty := (.object "java/lang/String")) (by decide) rfl rfl d6_28 (pc' := 31) rfl (fun T6 h6 X6 e6 W6 => ?_)
  have f_F_a_namespace := f_F_a_namespace.same W6
  have f_E_a := f_E_a.wr W6
  have f_F_a_depth := f_F_a_depth.other W6 (Or.inr (slot_ne (Or.inr (wd_44 hw)) (Or.inr (wd_52 hw)) (by decide) (t := .int) (t' := (.object "java/lang/String")) (by decide) (by decide)))
  have f_F_a_start := f_F_a_start.other W6 (Or.inr (slot_ne (Or.inr (wd_46 hw)) (Or.inr (wd_52 hw)) (by decide) (t := .int) (t' := (.object "java/lang/String")) (by decide) (by decide)))
  have f_F_a_nameEnd := f_F_a_nameEnd.other W6 (Or.inr (slot_ne (Or.inr (wd_48 hw)) (Or.inr (wd_52 hw)) (by decide) (t := .int) (t' := (.object "java/lang/String")) (by decide) (by decide)))
  have f_F_a_end := f_F_a_end.other W6 (Or.inr (slot_ne (Or.inr (wd_50 hw)) (Or.inr (wd_52 hw)) (by decide) (t := .int) (t' := (.object "java/lang/String")) (by decide) (by decide)))
  have f_F_a_localName := f_F_a_localName.other W6 (Or.inr (slot_ne (Or.inr (wd_54 hw)) (Or.inr (wd_52 hw)) (by decide) (t := (.object "java/lang/String")) (t' := (.object "java/lang/String")) (by decide) (by decide)))
  have f_F_a_attributes := f_F_a_attributes.other W6 (Or.inr (slot_ne (Or.inr (wd_56 hw)) (Or.inr (wd_52 hw)) (by decide) (t := (.array .int)) (t' := (.object "java/lang/String")) (by decide) (by decide)))
  have f_F_a_scope := f_F_a_scope.other W6 (Or.inr (slot_ne (Or.inr (wd_58 hw)) (Or.inr (wd_52 hw)) (by decide) (t := (.object "java/util/Map")) (t' := (.object "java/lang/String")) (by decide) (by decide)))
  have Zn := Nat.le_trans Zn (Keep.of_wr W6).1
  have Kp := Kp.wr W6 (Or.inl (List.mem_of_getElem? (i := 0) rfl))
  have N6 := Fr.snoc X6 N5 ge_a
  refine own_aloadN X6 hx hby d6_31 (pc' := 32) rfl rfl rfl ?_
  refine own_aload X6 hx hby d6_32 (pc' := 34) rfl rfl rfl ?_
  refine own_putF X6 hx hZ hby hown (host := "") (Or.inl (wd_53 hw)) Via.refl e6 f_F_a_localName f_E_a (Or.inr ⟨(wd_54 hw), rfl, hnm⟩) (wd_3 hw) (ty := (.object "java/lang/String")) (by decide) rfl rfl d6_34 (pc' := 37) rfl (fun T7 h7 X7 e7 W7 => ?_)
  have f_F_a_localName := f_F_a_localName.same W7
  have f_E_a := f_E_a.wr W7
  have f_F_a_depth := f_F_a_depth.other W7 (Or.inr (slot_ne (Or.inr (wd_44 hw)) (Or.inr (wd_54 hw)) (by decide) (t := .int) (t' := (.object "java/lang/String")) (by decide) (by decide)))
  have f_F_a_start := f_F_a_start.other W7 (Or.inr (slot_ne (Or.inr (wd_46 hw)) (Or.inr (wd_54 hw)) (by decide) (t := .int) (t' := (.object "java/lang/String")) (by decide) (by decide)))
  have f_F_a_nameEnd := f_F_a_nameEnd.other W7 (Or.inr (slot_ne (Or.inr (wd_48 hw)) (Or.inr (wd_54 hw)) (by decide) (t := .int) (t' := (.object "java/lang/String")) (by decide) (by decide)))
  have f_F_a_end := f_F_a_end.other W7 (Or.inr (slot_ne (Or.inr (wd_50 hw)) (Or.inr (wd_54 hw)) (by decide) (t := .int) (t' := (.object "java/lang/String")) (by decide) (by decide)))
  have f_F_a_namespace := f_F_a_namespace.other W7 (Or.inr (slot_ne (Or.inr (wd_52 hw)) (Or.inr (wd_54 hw)) (by decide) (t := (.object "java/lang/String")) (t' := (.object "java/lang/String")) (by decide) (by decide)))
  have f_F_a_attributes := f_F_a_attributes.other W7 (Or.inr (slot_ne (Or.inr (wd_56 hw)) (Or.inr (wd_54 hw)) (by decide) (t := (.array .int)) (t' := (.object "java/lang/String")) (by decide) (by decide)))
  have f_F_a_scope := f_F_a_scope.other W7 (Or.inr (slot_ne (Or.inr (wd_58 hw)) (Or.inr (wd_54 hw)) (by decide) (t := (.object "java/util/Map")) (t' := (.object "java/lang/String")) (by decide) (by decide)))
  have Zn := Nat.le_trans Zn (Keep.of_wr W7).1
  have Kp := Kp.wr W7 (Or.inl (List.mem_of_getElem? (i := 0) rfl))
  have N7 := Fr.snoc X7 N6 ge_a
  refine own_aloadN X7 hx hby d6_37 (pc' := 38) rfl rfl rfl ?_
  refine own_aload X7 hx hby d6_38 (pc' := 40) rfl rfl rfl ?_
  refine own_putF X7 hx hZ hby hown (host := "") (Or.inl (wd_55 hw)) Via.refl e7 f_F_a_attributes f_E_a (Or.inr ⟨(wd_56 hw), rfl, hnm⟩) (wd_3 hw) (ty := (.array .int)) (by decide) rfl rfl d6_40 (pc' := 43) rfl (fun T8 h8 X8 e8 W8 => ?_)
  have f_F_a_attributes := f_F_a_attributes.same W8
  have f_E_a := f_E_a.wr W8
  have f_F_a_depth := f_F_a_depth.other W8 (Or.inr (slot_ne (Or.inr (wd_44 hw)) (Or.inr (wd_56 hw)) (by decide) (t := .int) (t' := (.array .int)) (by decide) (by decide)))
  have f_F_a_start := f_F_a_start.other W8 (Or.inr (slot_ne (Or.inr (wd_46 hw)) (Or.inr (wd_56 hw)) (by decide) (t := .int) (t' := (.array .int)) (by decide) (by decide)))
  have f_F_a_nameEnd := f_F_a_nameEnd.other W8 (Or.inr (slot_ne (Or.inr (wd_48 hw)) (Or.inr (wd_56 hw)) (by decide) (t := .int) (t' := (.array .int)) (by decide) (by decide)))
  have f_F_a_end := f_F_a_end.other W8 (Or.inr (slot_ne (Or.inr (wd_50 hw)) (Or.inr (wd_56 hw)) (by decide) (t := .int) (t' := (.array .int)) (by decide) (by decide)))
  have f_F_a_namespace := f_F_a_namespace.other W8 (Or.inr (slot_ne (Or.inr (wd_52 hw)) (Or.inr (wd_56 hw)) (by decide) (t := (.object "java/lang/String")) (t' := (.array .int)) (by decide) (by decide)))
  have f_F_a_localName := f_F_a_localName.other W8 (Or.inr (slot_ne (Or.inr (wd_54 hw)) (Or.inr (wd_56 hw)) (by decide) (t := (.object "java/lang/String")) (t' := (.array .int)) (by decide) (by decide)))
  have f_F_a_scope := f_F_a_scope.other W8 (Or.inr (slot_ne (Or.inr (wd_58 hw)) (Or.inr (wd_56 hw)) (by decide) (t := (.object "java/util/Map")) (t' := (.array .int)) (by decide) (by decide)))
  have Zn := Nat.le_trans Zn (Keep.of_wr W8).1
  have Kp := Kp.wr W8 (Or.inl (List.mem_of_getElem? (i := 0) rfl))
  have N8 := Fr.snoc X8 N7 ge_a
  refine own_aloadN X8 hx hby d6_43 (pc' := 44) rfl rfl rfl ?_
  refine own_aload X8 hx hby d6_44 (pc' := 46) rfl rfl rfl ?_
  refine own_putF X8 hx hZ hby hown (host := "") (Or.inl (wd_57 hw)) Via.refl e8 f_F_a_scope f_E_a (Or.inr ⟨(wd_58 hw), rfl, hnm⟩) (wd_3 hw) (ty := (.object "java/util/Map")) (by decide) rfl rfl d6_46 (pc' := 49) rfl (fun T9 h9 X9 e9 W9 => ?_)
  have f_F_a_scope := f_F_a_scope.same W9
  have f_E_a := f_E_a.wr W9
  have f_F_a_depth := f_F_a_depth.other W9 (Or.inr (slot_ne (Or.inr (wd_44 hw)) (Or.inr (wd_58 hw)) (by decide) (t := .int) (t' := (.object "java/util/Map")) (by decide) (by decide)))
  have f_F_a_start := f_F_a_start.other W9 (Or.inr (slot_ne (Or.inr (wd_46 hw)) (Or.inr (wd_58 hw)) (by decide) (t := .int) (t' := (.object "java/util/Map")) (by decide) (by decide)))
  have f_F_a_nameEnd := f_F_a_nameEnd.other W9 (Or.inr (slot_ne (Or.inr (wd_48 hw)) (Or.inr (wd_58 hw)) (by decide) (t := .int) (t' := (.object "java/util/Map")) (by decide) (by decide)))
  have f_F_a_end := f_F_a_end.other W9 (Or.inr (slot_ne (Or.inr (wd_50 hw)) (Or.inr (wd_58 hw)) (by decide) (t := .int) (t' := (.object "java/util/Map")) (by decide) (by decide)))
  have f_F_a_namespace := f_F_a_namespace.other W9 (Or.inr (slot_ne (Or.inr (wd_52 hw)) (Or.inr (wd_58 hw)) (by decide) (t := (.object "java/lang/String")) (t' := (.object "java/util/Map")) (by decide) (by decide)))
  have f_F_a_localName := f_F_a_localName.other W9 (Or.inr (slot_ne (Or.inr (wd_54 hw)) (Or.inr (wd_58 hw)) (by decide) (t := (.object "java/lang/String")) (t' := (.object "java/util/Map")) (by decide) (by decide)))
  have f_F_a_attributes := f_F_a_attributes.other W9 (Or.inr (slot_ne (Or.inr (wd_56 hw)) (Or.inr (wd_58 hw)) (by decide) (t := (.array .int)) (t' := (.object "java/util/Map")) (by decide) (by decide)))
  have Zn := Nat.le_trans Zn (Keep.of_wr W9).1
  have Kp := Kp.wr W9 (Or.inl (List.mem_of_getElem? (i := 0) rfl))
  have N9 := Fr.snoc X9 N8 ge_a
  refine own_return X9 hx hlk hby hret d6_49 (own_lv ?_ (by decide) (by decide))
  show Q6 Z a p1 p2 p3 p4 p5 p6 p7  h0 n0 none T9.heap _
  rw [e9]
  exact ⟨rfl, N9, Kp, ⟨f_E_a, f_F_a_depth, f_F_a_start, f_F_a_nameEnd, f_F_a_end, f_F_a_namespace, f_F_a_localName, f_F_a_attributes, f_F_a_scope⟩⟩
theorem own_ef_rm8 (m : MethodId) (a : Addr) (p1 : Addr) (p2 : Addr) (p3 : Int32) (p5 : Addr)  : entryFrame m #[(.ref a), (.ref p1), (.ref p2), (.int p3), .null, (.ref p5)] 6 = mkF m 0 #[.val (.ref a), .val (.ref p1), .val (.ref p2), .val (.int p3), .val .null, .val (.ref p5)] [] := by first | (simp [entryFrame, mkF, argsToLocals, Value.category]; done) | rfl
def Q8 (Z : State) (a : Addr) (p1 : Addr) (p2 : Addr) (p3 : Int32) (p5 : Addr) (h0 : Heap) (n0 : Nat) (v : Option Value) (h : Heap) (L : List Loc) : Prop := v = none ∧ Fr n0 L ∧ Keep h0 h [a] ∧ own_XS Z h a (.ref p1) (.ref p2) p3 .null (.ref p5)
set_option maxRecDepth 65536 in
set_option maxHeartbeats 40000000 in
theorem rm8 (l : Launch) (Z : State) (a0 : Array Value) (hw : ∀ d ∈ tables_1, d.before a0 Z = true) (ws : List Jvm.Cond) (a : Addr) (p1 : Addr) (p2 : Addr) (p3 : Int32) (p5 : Addr) (h0 : Heap) (n0 : Nat) (Z0 : n0 ≤ h0.size) (f_O_a : own_XS Z h0 a .null .null (0 : Int32) .null .null) (ge_a : n0 ≤ a) :
    MetFree l (⟨"com/example/halyard/halyard/base/XmlSlice", "<init>", "([BLcom/example/halyard/halyard/base/XmlScan$StartTag;ILjava/util/List;[I)V"⟩ : MethodName) (head1 (Jvm.Cond.code (⟨"com/example/halyard/halyard/base/XmlSlice", "<init>", "([BLcom/example/halyard/halyard/base/XmlScan$StartTag;ILjava/util/List;[I)V"⟩ : MethodName) prog_24_method_1_code 6 none :: ws) ({ frames := 1, cells := 0, slots := 0, locals := 12 } : Room)) (fun aa U => aa = #[(.ref a), (.ref p1), (.ref p2), (.int p3), .null, (.ref p5)] ∧ Z.Warmed39 U.vm ∧ U.heap = h0) (fun _ _ _ _ _ => True) (fun _ U oc U' => ∃ v L, oc = .returned v ∧ Q8 Z a p1 p2 p3 p5 h0 n0 v U'.heap L ∧ FrameEnd U oc U' L ({ frames := 1, cells := 0, slots := 0, locals := 12 } : Room).cells ({ frames := 1, cells := 0, slots := 0, locals := 12 } : Room).slots) := by
  refine MetFree.of_bodySF (plainFor_of_name own_pn8) hisR ?_
  intro p e s m args below meth c s₁ Bd hml0 hP hK
  obtain ⟨rfl, hZ, hh⟩ := hP
  have hx := Bd.exec
  have hby := Bd.bytes
  have hlk := Bd.notSynchronized
  have hret := Bd.returns
  have hml : c.maxLocals = 6 := hml0
  have hown : s.vm.findClass "com/example/halyard/halyard/base/XmlSlice" = some m.cls := findClass_of_methodNamed Bd.named
  have hnm := (name_of_methodNamed Bd.named Bd.method).1
  have X0 : Stand p l e ({ frames := 1, cells := 0, slots := 0, locals := 12 } : Room) s m #[(.ref a), (.ref p1), (.ref p2), (.int p3), .null, (.ref p5)] below meth c s₁ [] 0 0 := Stand.of_body Bd
  have e0 : s₁.heap = h0 := by rw [← hh, Bd.state]; rfl
  have N0 := Fr.nil n0
  refine own_body (Q := Q8 Z a p1 p2 p3 p5 h0 n0) (KC := ({ frames := 1, cells := 0, slots := 0, locals := 12 } : Room).cells) (KS := ({ frames := 1, cells := 0, slots := 0, locals := 12 } : Room).slots) ?_
  rw [own_ef_rm8 m a p1 p2 p3 p5]
  have Kp : Keep h0 h0 [a] := Keep.refl h0 _
  refine own_aloadN X0 hx hby d8_0 (pc' := 1) rfl rfl rfl ?_
  refine own_init X0 hx hZ hby hown (wd_65 hw) (wd_29 hw) (wd_30 hw) e0 (by rw [hml]; rfl) d8_1 (pc' := 4) rfl (by decide) (W := 0) (Nat.le_of_eq rfl) (by decide) (fun T1 X1 e1 => ?_)
  refine own_aloadN X1 hx hby d8_4 (pc' := 5) rfl rfl rfl ?_
  refine own_aloadN X1 hx hby d8_5 (pc' := 6) rfl rfl rfl ?_
  obtain ⟨f_E_a, f_F_a_document, f_F_a_tag, f_F_a_end, f_F_a_children, f_F_a_held⟩ := f_O_a
  refine own_putF X1 hx hZ hby hown (host := "") (Or.inl (wd_66 hw)) Via.refl e1 f_F_a_document f_E_a (Or.inr ⟨(wd_67 hw), rfl, hnm⟩) (wd_60 hw) (ty := (.array .byte)) (by decide) rfl rfl d8_6 (pc' := 9) rfl (fun T2 h2 X2 e2 W2 => ?_)
  have f_F_a_document := f_F_a_document.same W2
  have f_E_a := f_E_a.wr W2
  have f_F_a_tag := f_F_a_tag.other W2 (Or.inr (slot_ne (Or.inr (wd_69 hw)) (Or.inr (wd_67 hw)) (by decide) (t := (.object "com/example/halyard/halyard/base/XmlScan$StartTag")) (t' := (.array .byte)) (by decide) (by decide)))
  have f_F_a_end := f_F_a_end.other W2 (Or.inr (slot_ne (Or.inr (wd_71 hw)) (Or.inr (wd_67 hw)) (by decide) (t := .int) (t' := (.array .byte)) (by decide) (by decide)))
  have f_F_a_children := f_F_a_children.other W2 (Or.inr (slot_ne (Or.inr (wd_73 hw)) (Or.inr (wd_67 hw)) (by decide) (t := (.object "java/util/List")) (t' := (.array .byte)) (by decide) (by decide)))
  have f_F_a_held := f_F_a_held.other W2 (Or.inr (slot_ne (Or.inr (wd_75 hw)) (Or.inr (wd_67 hw)) (by decide) (t := (.array .int)) (t' := (.array .byte)) (by decide) (by decide)))
  have Zn := Nat.le_trans Z0 (Keep.of_wr W2).1
  have Kp := Kp.wr W2 (Or.inl (List.mem_of_getElem? (i := 0) rfl))
  have N2 := Fr.snoc X2 N0 ge_a
  refine own_aloadN X2 hx hby d8_9 (pc' := 10) rfl rfl rfl ?_
  refine own_aloadN X2 hx hby d8_10 (pc' := 11) rfl rfl rfl ?_
  refine own_putF X2 hx hZ hby hown (host := "") (Or.inl (wd_68 hw)) Via.refl e2 f_F_a_tag f_E_a (Or.inr ⟨(wd_69 hw), rfl, hnm⟩) (wd_60 hw) (ty := (.object "com/example/halyard/halyard/base/XmlScan$StartTag")) (by decide) rfl rfl d8_11 (pc' := 14) rfl (fun T3 h3 X3 e3 W3 => ?_)
  have f_F_a_tag := f_F_a_tag.same W3
  have f_E_a := f_E_a.wr W3
  have f_F_a_document := f_F_a_document.other W3 (Or.inr (slot_ne (Or.inr (wd_67 hw)) (Or.inr (wd_69 hw)) (by decide) (t := (.array .byte)) (t' := (.object "com/example/halyard/halyard/base/XmlScan$StartTag")) (by decide) (by decide)))
  have f_F_a_end := f_F_a_end.other W3 (Or.inr (slot_ne (Or.inr (wd_71 hw)) (Or.inr (wd_69 hw)) (by decide) (t := .int) (t' := (.object "com/example/halyard/halyard/base/XmlScan$StartTag")) (by decide) (by decide)))
  have f_F_a_children := f_F_a_children.other W3 (Or.inr (slot_ne (Or.inr (wd_73 hw)) (Or.inr (wd_69 hw)) (by decide) (t := (.object "java/util/List")) (t' := (.object "com/example/halyard/halyard/base/XmlScan$StartTag")) (by decide) (by decide)))
  have f_F_a_held := f_F_a_held.other W3 (Or.inr (slot_ne (Or.inr (wd_75 hw)) (Or.inr (wd_69 hw)) (by decide) (t := (.array .int)) (t' := (.object "com/example/halyard/halyard/base/XmlScan$StartTag")) (by decide) (by decide)))
  have Zn := Nat.le_trans Zn (Keep.of_wr W3).1
  have Kp := Kp.wr W3 (Or.inl (List.mem_of_getElem? (i := 0) rfl))
  have N3 := Fr.snoc X3 N2 ge_a
  refine own_aloadN X3 hx hby d8_14 (pc' := 15) rfl rfl rfl ?_
  refine own_iloadN X3 hx hby d8_15 (pc' := 16) rfl rfl ?_
  refine own_putF X3 hx hZ hby hown (host := "") (Or.inl (wd_70 hw)) Via.refl e3 f_F_a_end f_E_a (Or.inr ⟨(wd_71 hw), rfl, hnm⟩) (wd_60 hw) (ty := .int) (by decide) rfl rfl d8_16 (pc' := 19) rfl (fun T4 h4 X4 e4 W4 => ?_)
  have f_F_a_end := f_F_a_end.same W4
  have f_E_a := f_E_a.wr W4
  have f_F_a_document := f_F_a_document.other W4 (Or.inr (slot_ne (Or.inr (wd_67 hw)) (Or.inr (wd_71 hw)) (by decide) (t := (.array .byte)) (t' := .int) (by decide) (by decide)))
  have f_F_a_tag := f_F_a_tag.other W4 (Or.inr (slot_ne (Or.inr (wd_69 hw)) (Or.inr (wd_71 hw)) (by decide) (t := (.object "com/example/halyard/halyard/base/XmlScan$StartTag")) (t' := .int) (by decide) (by decide)))
  have f_F_a_children := f_F_a_children.other W4 (Or.inr (slot_ne (Or.inr (wd_73 hw)) (Or.inr (wd_71 hw)) (by decide) (t := (.object "java/util/List")) (t' := .int) (by decide) (by decide)))
  have f_F_a_held := f_F_a_held.other W4 (Or.inr (slot_ne (Or.inr (wd_75 hw)) (Or.inr (wd_71 hw)) (by decide) (t := (.array .int)) (t' := .int) (by decide) (by decide)))
  have Zn := Nat.le_trans Zn (Keep.of_wr W4).1
  have Kp := Kp.wr W4 (Or.inl (List.mem_of_getElem? (i := 0) rfl))
  have N4 := Fr.snoc X4 N3 ge_a
  refine own_aloadN X4 hx hby d8_19 (pc' := 20) rfl rfl rfl ?_
  refine own_aload X4 hx hby d8_20 (pc' := 22) rfl rfl rfl ?_
  refine own_putF X4 hx hZ hby hown (host := "") (Or.inl (wd_72 hw)) Via.refl e4 f_F_a_children f_E_a (Or.inr ⟨(wd_73 hw), rfl, hnm⟩) (wd_60 hw) (ty := (.object "java/util/List")) (by decide) rfl rfl d8_22 (pc' := 25) rfl (fun T5 h5 X5 e5 W5 => ?_)
  have f_F_a_children := f_F_a_children.same W5
  have f_E_a := f_E_a.wr W5
  have f_F_a_document := f_F_a_document.other W5 (Or.inr (slot_ne (Or.inr (wd_67 hw)) (Or.inr (wd_73 hw)) (by decide) (t := (.array .byte)) (t' := (.object "java/util/List")) (by decide) (by decide)))
  have f_F_a_tag := f_F_a_tag.other W5 (Or.inr (slot_ne (Or.inr (wd_69 hw)) (Or.inr (wd_73 hw)) (by decide) (t := (.object "com/example/halyard/halyard/base/XmlScan$StartTag")) (t' := (.object "java/util/List")) (by decide) (by decide)))
  have f_F_a_end := f_F_a_end.other W5 (Or.inr (slot_ne (Or.inr (wd_71 hw)) (Or.inr (wd_73 hw)) (by decide) (t := .int) (t' := (.object "java/util/List")) (by decide) (by decide)))
  have f_F_a_held := f_F_a_held.other W5 (Or.inr (slot_ne (Or.inr (wd_75 hw)) (Or.inr (wd_73 hw)) (by decide) (t := (.array .int)) (t' := (.object "java/util/List")) (by decide) (by decide)))
  have Zn := Nat.le_trans Zn (Keep.of_wr W5).1
  have Kp := Kp.wr W5 (Or.inl (List.mem_of_getElem? (i := 0) rfl))
  have N5 := Fr.snoc X5 N4 ge_a
  refine own_aloadN X5 hx hby d8_25 (pc' := 26) rfl rfl rfl ?_
  refine own_aload X5 hx hby d8_26 (pc' := 28) rfl rfl rfl ?_
  refine own_putF X5 hx hZ hby hown (host := "") (Or.inl (wd_74 hw)) Via.refl e5 f_F_a_held f_E_a (Or.inr ⟨(wd_75 hw), rfl, hnm⟩) (wd_60 hw) (ty := (.array .int)) (by decide) rfl rfl d8_28 (pc' := 31) rfl (fun T6 h6 X6 e6 W6 => ?_)
  have f_F_a_held := f_F_a_held.same W6
  have f_E_a := f_E_a.wr W6
  have f_F_a_document := f_F_a_document.other W6 (Or.inr (slot_ne (Or.inr (wd_67 hw)) (Or.inr (wd_75 hw)) (by decide) (t := (.array .byte)) (t' := (.array .int)) (by decide) (by decide)))
  have f_F_a_tag := f_F_a_tag.other W6 (Or.inr (slot_ne (Or.inr (wd_69 hw)) (Or.inr (wd_75 hw)) (by decide) (t := (.object "com/example/halyard/halyard/base/XmlScan$StartTag")) (t' := (.array .int)) (by decide) (by decide)))
  have f_F_a_end := f_F_a_end.other W6 (Or.inr (slot_ne (Or.inr (wd_71 hw)) (Or.inr (wd_75 hw)) (by decide) (t := .int) (t' := (.array .int)) (by decide) (by decide)))
  have f_F_a_children := f_F_a_children.other W6 (Or.inr (slot_ne (Or.inr (wd_73 hw)) (Or.inr (wd_75 hw)) (by decide) (t := (.object "java/util/List")) (t' := (.array .int)) (by decide) (by decide)))
  have Zn := Nat.le_trans Zn (Keep.of_wr W6).1
  have Kp := Kp.wr W6 (Or.inl (List.mem_of_getElem? (i := 0) rfl))
  have N6 := Fr.snoc X6 N5 ge_a
  refine own_return X6 hx hlk hby hret d8_31 (own_lv ?_ (by decide) (by decide))
  show Q8 Z a p1 p2 p3 p5  h0 n0 none T6.heap _
  rw [e6]
  exact ⟨rfl, N6, Kp, ⟨f_E_a, f_F_a_document, f_F_a_tag, f_F_a_end, f_F_a_children, f_F_a_held⟩⟩
theorem own_ef_rm10 (m : MethodId) (a : Addr)  : entryFrame m #[(.ref a)] 1 = mkF m 0 #[.val (.ref a)] [] := by first | (simp [entryFrame, mkF, argsToLocals, Value.category]; done) | rfl
def Q10 (Z : State) (a : Addr) (t0 : Int32) (t1 : Int32) (t2 : Int32) (en : Int32) (t4 : Value) (ht4 : t4.isRef = true) (t5 : Value) (ht5 : t5.isRef = true) (t6 : Value) (ht6 : t6.isRef = true) (t7 : Value) (ht7 : t7.isRef = true) (h0 : Heap) (n0 : Nat) (v : Option Value) (h : Heap) (L : List Loc) : Prop := v = some (.int en) ∧ Fr n0 L ∧ h = h0
set_option maxRecDepth 65536 in
set_option maxHeartbeats 40000000 in
theorem rm10 (l : Launch) (Z : State) (a0 : Array Value) (hw : ∀ d ∈ tables_1, d.before a0 Z = true) (ws : List Jvm.Cond) (a : Addr) (t0 : Int32) (t1 : Int32) (t2 : Int32) (en : Int32) (t4 : Value) (ht4 : t4.isRef = true) (t5 : Value) (ht5 : t5.isRef = true) (t6 : Value) (ht6 : t6.isRef = true) (t7 : Value) (ht7 : t7.isRef = true) (h0 : Heap) (n0 : Nat) (Z0 : n0 ≤ h0.size) (f_O_a : own_ST Z h0 a t0 t1 t2 en t4 t5 t6 t7) :
    MetFree l (⟨"com/example/halyard/halyard/base/XmlScan$StartTag", "end", "()I"⟩ : MethodName) (head1 (Jvm.Cond.code (⟨"com/example/halyard/halyard/base/XmlScan$StartTag", "end", "()I"⟩ : MethodName) prog_23_method_8_code 1 (some .int) :: ws) ({ frames := 0, cells := 0, slots := 0, locals := 0 } : Room)) (fun aa U => aa = #[(.ref a)] ∧ Z.Warmed39 U.vm ∧ U.heap = h0) (fun _ _ _ _ _ => True) (fun _ U oc U' => ∃ v L, oc = .returned v ∧ Q10 Z a t0 t1 t2 en t4 ht4 t5 ht5 t6 ht6 t7 ht7 h0 n0 v U'.heap L ∧ FrameEnd U oc U' L ({ frames := 0, cells := 0, slots := 0, locals := 0 } : Room).cells ({ frames := 0, cells := 0, slots := 0, locals := 0 } : Room).slots) := by
  refine MetFree.of_bodySF (plainFor_of_name own_pn7) hisR ?_
  intro p e s m args below meth c s₁ Bd hml0 hP hK
  obtain ⟨rfl, hZ, hh⟩ := hP
  have hx := Bd.exec
  have hby := Bd.bytes
  have hlk := Bd.notSynchronized
  have hret := Bd.returns
  have hml : c.maxLocals = 1 := hml0
  have hown : s.vm.findClass "com/example/halyard/halyard/base/XmlScan$StartTag" = some m.cls := findClass_of_methodNamed Bd.named
  have hnm := (name_of_methodNamed Bd.named Bd.method).1
  have X0 : Stand p l e ({ frames := 0, cells := 0, slots := 0, locals := 0 } : Room) s m #[(.ref a)] below meth c s₁ [] 0 0 := Stand.of_body Bd
  have e0 : s₁.heap = h0 := by rw [← hh, Bd.state]; rfl
  have N0 := Fr.nil n0
  refine own_body (Q := Q10 Z a t0 t1 t2 en t4 ht4 t5 ht5 t6 ht6 t7 ht7 h0 n0) (KC := ({ frames := 0, cells := 0, slots := 0, locals := 0 } : Room).cells) (KS := ({ frames := 0, cells := 0, slots := 0, locals := 0 } : Room).slots) ?_
  rw [own_ef_rm10 m a]
  refine own_aloadN X0 hx hby d10_0 (pc' := 1) rfl rfl rfl ?_
  obtain ⟨f_E_a, f_F_a_depth, f_F_a_start, f_F_a_nameEnd, f_F_a_end, f_F_a_namespace, f_F_a_localName, f_F_a_attributes, f_F_a_scope⟩ := f_O_a
  refine own_getF X0 hx hZ hby hown (host := "") (Or.inl (wd_49 hw)) Via.refl e0 f_F_a_end d10_1 (pc' := 4) rfl (fun T1 X1 e1 => ?_)
  refine own_ireturn X1 hx hlk hby hret d10_4 (own_lv ?_ (by decide) (by decide))
  show Q10 Z a t0 t1 t2 en t4 ht4 t5 ht5 t6 ht6 t7 ht7  h0 n0 (some (.int en)) T1.heap _
  rw [e1]
  exact ⟨rfl, N0, rfl⟩
theorem own_ef_rm9a (m : MethodId) (a : Addr)  : entryFrame m #[(.ref a)] 1 = mkF m 0 #[.val (.ref a)] [] := by first | (simp [entryFrame, mkF, argsToLocals, Value.category]; done) | rfl
def Q9a (Z : State) (a : Addr) (d : Addr) (t : Addr) (x2 : Int32) (x3 : Value) (hx3 : x3.isRef = true) (x4 : Value) (hx4 : x4.isRef = true) (t0 : Int32) (t1 : Int32) (t2 : Int32) (en : Int32) (t4 : Value) (ht4 : t4.isRef = true) (t5 : Value) (ht5 : t5.isRef = true) (t6 : Value) (ht6 : t6.isRef = true) (t7 : Value) (ht7 : t7.isRef = true) (k : ClassId) (n : Int32) (vs : List Value) (z : Int32) (h0 : Heap) (n0 : Nat) (v : Option Value) (h : Heap) (L : List Loc) : Prop := v = some (.int (en - (2 : Int32))) ∧ Fr n0 L ∧ h = h0
set_option maxRecDepth 65536 in
set_option maxHeartbeats 40000000 in
theorem rm9a (l : Launch) (Z : State) (a0 : Array Value) (hw : ∀ d ∈ tables_1, d.before a0 Z = true) (ws : List Jvm.Cond) (a : Addr) (d : Addr) (t : Addr) (x2 : Int32) (x3 : Value) (hx3 : x3.isRef = true) (x4 : Value) (hx4 : x4.isRef = true) (t0 : Int32) (t1 : Int32) (t2 : Int32) (en : Int32) (t4 : Value) (ht4 : t4.isRef = true) (t5 : Value) (ht5 : t5.isRef = true) (t6 : Value) (ht6 : t6.isRef = true) (t7 : Value) (ht7 : t7.isRef = true) (k : ClassId) (n : Int32) (vs : List Value) (z : Int32) (h0 : Heap) (n0 : Nat) (Z0 : n0 ≤ h0.size) (f_O_a : own_XS Z h0 a (.ref d) (.ref t) x2 x3 x4) (f_O_t : own_ST Z h0 t t0 t1 t2 en t4 t5 t6 t7) (f_V_d : Arv Z h0 d k .byte n vs (.int (0 : Int32))) (hi : ¬ (en - (2 : Int32)) < 0 ∧ (en - (2 : Int32)) < n) (hz : vs.getD ((en - (2 : Int32))).toNatClampNeg (.int (0 : Int32)) = .int z) (hs : z = (47 : Int32)) :
    MetFree l (⟨"com/example/halyard/halyard/base/XmlSlice", "startTagClose", "()I"⟩ : MethodName) (head1 (Jvm.Cond.code (⟨"com/example/halyard/halyard/base/XmlSlice", "startTagClose", "()I"⟩ : MethodName) prog_24_method_14_code 1 (some .int) :: ws) ({ frames := 1, cells := 0, slots := 0, locals := 13 } : Room)) (fun aa U => aa = #[(.ref a)] ∧ Z.Warmed39 U.vm ∧ U.heap = h0) (fun _ _ _ _ _ => True) (fun _ U oc U' => ∃ v L, oc = .returned v ∧ Q9a Z a d t x2 x3 hx3 x4 hx4 t0 t1 t2 en t4 ht4 t5 ht5 t6 ht6 t7 ht7 k n vs z h0 n0 v U'.heap L ∧ FrameEnd U oc U' L ({ frames := 1, cells := 0, slots := 0, locals := 13 } : Room).cells ({ frames := 1, cells := 0, slots := 0, locals := 13 } : Room).slots) := by
  refine MetFree.of_bodySF (plainFor_of_name own_pn8) hisR ?_
  intro p e s m args below meth c s₁ Bd hml0 hP hK
  obtain ⟨rfl, hZ, hh⟩ := hP
  have hx := Bd.exec
  have hby := Bd.bytes
  have hlk := Bd.notSynchronized
  have hret := Bd.returns
  have hml : c.maxLocals = 1 := hml0
  have hown : s.vm.findClass "com/example/halyard/halyard/base/XmlSlice" = some m.cls := findClass_of_methodNamed Bd.named
  have hnm := (name_of_methodNamed Bd.named Bd.method).1
  have X0 : Stand p l e ({ frames := 1, cells := 0, slots := 0, locals := 13 } : Room) s m #[(.ref a)] below meth c s₁ [] 0 0 := Stand.of_body Bd
  have e0 : s₁.heap = h0 := by rw [← hh, Bd.state]; rfl
  have N0 := Fr.nil n0
  refine own_body (Q := Q9a Z a d t x2 x3 hx3 x4 hx4 t0 t1 t2 en t4 ht4 t5 ht5 t6 ht6 t7 ht7 k n vs z h0 n0) (KC := ({ frames := 1, cells := 0, slots := 0, locals := 13 } : Room).cells) (KS := ({ frames := 1, cells := 0, slots := 0, locals := 13 } : Room).slots) ?_
  rw [own_ef_rm9a m a]
  refine own_aloadN X0 hx hby d9_0 (pc' := 1) rfl rfl rfl ?_
  obtain ⟨f_E_a, f_F_a_document, f_F_a_tag, f_F_a_end, f_F_a_children, f_F_a_held⟩ := f_O_a
  refine own_getF X0 hx hZ hby hown (host := "") (Or.inl (wd_66 hw)) Via.refl e0 f_F_a_document d9_1 (pc' := 4) rfl (fun T1 X1 e1 => ?_)
  refine own_aloadN X1 hx hby d9_4 (pc' := 5) rfl rfl rfl ?_
  refine own_getF X1 hx hZ hby hown (host := "") (Or.inl (wd_68 hw)) Via.refl e1 f_F_a_tag d9_5 (pc' := 8) rfl (fun T2 X2 e2 => ?_)
  refine own_lk4 hw X2 hx hZ hby (by rw [hml]; rfl) hown d9_8 (pc' := 11) rfl e2 f_O_t.1 (W := 1) (Nat.le_of_eq rfl) (rm10 l Z a0 hw [] t t0 t1 t2 en t4 ht4 t5 ht5 t6 ht6 t7 ht7 h0 n0 Z0 f_O_t) (by decide) (by decide) (by decide) (by decide) (fun v3 T3 L3 X3 hQ3 => ?_)
  obtain ⟨rfl, Nq3, e3⟩ := hQ3
  have N3 := Fr.app N0 Nq3
  show own_End p e below _ (T3.setTop (mkF m 11 _ [(.int en), (.ref d)]))
  refine own_iconst X3 hx hby d9_11 (pc' := 12) rfl (n := (2 : Int32)) (by decide) ?_
  refine own_isub X3 hx hby d9_12 (pc' := 13) rfl ?_
  obtain ⟨cl4, Ar4, q4, S4, M4, H4, G4⟩ := id f_V_d
  have hin4 : ¬ ((en - (2 : Int32)) < 0 ∨ cl4.slots.size ≤ ((en - (2 : Int32))).toNatClampNeg) := inb_of S4 hi
  have hat4 : cl4.slots[((en - (2 : Int32))).toNatClampNeg]? = some (.int z) := H4.at hin4 hz
  refine own_baload X3 hx hZ hby e3 Ar4 hin4 hat4 d9_13 (pc' := 14) rfl ?_
  refine own_bipush X3 hx hby d9_14 (pc' := 16) rfl (n := (47 : Int32)) (by decide) ?_
  refine own_icN X3 hx hby d9_16 (pc' := 19) rfl (show z = (47 : Int32) from hs) ?_
  refine own_aloadN X3 hx hby d9_19 (pc' := 20) rfl rfl rfl ?_
  refine own_getF X3 hx hZ hby hown (host := "") (Or.inl (wd_68 hw)) Via.refl e3 f_F_a_tag d9_20 (pc' := 23) rfl (fun T5 X5 e5 => ?_)
  refine own_lk4 hw X5 hx hZ hby (by rw [hml]; rfl) hown d9_23 (pc' := 26) rfl e5 f_O_t.1 (W := 0) (Nat.le_of_eq rfl) (rm10 l Z a0 hw [] t t0 t1 t2 en t4 ht4 t5 ht5 t6 ht6 t7 ht7 h0 n0 Z0 f_O_t) (by decide) (by decide) (by decide) (by decide) (fun v6 T6 L6 X6 hQ6 => ?_)
  obtain ⟨rfl, Nq6, e6⟩ := hQ6
  have N6 := Fr.app N3 Nq6
  show own_End p e below _ (T6.setTop (mkF m 26 _ [(.int en)]))
  refine own_iconst X6 hx hby d9_26 (pc' := 27) rfl (n := (2 : Int32)) (by decide) ?_
  refine own_isub X6 hx hby d9_27 (pc' := 28) rfl ?_
  refine own_goto X6 hx hby d9_28 (pc' := 40) (by decide) (by decide) ?_
  refine own_ireturn X6 hx hlk hby hret d9_40 (own_lv ?_ (by decide) (by decide))
  show Q9a Z a d t x2 x3 hx3 x4 hx4 t0 t1 t2 en t4 ht4 t5 ht5 t6 ht6 t7 ht7 k n vs z  h0 n0 (some (.int (en - (2 : Int32)))) T6.heap _
  rw [e6]
  exact ⟨rfl, N6, rfl⟩
theorem own_ef_rm9b (m : MethodId) (a : Addr)  : entryFrame m #[(.ref a)] 1 = mkF m 0 #[.val (.ref a)] [] := by first | (simp [entryFrame, mkF, argsToLocals, Value.category]; done) | rfl
def Q9b (Z : State) (a : Addr) (d : Addr) (t : Addr) (x2 : Int32) (x3 : Value) (hx3 : x3.isRef = true) (x4 : Value) (hx4 : x4.isRef = true) (t0 : Int32) (t1 : Int32) (t2 : Int32) (en : Int32) (t4 : Value) (ht4 : t4.isRef = true) (t5 : Value) (ht5 : t5.isRef = true) (t6 : Value) (ht6 : t6.isRef = true) (t7 : Value) (ht7 : t7.isRef = true) (k : ClassId) (n : Int32) (vs : List Value) (z : Int32) (h0 : Heap) (n0 : Nat) (v : Option Value) (h : Heap) (L : List Loc) : Prop := v = some (.int (en - (1 : Int32))) ∧ Fr n0 L ∧ h = h0
set_option maxRecDepth 65536 in
set_option maxHeartbeats 40000000 in
theorem rm9b (l : Launch) (Z : State) (a0 : Array Value) (hw : ∀ d ∈ tables_1, d.before a0 Z = true) (ws : List Jvm.Cond) (a : Addr) (d : Addr) (t : Addr) (x2 : Int32) (x3 : Value) (hx3 : x3.isRef = true) (x4 : Value) (hx4 : x4.isRef = true) (t0 : Int32) (t1 : Int32) (t2 : Int32) (en : Int32) (t4 : Value) (ht4 : t4.isRef = true) (t5 : Value) (ht5 : t5.isRef = true) (t6 : Value) (ht6 : t6.isRef = true) (t7 : Value) (ht7 : t7.isRef = true) (k : ClassId) (n : Int32) (vs : List Value) (z : Int32) (h0 : Heap) (n0 : Nat) (Z0 : n0 ≤ h0.size) (f_O_a : own_XS Z h0 a (.ref d) (.ref t) x2 x3 x4) (f_O_t : own_ST Z h0 t t0 t1 t2 en t4 t5 t6 t7) (f_V_d : Arv Z h0 d k .byte n vs (.int (0 : Int32))) (hi : ¬ (en - (2 : Int32)) < 0 ∧ (en - (2 : Int32)) < n) (hz : vs.getD ((en - (2 : Int32))).toNatClampNeg (.int (0 : Int32)) = .int z) (hs : ¬ z = (47 : Int32)) :
    MetFree l (⟨"com/example/halyard/halyard/base/XmlSlice", "startTagClose", "()I"⟩ : MethodName) (head1 (Jvm.Cond.code (⟨"com/example/halyard/halyard/base/XmlSlice", "startTagClose", "()I"⟩ : MethodName) prog_24_method_14_code 1 (some .int) :: ws) ({ frames := 1, cells := 0, slots := 0, locals := 13 } : Room)) (fun aa U => aa = #[(.ref a)] ∧ Z.Warmed39 U.vm ∧ U.heap = h0) (fun _ _ _ _ _ => True) (fun _ U oc U' => ∃ v L, oc = .returned v ∧ Q9b Z a d t x2 x3 hx3 x4 hx4 t0 t1 t2 en t4 ht4 t5 ht5 t6 ht6 t7 ht7 k n vs z h0 n0 v U'.heap L ∧ FrameEnd U oc U' L ({ frames := 1, cells := 0, slots := 0, locals := 13 } : Room).cells ({ frames := 1, cells := 0, slots := 0, locals := 13 } : Room).slots) := by
  refine MetFree.of_bodySF (plainFor_of_name own_pn8) hisR ?_
  intro p e s m args below meth c s₁ Bd hml0 hP hK
  obtain ⟨rfl, hZ, hh⟩ := hP
  have hx := Bd.exec
  have hby := Bd.bytes
  have hlk := Bd.notSynchronized
  have hret := Bd.returns
  have hml : c.maxLocals = 1 := hml0
  have hown : s.vm.findClass "com/example/halyard/halyard/base/XmlSlice" = some m.cls := findClass_of_methodNamed Bd.named
  have hnm := (name_of_methodNamed Bd.named Bd.method).1
  have X0 : Stand p l e ({ frames := 1, cells := 0, slots := 0, locals := 13 } : Room) s m #[(.ref a)] below meth c s₁ [] 0 0 := Stand.of_body Bd
  have e0 : s₁.heap = h0 := by rw [← hh, Bd.state]; rfl
  have N0 := Fr.nil n0
  refine own_body (Q := Q9b Z a d t x2 x3 hx3 x4 hx4 t0 t1 t2 en t4 ht4 t5 ht5 t6 ht6 t7 ht7 k n vs z h0 n0) (KC := ({ frames := 1, cells := 0, slots := 0, locals := 13 } : Room).cells) (KS := ({ frames := 1, cells := 0, slots := 0, locals := 13 } : Room).slots) ?_
  rw [own_ef_rm9b m a]
  refine own_aloadN X0 hx hby d9_0 (pc' := 1) rfl rfl rfl ?_
  obtain ⟨f_E_a, f_F_a_document, f_F_a_tag, f_F_a_end, f_F_a_children, f_F_a_held⟩ := f_O_a
  refine own_getF X0 hx hZ hby hown (host := "") (Or.inl (wd_66 hw)) Via.refl e0 f_F_a_document d9_1 (pc' := 4) rfl (fun T1 X1 e1 => ?_)
  refine own_aloadN X1 hx hby d9_4 (pc' := 5) rfl rfl rfl ?_
  refine own_getF X1 hx hZ hby hown (host := "") (Or.inl (wd_68 hw)) Via.refl e1 f_F_a_tag d9_5 (pc' := 8) rfl (fun T2 X2 e2 => ?_)
  refine own_lk4 hw X2 hx hZ hby (by rw [hml]; rfl) hown d9_8 (pc' := 11) rfl e2 f_O_t.1 (W := 1) (Nat.le_of_eq rfl) (rm10 l Z a0 hw [] t t0 t1 t2 en t4 ht4 t5 ht5 t6 ht6 t7 ht7 h0 n0 Z0 f_O_t) (by decide) (by decide) (by decide) (by decide) (fun v3 T3 L3 X3 hQ3 => ?_)
  obtain ⟨rfl, Nq3, e3⟩ := hQ3
  have N3 := Fr.app N0 Nq3
  show own_End p e below _ (T3.setTop (mkF m 11 _ [(.int en), (.ref d)]))
  refine own_iconst X3 hx hby d9_11 (pc' := 12) rfl (n := (2 : Int32)) (by decide) ?_
  refine own_isub X3 hx hby d9_12 (pc' := 13) rfl ?_
  obtain ⟨cl4, Ar4, q4, S4, M4, H4, G4⟩ := id f_V_d
  have hin4 : ¬ ((en - (2 : Int32)) < 0 ∨ cl4.slots.size ≤ ((en - (2 : Int32))).toNatClampNeg) := inb_of S4 hi
  have hat4 : cl4.slots[((en - (2 : Int32))).toNatClampNeg]? = some (.int z) := H4.at hin4 hz
  refine own_baload X3 hx hZ hby e3 Ar4 hin4 hat4 d9_13 (pc' := 14) rfl ?_
  refine own_bipush X3 hx hby d9_14 (pc' := 16) rfl (n := (47 : Int32)) (by decide) ?_
  refine own_icY X3 hx hby d9_16 (pc' := 31) (by decide) (by decide) (show ¬ z = (47 : Int32) from hs) ?_
  refine own_aloadN X3 hx hby d9_31 (pc' := 32) rfl rfl rfl ?_
  refine own_getF X3 hx hZ hby hown (host := "") (Or.inl (wd_68 hw)) Via.refl e3 f_F_a_tag d9_32 (pc' := 35) rfl (fun T5 X5 e5 => ?_)
  refine own_lk4 hw X5 hx hZ hby (by rw [hml]; rfl) hown d9_35 (pc' := 38) rfl e5 f_O_t.1 (W := 0) (Nat.le_of_eq rfl) (rm10 l Z a0 hw [] t t0 t1 t2 en t4 ht4 t5 ht5 t6 ht6 t7 ht7 h0 n0 Z0 f_O_t) (by decide) (by decide) (by decide) (by decide) (fun v6 T6 L6 X6 hQ6 => ?_)
  obtain ⟨rfl, Nq6, e6⟩ := hQ6
  have N6 := Fr.app N3 Nq6
  show own_End p e below _ (T6.setTop (mkF m 38 _ [(.int en)]))
  refine own_iconst X6 hx hby d9_38 (pc' := 39) rfl (n := (1 : Int32)) (by decide) ?_
  refine own_isub X6 hx hby d9_39 (pc' := 40) rfl ?_
  refine own_ireturn X6 hx hlk hby hret d9_40 (own_lv ?_ (by decide) (by decide))
  show Q9b Z a d t x2 x3 hx3 x4 hx4 t0 t1 t2 en t4 ht4 t5 ht5 t6 ht6 t7 ht7 k n vs z  h0 n0 (some (.int (en - (1 : Int32)))) T6.heap _
  rw [e6]
  exact ⟨rfl, N6, rfl⟩
theorem own_ef_rm0 (m : MethodId) (p0 : Int64) (p1 : Int32) (p2 : Int32)  : entryFrame m #[(.long p0), (.int p1), (.int p2)] maxLocals = mkF m 0 #[.val (.long p0), .second, .val (.int p1), .val (.int p2), .unset, .unset, .unset, .unset, .unset, .unset, .unset, .unset, .unset, .unset, .unset, .unset, .unset] [] := by first | (simp [entryFrame, mkF, argsToLocals, Value.category, maxLocals]; done) | rfl
def Q0 (Z : State) (p0 : Int64) (p1 : Int32) (p2 : Int32) (cs : Int32) (h0 : Heap) (n0 : Nat) (v : Option Value) (h : Heap) (L : List Loc) : Prop := v = some (.int 1) ∧ Fr n0 L
set_option maxRecDepth 65536 in
set_option maxHeartbeats 40000000 in
theorem own_s219 {p : Program} {l : Launch} {e : Env} {s : State} {vm0 : Vm} {kS : Nat} {m : MethodId} {below : List Frame} {meth : Method} {c : Code} {T0 : State} {locs : List Loc} (Z : State) (a0 : Array Value) (hw : ∀ d ∈ tables_1, d.before a0 Z = true) (p0 : Int64) (p1 : Int32) (p2 : Int32) (cs : Int32) (d : Addr) (kk : ClassId) (w0 : Value) (w1 : Value) (w2 : Value) (w3 : Value) (w4 : Value) (w5 : Value) (w6 : Value) (w7 : Value) (w8 : Value) (w9 : Value) (em : Int32) (sd : Int32) (sk : Int32) (lt : Int32) (nb : Int32) (sp : Int32) (h0 : Heap) (n0 : Nat) (h1 : Heap)
    (X0 : Stand p l e room_1 (s.setVm vm0) m #[(.long p0), (.int p1), (.int p2)] below meth c T0 locs 1 10) (hx : p.tables.exec = Jvm.exec) (hby : c.code = code) (hlk : meth.locks = false) (hml : c.maxLocals = 17) (hown : (s.setVm vm0).vm.findClass "com/example/halyard/halyard/base/XmlSliceStartTagClosePinLaw" = some m.cls) (hret : meth.sig.returnType = some .boolean) (hZ : Z.Warmed39 (s.setVm vm0).vm) (e1 : T0.heap = h1) (N0 : Fr n0 locs) (Z1 : n0 ≤ h1.size) (hS : s.Since vm0 kS) (hSn : kS ≤ h1.size) (f_V_d : Arv Z h1 d kk .byte (10 : Int32) [w0, w1, w2, w3, w4, w5, w6, w7, w8, w9] (.int (0 : Int32))) (ge_d : n0 ≤ d) (f_S_java_lang_String_COMPACT_STRINGS : Sta Z h1 "java/lang/String" "COMPACT_STRINGS" "Z" (.int cs)) (hcs : ¬ cs = (0 : Int32)) (hem : em = (0 : Int32) ∨ em = (1 : Int32)) (hsd : sd = (0 : Int32) ∨ sd = (1 : Int32)) (hnb : ¬ (nb.toInt8.toInt32) = (47 : Int32)) (hsp : ¬ (sp.toInt8.toInt32) = (47 : Int32)) :
    own_End p e below (own_FS s (Q0 Z p0 p1 p2 cs h0 n0) room_1.cells room_1.slots) (T0.setTop (mkF m 219 #[.val (.long p0), .second, .val (.int p1), .val (.int p2), .val (.ref d), .val (.int (p2 &&& (3 : Int32))), .val (.int em), .val (.int sd), .val (.int sk), .val (.int lt), .val (.int nb), .val (.int sp), .unset, .unset, .unset, .unset, .unset] [])) := by
  refine own_aload X0 hx hby at_219 (pc' := 221) rfl rfl rfl ?_
  rcases hem with rfl | rfl
  · rcases hsd with rfl | rfl
    · rcases own_and3 p2 with hs1 | hs1 | hs1 | hs1
      · rw [hs1]
        show own_End p e below _ (T0.setTop (mkF m 221 #[.val (.long p0), .second, .val (.int p1), .val (.int p2), .val (.ref d), .val (.int (0 : Int32)), .val (.int (0 : Int32)), .val (.int (0 : Int32)), .val (.int sk), .val (.int lt), .val (.int nb), .val (.int sp), .unset, .unset, .unset, .unset, .unset] [(.ref d)]))
        refine own_iload X0 hx hby at_221 (pc' := 223) rfl rfl ?_
        refine own_bipush X0 hx hby at_223 (pc' := 225) rfl (n := (60 : Int32)) (by decide) ?_
        obtain ⟨cl2, Ar2, q2, S2, M2, H2, G2⟩ := id f_V_d
        have hin2 : ¬ ((0 : Int32) < 0 ∨ cl2.slots.size ≤ ((0 : Int32)).toNatClampNeg) := inb_of S2 ⟨by decide, by decide⟩
        refine own_bastore X0 hx hZ hby e1 Ar2 hin2 at_225 (pc' := 226) rfl (fun T3 h3 X3 e3 W3 => ?_)
        have f_V_d := Arv.set Ar2 q2 S2 M2 H2 G2 (fits_nar_byte _) W3 0 rfl (Nat.le_of_ble_eq_true rfl)
        have f_V_d : Arv Z h3 d kk .byte (10 : Int32) [(.int ((60 : Int32).toInt8.toInt32)), w1, w2, w3, w4, w5, w6, w7, w8, w9] (.int (0 : Int32)) := f_V_d
        have f_V_d : Arv Z h3 d kk .byte (10 : Int32) [(.int (60 : Int32)), w1, w2, w3, w4, w5, w6, w7, w8, w9] (.int (0 : Int32)) := f_V_d
        have f_S_java_lang_String_COMPACT_STRINGS := f_S_java_lang_String_COMPACT_STRINGS.wr W3
        have Zn := Nat.le_trans Z1 (Keep.of_wr W3).1
        have hSn := Nat.le_trans hSn (Keep.of_wr W3).1
        have N3 := Fr.snoc X3 N0 ge_d
        refine own_aload X3 hx hby at_226 (pc' := 228) rfl rfl rfl ?_
        refine own_iload X3 hx hby at_228 (pc' := 230) rfl rfl ?_
        refine own_iconst X3 hx hby at_230 (pc' := 231) rfl (n := (1 : Int32)) (by decide) ?_
        refine own_iadd X3 hx hby at_231 (pc' := 232) rfl ?_
        show own_End p e below _ (T3.setTop (mkF m 232 #[.val (.long p0), .second, .val (.int p1), .val (.int p2), .val (.ref d), .val (.int (0 : Int32)), .val (.int (0 : Int32)), .val (.int (0 : Int32)), .val (.int sk), .val (.int lt), .val (.int nb), .val (.int sp), .unset, .unset, .unset, .unset, .unset] [(.int (1 : Int32)), (.ref d)]))
        refine own_iload X3 hx hby at_232 (pc' := 234) rfl rfl ?_
        obtain ⟨cl4, Ar4, q4, S4, M4, H4, G4⟩ := id f_V_d
        have hin4 : ¬ ((1 : Int32) < 0 ∨ cl4.slots.size ≤ ((1 : Int32)).toNatClampNeg) := inb_of S4 ⟨by decide, by decide⟩
        refine own_bastore X3 hx hZ hby e3 Ar4 hin4 at_234 (pc' := 235) rfl (fun T5 h5 X5 e5 W5 => ?_)
        have f_V_d := Arv.set Ar4 q4 S4 M4 H4 G4 (fits_nar_byte _) W5 1 rfl (Nat.le_of_ble_eq_true rfl)
        have f_V_d : Arv Z h5 d kk .byte (10 : Int32) [(.int (60 : Int32)), (.int (nb.toInt8.toInt32)), w2, w3, w4, w5, w6, w7, w8, w9] (.int (0 : Int32)) := f_V_d
        have f_S_java_lang_String_COMPACT_STRINGS := f_S_java_lang_String_COMPACT_STRINGS.wr W5
        have Zn := Nat.le_trans Zn (Keep.of_wr W5).1
        have hSn := Nat.le_trans hSn (Keep.of_wr W5).1
        have N5 := Fr.snoc X5 N3 ge_d
        refine own_iload X5 hx hby at_235 (pc' := 237) rfl rfl ?_
        refine own_iconst X5 hx hby at_237 (pc' := 238) rfl (n := (2 : Int32)) (by decide) ?_
        refine own_iadd X5 hx hby at_238 (pc' := 239) rfl ?_
        show own_End p e below _ (T5.setTop (mkF m 239 #[.val (.long p0), .second, .val (.int p1), .val (.int p2), .val (.ref d), .val (.int (0 : Int32)), .val (.int (0 : Int32)), .val (.int (0 : Int32)), .val (.int sk), .val (.int lt), .val (.int nb), .val (.int sp), .unset, .unset, .unset, .unset, .unset] [(.int (2 : Int32))]))
        refine own_istore X5 hx hby at_239 (pc' := 241) rfl (l' := #[.val (.long p0), .second, .val (.int p1), .val (.int p2), .val (.ref d), .val (.int (0 : Int32)), .val (.int (0 : Int32)), .val (.int (0 : Int32)), .val (.int sk), .val (.int lt), .val (.int nb), .val (.int sp), .val (.int (2 : Int32)), .unset, .unset, .unset, .unset]) rfl ?_
        refine own_iload X5 hx hby at_241 (pc' := 243) rfl rfl ?_
        refine own_ifY X5 hx hby at_243 (pc' := 259) (by decide) (by decide) (show (0 : Int32) = (0 : Int32) by decide) ?_
        refine own_iload X5 hx hby at_259 (pc' := 261) rfl rfl ?_
        refine own_ifY X5 hx hby at_261 (pc' := 289) (by decide) (by decide) (show (0 : Int32) = (0 : Int32) by decide) ?_
        refine own_aload X5 hx hby at_289 (pc' := 291) rfl rfl rfl ?_
        refine own_iload X5 hx hby at_291 (pc' := 293) rfl rfl ?_
        refine own_bipush X5 hx hby at_293 (pc' := 295) rfl (n := (62 : Int32)) (by decide) ?_
        obtain ⟨cl6, Ar6, q6, S6, M6, H6, G6⟩ := id f_V_d
        have hin6 : ¬ ((2 : Int32) < 0 ∨ cl6.slots.size ≤ ((2 : Int32)).toNatClampNeg) := inb_of S6 ⟨by decide, by decide⟩
        refine own_bastore X5 hx hZ hby e5 Ar6 hin6 at_295 (pc' := 296) rfl (fun T7 h7 X7 e7 W7 => ?_)
        have f_V_d := Arv.set Ar6 q6 S6 M6 H6 G6 (fits_nar_byte _) W7 2 rfl (Nat.le_of_ble_eq_true rfl)
        have f_V_d : Arv Z h7 d kk .byte (10 : Int32) [(.int (60 : Int32)), (.int (nb.toInt8.toInt32)), (.int ((62 : Int32).toInt8.toInt32)), w3, w4, w5, w6, w7, w8, w9] (.int (0 : Int32)) := f_V_d
        have f_V_d : Arv Z h7 d kk .byte (10 : Int32) [(.int (60 : Int32)), (.int (nb.toInt8.toInt32)), (.int (62 : Int32)), w3, w4, w5, w6, w7, w8, w9] (.int (0 : Int32)) := f_V_d
        have f_S_java_lang_String_COMPACT_STRINGS := f_S_java_lang_String_COMPACT_STRINGS.wr W7
        have Zn := Nat.le_trans Zn (Keep.of_wr W7).1
        have hSn := Nat.le_trans hSn (Keep.of_wr W7).1
        have N7 := Fr.snoc X7 N5 ge_d
        refine own_iload X7 hx hby at_296 (pc' := 298) rfl rfl ?_
        refine own_iconst X7 hx hby at_298 (pc' := 299) rfl (n := (1 : Int32)) (by decide) ?_
        refine own_iadd X7 hx hby at_299 (pc' := 300) rfl ?_
        show own_End p e below _ (T7.setTop (mkF m 300 #[.val (.long p0), .second, .val (.int p1), .val (.int p2), .val (.ref d), .val (.int (0 : Int32)), .val (.int (0 : Int32)), .val (.int (0 : Int32)), .val (.int sk), .val (.int lt), .val (.int nb), .val (.int sp), .val (.int (2 : Int32)), .unset, .unset, .unset, .unset] [(.int (3 : Int32))]))
        refine own_istore X7 hx hby at_300 (pc' := 302) rfl (l' := #[.val (.long p0), .second, .val (.int p1), .val (.int p2), .val (.ref d), .val (.int (0 : Int32)), .val (.int (0 : Int32)), .val (.int (0 : Int32)), .val (.int sk), .val (.int lt), .val (.int nb), .val (.int sp), .val (.int (2 : Int32)), .val (.int (3 : Int32)), .unset, .unset, .unset]) rfl ?_
        refine own_iload X7 hx hby at_302 (pc' := 304) rfl rfl ?_
        refine own_ifY X7 hx hby at_304 (pc' := 312) (by decide) (by decide) (show (0 : Int32) = (0 : Int32) by decide) ?_
        refine own_bipush X7 hx hby at_312 (pc' := 314) rfl (n := (10 : Int32)) (by decide) ?_
        refine own_istore X7 hx hby at_314 (pc' := 316) rfl (l' := #[.val (.long p0), .second, .val (.int p1), .val (.int p2), .val (.ref d), .val (.int (0 : Int32)), .val (.int (0 : Int32)), .val (.int (0 : Int32)), .val (.int sk), .val (.int lt), .val (.int nb), .val (.int sp), .val (.int (2 : Int32)), .val (.int (3 : Int32)), .val (.int (10 : Int32)), .unset, .unset]) rfl ?_
        refine own_new X7 hx hZ hby hown (wd_2 hw) (wd_3 hw) (wd_4 hw) e7 at_316 (pc' := 319) rfl (by decide) (by decide) (fun T8 h8 b8 g8 X8 e8 E8 A8 D8 => ?_)
        have ne_d_b8 : d ≠ b8 := Nat.ne_of_lt (by rw [g8]; exact f_V_d.lt)
        have ge_b8 : n0 ≤ b8 := by rw [g8]; exact Zn
        have f_V_d := f_V_d.ext E8
        have f_S_java_lang_String_COMPACT_STRINGS := f_S_java_lang_String_COMPACT_STRINGS.ext E8
        have Zn := Nat.le_trans Zn E8.1
        have hSn := Nat.le_trans hSn E8.1
        have f_O_b8 : own_ST Z h8 b8 (0 : Int32) (0 : Int32) (0 : Int32) (0 : Int32) .null .null .null .null := ⟨A8, D8 (Or.inr (wd_44 hw)) (ty := .int) (by decide), D8 (Or.inr (wd_46 hw)) (ty := .int) (by decide), D8 (Or.inr (wd_48 hw)) (ty := .int) (by decide), D8 (Or.inr (wd_50 hw)) (ty := .int) (by decide), D8 (Or.inr (wd_52 hw)) (ty := (.object "java/lang/String")) (by decide), D8 (Or.inr (wd_54 hw)) (ty := (.object "java/lang/String")) (by decide), D8 (Or.inr (wd_56 hw)) (ty := (.array .int)) (by decide), D8 (Or.inr (wd_58 hw)) (ty := (.object "java/util/Map")) (by decide)⟩
        refine own_dup X8 hx hby at_319 (pc' := 320) rfl rfl ?_
        refine own_iconst X8 hx hby at_320 (pc' := 321) rfl (n := (1 : Int32)) (by decide) ?_
        refine own_iload X8 hx hby at_321 (pc' := 323) rfl rfl ?_
        refine own_iload X8 hx hby at_323 (pc' := 325) rfl rfl ?_
        refine own_iconst X8 hx hby at_325 (pc' := 326) rfl (n := (2 : Int32)) (by decide) ?_
        refine own_iadd X8 hx hby at_326 (pc' := 327) rfl ?_
        show own_End p e below _ (T8.setTop (mkF m 327 #[.val (.long p0), .second, .val (.int p1), .val (.int p2), .val (.ref d), .val (.int (0 : Int32)), .val (.int (0 : Int32)), .val (.int (0 : Int32)), .val (.int sk), .val (.int lt), .val (.int nb), .val (.int sp), .val (.int (2 : Int32)), .val (.int (3 : Int32)), .val (.int (10 : Int32)), .unset, .unset] [(.int (2 : Int32)), (.int (0 : Int32)), (.int (1 : Int32)), (.ref b8), (.ref b8)]))
        refine own_iload X8 hx hby at_327 (pc' := 329) rfl rfl ?_
        obtain ⟨a9, T9, h9, k9, X9, e9, E9, hS, hSn, hZ, hown, st9⟩ := ldcS X8 hx hZ hown (wd_5 hw) (own_wS hw) e8 hS hSn (g := (mkF m 329 #[.val (.long p0), .second, .val (.int p1), .val (.int p2), .val (.ref d), .val (.int (0 : Int32)), .val (.int (0 : Int32)), .val (.int (0 : Int32)), .val (.int sk), .val (.int lt), .val (.int nb), .val (.int sp), .val (.int (2 : Int32)), .val (.int (3 : Int32)), .val (.int (10 : Int32)), .unset, .unset] [(.int (3 : Int32)), (.int (2 : Int32)), (.int (0 : Int32)), (.int (1 : Int32)), (.ref b8), (.ref b8)])) rfl (hb hby at_329) (n := 0) (by decide) (by decide) (by decide) (by decide)
        refine own_step st9 ?_
        have f_V_d := f_V_d.ext E9
        have f_S_java_lang_String_COMPACT_STRINGS := f_S_java_lang_String_COMPACT_STRINGS.ext E9
        have f_O_b8 := f_O_b8.ext E9
        have Zn := Nat.le_trans Zn E9.1
        show own_End p e below _ (T9.setTop (mkF m 331 #[.val (.long p0), .second, .val (.int p1), .val (.int p2), .val (.ref d), .val (.int (0 : Int32)), .val (.int (0 : Int32)), .val (.int (0 : Int32)), .val (.int sk), .val (.int lt), .val (.int nb), .val (.int sp), .val (.int (2 : Int32)), .val (.int (3 : Int32)), .val (.int (10 : Int32)), .unset, .unset] [(.ref a9), (.int (3 : Int32)), (.int (2 : Int32)), (.int (0 : Int32)), (.int (1 : Int32)), (.ref b8), (.ref b8)]))
        refine own_iload X9 hx hby at_331 (pc' := 333) rfl rfl ?_
        refine own_sipush X9 hx hby at_333 (pc' := 336) rfl (n := (255 : Int32)) (by decide) ?_
        refine own_iand X9 hx hby at_336 (pc' := 337) rfl ?_
        refine own_i2c X9 hx hby at_337 (pc' := 338) rfl ?_
        rw [i2c_mask]
        show own_End p e below _ (T9.setTop (mkF m 338 #[.val (.long p0), .second, .val (.int p1), .val (.int p2), .val (.ref d), .val (.int (0 : Int32)), .val (.int (0 : Int32)), .val (.int (0 : Int32)), .val (.int sk), .val (.int lt), .val (.int nb), .val (.int sp), .val (.int (2 : Int32)), .val (.int (3 : Int32)), .val (.int (10 : Int32)), .unset, .unset] [(.int (nb &&& (255 : Int32))), (.ref a9), (.int (3 : Int32)), (.int (2 : Int32)), (.int (0 : Int32)), (.int (1 : Int32)), (.ref b8), (.ref b8)]))
        refine own_lk5 hw X9 hx hZ hby (by rw [hml]; rfl) hown at_338 (pc' := 341) rfl e9 (W := 7) (Nat.le_of_eq rfl) (rm1 l Z a0 hw [] (nb &&& (255 : Int32)) cs h9 n0 Zn f_S_java_lang_String_COMPACT_STRINGS hcs (own_chr2 _)) (by decide) (by decide) (by decide) (by decide) (fun v11 T11 L11 X11 hQ11 => ?_)
        obtain ⟨w10, rfl, Nq11, K11, gw11⟩ := hQ11
        have N11 := Fr.app N7 Nq11
        have f_S_java_lang_String_COMPACT_STRINGS := own_sta0 f_S_java_lang_String_COMPACT_STRINGS K11
        have f_V_d := f_V_d.keep K11 nin0
        have f_O_b8 := f_O_b8.keep K11 nin0
        have Zn := Nat.le_trans Zn K11.1
        have hSn := Nat.le_trans hSn K11.1
        show own_End p e below _ (T11.setTop (mkF m 341 _ [(.ref w10), (.ref a9), (.int (3 : Int32)), (.int (2 : Int32)), (.int (0 : Int32)), (.int (1 : Int32)), (.ref b8), (.ref b8)]))
        refine own_iconst X11 hx hby at_341 (pc' := 342) rfl (n := (0 : Int32)) (by decide) ?_
        refine own_newP (aty := .int) X11 hx hZ hby (wd_33 hw) rfl at_342 (pc' := 344) rfl (by decide) (cap := 0) (by decide) (by decide) (by decide) (by decide) (fun T12 h12 k12 b12 g12 X12 e12 E12 A12 => ?_)
        have ne_d_b12 : d ≠ b12 := Nat.ne_of_lt (by rw [g12]; exact f_V_d.lt)
        have ne_b8_b12 : b8 ≠ b12 := Nat.ne_of_lt (by rw [g12]; exact f_O_b8.lt)
        have ge_b12 : n0 ≤ b12 := by rw [g12]; exact Zn
        have f_V_d := f_V_d.ext E12
        have f_S_java_lang_String_COMPACT_STRINGS := f_S_java_lang_String_COMPACT_STRINGS.ext E12
        have f_O_b8 := f_O_b8.ext E12
        have Zn := Nat.le_trans Zn E12.1
        have hSn := Nat.le_trans hSn E12.1
        have f_V_b12 : Arv Z h12 b12 k12 .int (0 : Int32) [] (.int (0 : Int32)) := Arv.new A12 (by decide)
        refine own_aconst_null X12 hx hby at_344 (pc' := 345) rfl ?_
        refine own_lk6 hw X12 hx hZ hby (by rw [hml]; rfl) hown at_345 (pc' := 348) rfl e12 (W := 1) (Nat.le_of_eq rfl) (rm6 l Z a0 hw [] b8 (1 : Int32) (0 : Int32) (2 : Int32) (3 : Int32) a9 w10 b12 h12 n0 Zn f_O_b8 ge_b8) (by decide) (by decide) (by decide) (by decide) (fun v13 T13 L13 X13 hQ13 => ?_)
        obtain ⟨rfl, Nq13, K13, O13⟩ := hQ13
        have N13 := Fr.app N11 Nq13
        have f_S_java_lang_String_COMPACT_STRINGS := own_sta1 f_S_java_lang_String_COMPACT_STRINGS K13 f_O_b8.1
        have f_V_d := f_V_d.keep K13 (ninS ne_d_b8 nin0)
        have f_V_b12 := f_V_b12.keep K13 (ninS (Ne.symm ne_b8_b12) nin0)
        have Zn := Nat.le_trans Zn K13.1
        have hSn := Nat.le_trans hSn K13.1
        show own_End p e below _ (T13.setTop (mkF m 348 _ [(.ref b8)]))
        refine own_astore X13 hx hby at_348 (pc' := 350) rfl rfl (l' := #[.val (.long p0), .second, .val (.int p1), .val (.int p2), .val (.ref d), .val (.int (0 : Int32)), .val (.int (0 : Int32)), .val (.int (0 : Int32)), .val (.int sk), .val (.int lt), .val (.int nb), .val (.int sp), .val (.int (2 : Int32)), .val (.int (3 : Int32)), .val (.int (10 : Int32)), .val (.ref b8), .unset]) rfl ?_
        refine own_new X13 hx hZ hby hown (wd_59 hw) (wd_60 hw) (wd_61 hw) rfl at_350 (pc' := 353) rfl (by decide) (by decide) (fun T14 h14 b14 g14 X14 e14 E14 A14 D14 => ?_)
        have ne_d_b14 : d ≠ b14 := Nat.ne_of_lt (by rw [g14]; exact f_V_d.lt)
        have ne_b12_b14 : b12 ≠ b14 := Nat.ne_of_lt (by rw [g14]; exact f_V_b12.lt)
        have ne_b8_b14 : b8 ≠ b14 := Nat.ne_of_lt (by rw [g14]; exact O13.lt)
        have ge_b14 : n0 ≤ b14 := by rw [g14]; exact Zn
        have f_V_d := f_V_d.ext E14
        have f_S_java_lang_String_COMPACT_STRINGS := f_S_java_lang_String_COMPACT_STRINGS.ext E14
        have f_V_b12 := f_V_b12.ext E14
        have O13 := O13.ext E14
        have Zn := Nat.le_trans Zn E14.1
        have hSn := Nat.le_trans hSn E14.1
        have f_O_b14 : own_XS Z h14 b14 .null .null (0 : Int32) .null .null := ⟨A14, D14 (Or.inr (wd_67 hw)) (ty := (.array .byte)) (by decide), D14 (Or.inr (wd_69 hw)) (ty := (.object "com/example/halyard/halyard/base/XmlScan$StartTag")) (by decide), D14 (Or.inr (wd_71 hw)) (ty := .int) (by decide), D14 (Or.inr (wd_73 hw)) (ty := (.object "java/util/List")) (by decide), D14 (Or.inr (wd_75 hw)) (ty := (.array .int)) (by decide)⟩
        refine own_dup X14 hx hby at_353 (pc' := 354) rfl rfl ?_
        refine own_aload X14 hx hby at_354 (pc' := 356) rfl rfl rfl ?_
        refine own_aload X14 hx hby at_356 (pc' := 358) rfl rfl rfl ?_
        refine own_iload X14 hx hby at_358 (pc' := 360) rfl rfl ?_
        refine own_aconst_null X14 hx hby at_360 (pc' := 361) rfl ?_
        refine own_iconst X14 hx hby at_361 (pc' := 362) rfl (n := (0 : Int32)) (by decide) ?_
        refine own_newP (aty := .int) X14 hx hZ hby (wd_33 hw) e14 at_362 (pc' := 364) rfl (by decide) (cap := 0) (by decide) (by decide) (by decide) (by decide) (fun T15 h15 k15 b15 g15 X15 e15 E15 A15 => ?_)
        have ne_d_b15 : d ≠ b15 := Nat.ne_of_lt (by rw [g15]; exact f_V_d.lt)
        have ne_b12_b15 : b12 ≠ b15 := Nat.ne_of_lt (by rw [g15]; exact f_V_b12.lt)
        have ne_b8_b15 : b8 ≠ b15 := Nat.ne_of_lt (by rw [g15]; exact O13.lt)
        have ne_b14_b15 : b14 ≠ b15 := Nat.ne_of_lt (by rw [g15]; exact f_O_b14.lt)
        have ge_b15 : n0 ≤ b15 := by rw [g15]; exact Zn
        have f_V_d := f_V_d.ext E15
        have f_S_java_lang_String_COMPACT_STRINGS := f_S_java_lang_String_COMPACT_STRINGS.ext E15
        have f_V_b12 := f_V_b12.ext E15
        have O13 := O13.ext E15
        have f_O_b14 := f_O_b14.ext E15
        have Zn := Nat.le_trans Zn E15.1
        have hSn := Nat.le_trans hSn E15.1
        have f_V_b15 : Arv Z h15 b15 k15 .int (0 : Int32) [] (.int (0 : Int32)) := Arv.new A15 (by decide)
        refine own_lk7 hw X15 hx hZ hby (by rw [hml]; rfl) hown at_364 (pc' := 367) rfl e15 (W := 1) (Nat.le_of_eq rfl) (rm8 l Z a0 hw [] b14 d b8 (10 : Int32) b15 h15 n0 Zn f_O_b14 ge_b14) (by decide) (by decide) (by decide) (by decide) (fun v16 T16 L16 X16 hQ16 => ?_)
        obtain ⟨rfl, Nq16, K16, O16⟩ := hQ16
        have N16 := Fr.app N13 Nq16
        have f_S_java_lang_String_COMPACT_STRINGS := own_sta1 f_S_java_lang_String_COMPACT_STRINGS K16 f_O_b14.1
        have f_V_d := f_V_d.keep K16 (ninS ne_d_b14 nin0)
        have f_V_b12 := f_V_b12.keep K16 (ninS ne_b12_b14 nin0)
        have O13 := O13.keep K16 (ninS ne_b8_b14 nin0)
        have f_V_b15 := f_V_b15.keep K16 (ninS (Ne.symm ne_b14_b15) nin0)
        have Zn := Nat.le_trans Zn K16.1
        have hSn := Nat.le_trans hSn K16.1
        show own_End p e below _ (T16.setTop (mkF m 367 _ [(.ref b14)]))
        refine own_astore X16 hx hby at_367 (pc' := 369) rfl rfl (l' := #[.val (.long p0), .second, .val (.int p1), .val (.int p2), .val (.ref d), .val (.int (0 : Int32)), .val (.int (0 : Int32)), .val (.int (0 : Int32)), .val (.int sk), .val (.int lt), .val (.int nb), .val (.int sp), .val (.int (2 : Int32)), .val (.int (3 : Int32)), .val (.int (10 : Int32)), .val (.ref b8), .val (.ref b14)]) rfl ?_
        refine own_aload X16 hx hby at_369 (pc' := 371) rfl rfl rfl ?_
        refine own_lk8 hw X16 hx hZ hby (by rw [hml]; rfl) hown at_371 (pc' := 374) rfl rfl O16.1 (W := 0) (Nat.le_of_eq rfl) (rm9b l Z a0 hw [] b14 d b8 (10 : Int32) .null rfl (.ref b15) rfl (1 : Int32) (0 : Int32) (2 : Int32) (3 : Int32) (.ref a9) rfl (.ref w10) rfl (.ref b12) rfl .null rfl kk (10 : Int32) [(.int (60 : Int32)), (.int (nb.toInt8.toInt32)), (.int (62 : Int32)), w3, w4, w5, w6, w7, w8, w9] (nb.toInt8.toInt32) T16.heap n0 Zn O16 O13 f_V_d (by decide) rfl hnb) (by decide) (by decide) (by decide) (by decide) (fun v17 T17 L17 X17 hQ17 => ?_)
        obtain ⟨rfl, Nq17, e17⟩ := hQ17
        have N17 := Fr.app N16 Nq17
        show own_End p e below _ (T17.setTop (mkF m 374 _ [(.int (2 : Int32))]))
        refine own_iload X17 hx hby at_374 (pc' := 376) rfl rfl ?_
        refine own_icN X17 hx hby at_376 (pc' := 379) rfl (show (2 : Int32) = (2 : Int32) by decide) ?_
        refine own_iconst X17 hx hby at_379 (pc' := 380) rfl (n := (1 : Int32)) (by decide) ?_
        refine own_goto X17 hx hby at_380 (pc' := 384) (by decide) (by decide) ?_
        refine own_zreturn X17 hx hlk hby hret (Or.inr rfl) at_384 (own_lvS hS (by rw [e17]; exact hSn) ?_ (by decide) (by decide))
        show Q0 Z p0 p1 p2 cs  h0 n0 (some (.int (1 : Int32))) T17.heap _
        rw [e17]
        exact ⟨rfl, N17⟩
      · rw [hs1]
        show own_End p e below _ (T0.setTop (mkF m 221 #[.val (.long p0), .second, .val (.int p1), .val (.int p2), .val (.ref d), .val (.int (1 : Int32)), .val (.int (0 : Int32)), .val (.int (0 : Int32)), .val (.int sk), .val (.int lt), .val (.int nb), .val (.int sp), .unset, .unset, .unset, .unset, .unset] [(.ref d)]))
        refine own_iload X0 hx hby at_221 (pc' := 223) rfl rfl ?_
        refine own_bipush X0 hx hby at_223 (pc' := 225) rfl (n := (60 : Int32)) (by decide) ?_
        obtain ⟨cl18, Ar18, q18, S18, M18, H18, G18⟩ := id f_V_d
        have hin18 : ¬ ((1 : Int32) < 0 ∨ cl18.slots.size ≤ ((1 : Int32)).toNatClampNeg) := inb_of S18 ⟨by decide, by decide⟩
        refine own_bastore X0 hx hZ hby e1 Ar18 hin18 at_225 (pc' := 226) rfl (fun T19 h19 X19 e19 W19 => ?_)
        have f_V_d := Arv.set Ar18 q18 S18 M18 H18 G18 (fits_nar_byte _) W19 1 rfl (Nat.le_of_ble_eq_true rfl)
        have f_V_d : Arv Z h19 d kk .byte (10 : Int32) [w0, (.int ((60 : Int32).toInt8.toInt32)), w2, w3, w4, w5, w6, w7, w8, w9] (.int (0 : Int32)) := f_V_d
        have f_V_d : Arv Z h19 d kk .byte (10 : Int32) [w0, (.int (60 : Int32)), w2, w3, w4, w5, w6, w7, w8, w9] (.int (0 : Int32)) := f_V_d
        have f_S_java_lang_String_COMPACT_STRINGS := f_S_java_lang_String_COMPACT_STRINGS.wr W19
        have Zn := Nat.le_trans Z1 (Keep.of_wr W19).1
        have hSn := Nat.le_trans hSn (Keep.of_wr W19).1
        have N19 := Fr.snoc X19 N0 ge_d
        refine own_aload X19 hx hby at_226 (pc' := 228) rfl rfl rfl ?_
        refine own_iload X19 hx hby at_228 (pc' := 230) rfl rfl ?_
        refine own_iconst X19 hx hby at_230 (pc' := 231) rfl (n := (1 : Int32)) (by decide) ?_
        refine own_iadd X19 hx hby at_231 (pc' := 232) rfl ?_
        show own_End p e below _ (T19.setTop (mkF m 232 #[.val (.long p0), .second, .val (.int p1), .val (.int p2), .val (.ref d), .val (.int (1 : Int32)), .val (.int (0 : Int32)), .val (.int (0 : Int32)), .val (.int sk), .val (.int lt), .val (.int nb), .val (.int sp), .unset, .unset, .unset, .unset, .unset] [(.int (2 : Int32)), (.ref d)]))
        refine own_iload X19 hx hby at_232 (pc' := 234) rfl rfl ?_
        obtain ⟨cl20, Ar20, q20, S20, M20, H20, G20⟩ := id f_V_d
        have hin20 : ¬ ((2 : Int32) < 0 ∨ cl20.slots.size ≤ ((2 : Int32)).toNatClampNeg) := inb_of S20 ⟨by decide, by decide⟩
        refine own_bastore X19 hx hZ hby e19 Ar20 hin20 at_234 (pc' := 235) rfl (fun T21 h21 X21 e21 W21 => ?_)
        have f_V_d := Arv.set Ar20 q20 S20 M20 H20 G20 (fits_nar_byte _) W21 2 rfl (Nat.le_of_ble_eq_true rfl)
        have f_V_d : Arv Z h21 d kk .byte (10 : Int32) [w0, (.int (60 : Int32)), (.int (nb.toInt8.toInt32)), w3, w4, w5, w6, w7, w8, w9] (.int (0 : Int32)) := f_V_d
        have f_S_java_lang_String_COMPACT_STRINGS := f_S_java_lang_String_COMPACT_STRINGS.wr W21
        have Zn := Nat.le_trans Zn (Keep.of_wr W21).1
        have hSn := Nat.le_trans hSn (Keep.of_wr W21).1
        have N21 := Fr.snoc X21 N19 ge_d
        refine own_iload X21 hx hby at_235 (pc' := 237) rfl rfl ?_
        refine own_iconst X21 hx hby at_237 (pc' := 238) rfl (n := (2 : Int32)) (by decide) ?_
        refine own_iadd X21 hx hby at_238 (pc' := 239) rfl ?_
        show own_End p e below _ (T21.setTop (mkF m 239 #[.val (.long p0), .second, .val (.int p1), .val (.int p2), .val (.ref d), .val (.int (1 : Int32)), .val (.int (0 : Int32)), .val (.int (0 : Int32)), .val (.int sk), .val (.int lt), .val (.int nb), .val (.int sp), .unset, .unset, .unset, .unset, .unset] [(.int (3 : Int32))]))
        refine own_istore X21 hx hby at_239 (pc' := 241) rfl (l' := #[.val (.long p0), .second, .val (.int p1), .val (.int p2), .val (.ref d), .val (.int (1 : Int32)), .val (.int (0 : Int32)), .val (.int (0 : Int32)), .val (.int sk), .val (.int lt), .val (.int nb), .val (.int sp), .val (.int (3 : Int32)), .unset, .unset, .unset, .unset]) rfl ?_
        refine own_iload X21 hx hby at_241 (pc' := 243) rfl rfl ?_
        refine own_ifY X21 hx hby at_243 (pc' := 259) (by decide) (by decide) (show (0 : Int32) = (0 : Int32) by decide) ?_
        refine own_iload X21 hx hby at_259 (pc' := 261) rfl rfl ?_
        refine own_ifY X21 hx hby at_261 (pc' := 289) (by decide) (by decide) (show (0 : Int32) = (0 : Int32) by decide) ?_
        refine own_aload X21 hx hby at_289 (pc' := 291) rfl rfl rfl ?_
        refine own_iload X21 hx hby at_291 (pc' := 293) rfl rfl ?_
        refine own_bipush X21 hx hby at_293 (pc' := 295) rfl (n := (62 : Int32)) (by decide) ?_
        obtain ⟨cl22, Ar22, q22, S22, M22, H22, G22⟩ := id f_V_d
        have hin22 : ¬ ((3 : Int32) < 0 ∨ cl22.slots.size ≤ ((3 : Int32)).toNatClampNeg) := inb_of S22 ⟨by decide, by decide⟩
        refine own_bastore X21 hx hZ hby e21 Ar22 hin22 at_295 (pc' := 296) rfl (fun T23 h23 X23 e23 W23 => ?_)
        have f_V_d := Arv.set Ar22 q22 S22 M22 H22 G22 (fits_nar_byte _) W23 3 rfl (Nat.le_of_ble_eq_true rfl)
        have f_V_d : Arv Z h23 d kk .byte (10 : Int32) [w0, (.int (60 : Int32)), (.int (nb.toInt8.toInt32)), (.int ((62 : Int32).toInt8.toInt32)), w4, w5, w6, w7, w8, w9] (.int (0 : Int32)) := f_V_d
        have f_V_d : Arv Z h23 d kk .byte (10 : Int32) [w0, (.int (60 : Int32)), (.int (nb.toInt8.toInt32)), (.int (62 : Int32)), w4, w5, w6, w7, w8, w9] (.int (0 : Int32)) := f_V_d
        have f_S_java_lang_String_COMPACT_STRINGS := f_S_java_lang_String_COMPACT_STRINGS.wr W23
        have Zn := Nat.le_trans Zn (Keep.of_wr W23).1
        have hSn := Nat.le_trans hSn (Keep.of_wr W23).1
        have N23 := Fr.snoc X23 N21 ge_d
        refine own_iload X23 hx hby at_296 (pc' := 298) rfl rfl ?_
        refine own_iconst X23 hx hby at_298 (pc' := 299) rfl (n := (1 : Int32)) (by decide) ?_
        refine own_iadd X23 hx hby at_299 (pc' := 300) rfl ?_
        show own_End p e below _ (T23.setTop (mkF m 300 #[.val (.long p0), .second, .val (.int p1), .val (.int p2), .val (.ref d), .val (.int (1 : Int32)), .val (.int (0 : Int32)), .val (.int (0 : Int32)), .val (.int sk), .val (.int lt), .val (.int nb), .val (.int sp), .val (.int (3 : Int32)), .unset, .unset, .unset, .unset] [(.int (4 : Int32))]))
        refine own_istore X23 hx hby at_300 (pc' := 302) rfl (l' := #[.val (.long p0), .second, .val (.int p1), .val (.int p2), .val (.ref d), .val (.int (1 : Int32)), .val (.int (0 : Int32)), .val (.int (0 : Int32)), .val (.int sk), .val (.int lt), .val (.int nb), .val (.int sp), .val (.int (3 : Int32)), .val (.int (4 : Int32)), .unset, .unset, .unset]) rfl ?_
        refine own_iload X23 hx hby at_302 (pc' := 304) rfl rfl ?_
        refine own_ifY X23 hx hby at_304 (pc' := 312) (by decide) (by decide) (show (0 : Int32) = (0 : Int32) by decide) ?_
        refine own_bipush X23 hx hby at_312 (pc' := 314) rfl (n := (10 : Int32)) (by decide) ?_
        refine own_istore X23 hx hby at_314 (pc' := 316) rfl (l' := #[.val (.long p0), .second, .val (.int p1), .val (.int p2), .val (.ref d), .val (.int (1 : Int32)), .val (.int (0 : Int32)), .val (.int (0 : Int32)), .val (.int sk), .val (.int lt), .val (.int nb), .val (.int sp), .val (.int (3 : Int32)), .val (.int (4 : Int32)), .val (.int (10 : Int32)), .unset, .unset]) rfl ?_
        refine own_new X23 hx hZ hby hown (wd_2 hw) (wd_3 hw) (wd_4 hw) e23 at_316 (pc' := 319) rfl (by decide) (by decide) (fun T24 h24 b24 g24 X24 e24 E24 A24 D24 => ?_)
        have ne_d_b24 : d ≠ b24 := Nat.ne_of_lt (by rw [g24]; exact f_V_d.lt)
        have ge_b24 : n0 ≤ b24 := by rw [g24]; exact Zn
        have f_V_d := f_V_d.ext E24
        have f_S_java_lang_String_COMPACT_STRINGS := f_S_java_lang_String_COMPACT_STRINGS.ext E24
        have Zn := Nat.le_trans Zn E24.1
        have hSn := Nat.le_trans hSn E24.1
        have f_O_b24 : own_ST Z h24 b24 (0 : Int32) (0 : Int32) (0 : Int32) (0 : Int32) .null .null .null .null := ⟨A24, D24 (Or.inr (wd_44 hw)) (ty := .int) (by decide), D24 (Or.inr (wd_46 hw)) (ty := .int) (by decide), D24 (Or.inr (wd_48 hw)) (ty := .int) (by decide), D24 (Or.inr (wd_50 hw)) (ty := .int) (by decide), D24 (Or.inr (wd_52 hw)) (ty := (.object "java/lang/String")) (by decide), D24 (Or.inr (wd_54 hw)) (ty := (.object "java/lang/String")) (by decide), D24 (Or.inr (wd_56 hw)) (ty := (.array .int)) (by decide), D24 (Or.inr (wd_58 hw)) (ty := (.object "java/util/Map")) (by decide)⟩
        refine own_dup X24 hx hby at_319 (pc' := 320) rfl rfl ?_
        refine own_iconst X24 hx hby at_320 (pc' := 321) rfl (n := (1 : Int32)) (by decide) ?_
        refine own_iload X24 hx hby at_321 (pc' := 323) rfl rfl ?_
        refine own_iload X24 hx hby at_323 (pc' := 325) rfl rfl ?_
        refine own_iconst X24 hx hby at_325 (pc' := 326) rfl (n := (2 : Int32)) (by decide) ?_
        refine own_iadd X24 hx hby at_326 (pc' := 327) rfl ?_
        show own_End p e below _ (T24.setTop (mkF m 327 #[.val (.long p0), .second, .val (.int p1), .val (.int p2), .val (.ref d), .val (.int (1 : Int32)), .val (.int (0 : Int32)), .val (.int (0 : Int32)), .val (.int sk), .val (.int lt), .val (.int nb), .val (.int sp), .val (.int (3 : Int32)), .val (.int (4 : Int32)), .val (.int (10 : Int32)), .unset, .unset] [(.int (3 : Int32)), (.int (1 : Int32)), (.int (1 : Int32)), (.ref b24), (.ref b24)]))
        refine own_iload X24 hx hby at_327 (pc' := 329) rfl rfl ?_
        obtain ⟨a25, T25, h25, k25, X25, e25, E25, hS, hSn, hZ, hown, st25⟩ := ldcS X24 hx hZ hown (wd_5 hw) (own_wS hw) e24 hS hSn (g := (mkF m 329 #[.val (.long p0), .second, .val (.int p1), .val (.int p2), .val (.ref d), .val (.int (1 : Int32)), .val (.int (0 : Int32)), .val (.int (0 : Int32)), .val (.int sk), .val (.int lt), .val (.int nb), .val (.int sp), .val (.int (3 : Int32)), .val (.int (4 : Int32)), .val (.int (10 : Int32)), .unset, .unset] [(.int (4 : Int32)), (.int (3 : Int32)), (.int (1 : Int32)), (.int (1 : Int32)), (.ref b24), (.ref b24)])) rfl (hb hby at_329) (n := 0) (by decide) (by decide) (by decide) (by decide)
        refine own_step st25 ?_
        have f_V_d := f_V_d.ext E25
        have f_S_java_lang_String_COMPACT_STRINGS := f_S_java_lang_String_COMPACT_STRINGS.ext E25
        have f_O_b24 := f_O_b24.ext E25
        have Zn := Nat.le_trans Zn E25.1
        show own_End p e below _ (T25.setTop (mkF m 331 #[.val (.long p0), .second, .val (.int p1), .val (.int p2), .val (.ref d), .val (.int (1 : Int32)), .val (.int (0 : Int32)), .val (.int (0 : Int32)), .val (.int sk), .val (.int lt), .val (.int nb), .val (.int sp), .val (.int (3 : Int32)), .val (.int (4 : Int32)), .val (.int (10 : Int32)), .unset, .unset] [(.ref a25), (.int (4 : Int32)), (.int (3 : Int32)), (.int (1 : Int32)), (.int (1 : Int32)), (.ref b24), (.ref b24)]))
        refine own_iload X25 hx hby at_331 (pc' := 333) rfl rfl ?_
        refine own_sipush X25 hx hby at_333 (pc' := 336) rfl (n := (255 : Int32)) (by decide) ?_
        refine own_iand X25 hx hby at_336 (pc' := 337) rfl ?_
        refine own_i2c X25 hx hby at_337 (pc' := 338) rfl ?_
        rw [i2c_mask]
        show own_End p e below _ (T25.setTop (mkF m 338 #[.val (.long p0), .second, .val (.int p1), .val (.int p2), .val (.ref d), .val (.int (1 : Int32)), .val (.int (0 : Int32)), .val (.int (0 : Int32)), .val (.int sk), .val (.int lt), .val (.int nb), .val (.int sp), .val (.int (3 : Int32)), .val (.int (4 : Int32)), .val (.int (10 : Int32)), .unset, .unset] [(.int (nb &&& (255 : Int32))), (.ref a25), (.int (4 : Int32)), (.int (3 : Int32)), (.int (1 : Int32)), (.int (1 : Int32)), (.ref b24), (.ref b24)]))
        refine own_lk5 hw X25 hx hZ hby (by rw [hml]; rfl) hown at_338 (pc' := 341) rfl e25 (W := 7) (Nat.le_of_eq rfl) (rm1 l Z a0 hw [] (nb &&& (255 : Int32)) cs h25 n0 Zn f_S_java_lang_String_COMPACT_STRINGS hcs (own_chr2 _)) (by decide) (by decide) (by decide) (by decide) (fun v27 T27 L27 X27 hQ27 => ?_)
        obtain ⟨w26, rfl, Nq27, K27, gw27⟩ := hQ27
        have N27 := Fr.app N23 Nq27
        have f_S_java_lang_String_COMPACT_STRINGS := own_sta0 f_S_java_lang_String_COMPACT_STRINGS K27
        have f_V_d := f_V_d.keep K27 nin0
        have f_O_b24 := f_O_b24.keep K27 nin0
        have Zn := Nat.le_trans Zn K27.1
        have hSn := Nat.le_trans hSn K27.1
        show own_End p e below _ (T27.setTop (mkF m 341 _ [(.ref w26), (.ref a25), (.int (4 : Int32)), (.int (3 : Int32)), (.int (1 : Int32)), (.int (1 : Int32)), (.ref b24), (.ref b24)]))
        refine own_iconst X27 hx hby at_341 (pc' := 342) rfl (n := (0 : Int32)) (by decide) ?_
        refine own_newP (aty := .int) X27 hx hZ hby (wd_33 hw) rfl at_342 (pc' := 344) rfl (by decide) (cap := 0) (by decide) (by decide) (by decide) (by decide) (fun T28 h28 k28 b28 g28 X28 e28 E28 A28 => ?_)
        have ne_d_b28 : d ≠ b28 := Nat.ne_of_lt (by rw [g28]; exact f_V_d.lt)
        have ne_b24_b28 : b24 ≠ b28 := Nat.ne_of_lt (by rw [g28]; exact f_O_b24.lt)
        have ge_b28 : n0 ≤ b28 := by rw [g28]; exact Zn
        have f_V_d := f_V_d.ext E28
        have f_S_java_lang_String_COMPACT_STRINGS := f_S_java_lang_String_COMPACT_STRINGS.ext E28
        have f_O_b24 := f_O_b24.ext E28
        have Zn := Nat.le_trans Zn E28.1
        have hSn := Nat.le_trans hSn E28.1
        have f_V_b28 : Arv Z h28 b28 k28 .int (0 : Int32) [] (.int (0 : Int32)) := Arv.new A28 (by decide)
        refine own_aconst_null X28 hx hby at_344 (pc' := 345) rfl ?_
        refine own_lk6 hw X28 hx hZ hby (by rw [hml]; rfl) hown at_345 (pc' := 348) rfl e28 (W := 1) (Nat.le_of_eq rfl) (rm6 l Z a0 hw [] b24 (1 : Int32) (1 : Int32) (3 : Int32) (4 : Int32) a25 w26 b28 h28 n0 Zn f_O_b24 ge_b24) (by decide) (by decide) (by decide) (by decide) (fun v29 T29 L29 X29 hQ29 => ?_)
        obtain ⟨rfl, Nq29, K29, O29⟩ := hQ29
        have N29 := Fr.app N27 Nq29
        have f_S_java_lang_String_COMPACT_STRINGS := own_sta1 f_S_java_lang_String_COMPACT_STRINGS K29 f_O_b24.1
        have f_V_d := f_V_d.keep K29 (ninS ne_d_b24 nin0)
        have f_V_b28 := f_V_b28.keep K29 (ninS (Ne.symm ne_b24_b28) nin0)
        have Zn := Nat.le_trans Zn K29.1
        have hSn := Nat.le_trans hSn K29.1
        show own_End p e below _ (T29.setTop (mkF m 348 _ [(.ref b24)]))
        refine own_astore X29 hx hby at_348 (pc' := 350) rfl rfl (l' := #[.val (.long p0), .second, .val (.int p1), .val (.int p2), .val (.ref d), .val (.int (1 : Int32)), .val (.int (0 : Int32)), .val (.int (0 : Int32)), .val (.int sk), .val (.int lt), .val (.int nb), .val (.int sp), .val (.int (3 : Int32)), .val (.int (4 : Int32)), .val (.int (10 : Int32)), .val (.ref b24), .unset]) rfl ?_
        refine own_new X29 hx hZ hby hown (wd_59 hw) (wd_60 hw) (wd_61 hw) rfl at_350 (pc' := 353) rfl (by decide) (by decide) (fun T30 h30 b30 g30 X30 e30 E30 A30 D30 => ?_)
        have ne_d_b30 : d ≠ b30 := Nat.ne_of_lt (by rw [g30]; exact f_V_d.lt)
        have ne_b28_b30 : b28 ≠ b30 := Nat.ne_of_lt (by rw [g30]; exact f_V_b28.lt)
        have ne_b24_b30 : b24 ≠ b30 := Nat.ne_of_lt (by rw [g30]; exact O29.lt)
        have ge_b30 : n0 ≤ b30 := by rw [g30]; exact Zn
        have f_V_d := f_V_d.ext E30
        have f_S_java_lang_String_COMPACT_STRINGS := f_S_java_lang_String_COMPACT_STRINGS.ext E30
        have f_V_b28 := f_V_b28.ext E30
        have O29 := O29.ext E30
        have Zn := Nat.le_trans Zn E30.1
        have hSn := Nat.le_trans hSn E30.1
        have f_O_b30 : own_XS Z h30 b30 .null .null (0 : Int32) .null .null := ⟨A30, D30 (Or.inr (wd_67 hw)) (ty := (.array .byte)) (by decide), D30 (Or.inr (wd_69 hw)) (ty := (.object "com/example/halyard/halyard/base/XmlScan$StartTag")) (by decide), D30 (Or.inr (wd_71 hw)) (ty := .int) (by decide), D30 (Or.inr (wd_73 hw)) (ty := (.object "java/util/List")) (by decide), D30 (Or.inr (wd_75 hw)) (ty := (.array .int)) (by decide)⟩
        refine own_dup X30 hx hby at_353 (pc' := 354) rfl rfl ?_
        refine own_aload X30 hx hby at_354 (pc' := 356) rfl rfl rfl ?_
        refine own_aload X30 hx hby at_356 (pc' := 358) rfl rfl rfl ?_
        refine own_iload X30 hx hby at_358 (pc' := 360) rfl rfl ?_
        refine own_aconst_null X30 hx hby at_360 (pc' := 361) rfl ?_
        refine own_iconst X30 hx hby at_361 (pc' := 362) rfl (n := (0 : Int32)) (by decide) ?_
        refine own_newP (aty := .int) X30 hx hZ hby (wd_33 hw) e30 at_362 (pc' := 364) rfl (by decide) (cap := 0) (by decide) (by decide) (by decide) (by decide) (fun T31 h31 k31 b31 g31 X31 e31 E31 A31 => ?_)
        have ne_d_b31 : d ≠ b31 := Nat.ne_of_lt (by rw [g31]; exact f_V_d.lt)
        have ne_b28_b31 : b28 ≠ b31 := Nat.ne_of_lt (by rw [g31]; exact f_V_b28.lt)
        have ne_b24_b31 : b24 ≠ b31 := Nat.ne_of_lt (by rw [g31]; exact O29.lt)
        have ne_b30_b31 : b30 ≠ b31 := Nat.ne_of_lt (by rw [g31]; exact f_O_b30.lt)
        have ge_b31 : n0 ≤ b31 := by rw [g31]; exact Zn
        have f_V_d := f_V_d.ext E31
        have f_S_java_lang_String_COMPACT_STRINGS := f_S_java_lang_String_COMPACT_STRINGS.ext E31
        have f_V_b28 := f_V_b28.ext E31
        have O29 := O29.ext E31
        have f_O_b30 := f_O_b30.ext E31
        have Zn := Nat.le_trans Zn E31.1
        have hSn := Nat.le_trans hSn E31.1
        have f_V_b31 : Arv Z h31 b31 k31 .int (0 : Int32) [] (.int (0 : Int32)) := Arv.new A31 (by decide)
        refine own_lk7 hw X31 hx hZ hby (by rw [hml]; rfl) hown at_364 (pc' := 367) rfl e31 (W := 1) (Nat.le_of_eq rfl) (rm8 l Z a0 hw [] b30 d b24 (10 : Int32) b31 h31 n0 Zn f_O_b30 ge_b30) (by decide) (by decide) (by decide) (by decide) (fun v32 T32 L32 X32 hQ32 => ?_)
        obtain ⟨rfl, Nq32, K32, O32⟩ := hQ32
        have N32 := Fr.app N29 Nq32
        have f_S_java_lang_String_COMPACT_STRINGS := own_sta1 f_S_java_lang_String_COMPACT_STRINGS K32 f_O_b30.1
        have f_V_d := f_V_d.keep K32 (ninS ne_d_b30 nin0)
        have f_V_b28 := f_V_b28.keep K32 (ninS ne_b28_b30 nin0)
        have O29 := O29.keep K32 (ninS ne_b24_b30 nin0)
        have f_V_b31 := f_V_b31.keep K32 (ninS (Ne.symm ne_b30_b31) nin0)
        have Zn := Nat.le_trans Zn K32.1
        have hSn := Nat.le_trans hSn K32.1
        show own_End p e below _ (T32.setTop (mkF m 367 _ [(.ref b30)]))
        refine own_astore X32 hx hby at_367 (pc' := 369) rfl rfl (l' := #[.val (.long p0), .second, .val (.int p1), .val (.int p2), .val (.ref d), .val (.int (1 : Int32)), .val (.int (0 : Int32)), .val (.int (0 : Int32)), .val (.int sk), .val (.int lt), .val (.int nb), .val (.int sp), .val (.int (3 : Int32)), .val (.int (4 : Int32)), .val (.int (10 : Int32)), .val (.ref b24), .val (.ref b30)]) rfl ?_
        refine own_aload X32 hx hby at_369 (pc' := 371) rfl rfl rfl ?_
        refine own_lk8 hw X32 hx hZ hby (by rw [hml]; rfl) hown at_371 (pc' := 374) rfl rfl O32.1 (W := 0) (Nat.le_of_eq rfl) (rm9b l Z a0 hw [] b30 d b24 (10 : Int32) .null rfl (.ref b31) rfl (1 : Int32) (1 : Int32) (3 : Int32) (4 : Int32) (.ref a25) rfl (.ref w26) rfl (.ref b28) rfl .null rfl kk (10 : Int32) [w0, (.int (60 : Int32)), (.int (nb.toInt8.toInt32)), (.int (62 : Int32)), w4, w5, w6, w7, w8, w9] (nb.toInt8.toInt32) T32.heap n0 Zn O32 O29 f_V_d (by decide) rfl hnb) (by decide) (by decide) (by decide) (by decide) (fun v33 T33 L33 X33 hQ33 => ?_)
        obtain ⟨rfl, Nq33, e33⟩ := hQ33
        have N33 := Fr.app N32 Nq33
        show own_End p e below _ (T33.setTop (mkF m 374 _ [(.int (3 : Int32))]))
        refine own_iload X33 hx hby at_374 (pc' := 376) rfl rfl ?_
        refine own_icN X33 hx hby at_376 (pc' := 379) rfl (show (3 : Int32) = (3 : Int32) by decide) ?_
        refine own_iconst X33 hx hby at_379 (pc' := 380) rfl (n := (1 : Int32)) (by decide) ?_
        refine own_goto X33 hx hby at_380 (pc' := 384) (by decide) (by decide) ?_
        refine own_zreturn X33 hx hlk hby hret (Or.inr rfl) at_384 (own_lvS hS (by rw [e33]; exact hSn) ?_ (by decide) (by decide))
        show Q0 Z p0 p1 p2 cs  h0 n0 (some (.int (1 : Int32))) T33.heap _
        rw [e33]
        exact ⟨rfl, N33⟩
      · rw [hs1]
        show own_End p e below _ (T0.setTop (mkF m 221 #[.val (.long p0), .second, .val (.int p1), .val (.int p2), .val (.ref d), .val (.int (2 : Int32)), .val (.int (0 : Int32)), .val (.int (0 : Int32)), .val (.int sk), .val (.int lt), .val (.int nb), .val (.int sp), .unset, .unset, .unset, .unset, .unset] [(.ref d)]))
        refine own_iload X0 hx hby at_221 (pc' := 223) rfl rfl ?_
        refine own_bipush X0 hx hby at_223 (pc' := 225) rfl (n := (60 : Int32)) (by decide) ?_
        obtain ⟨cl34, Ar34, q34, S34, M34, H34, G34⟩ := id f_V_d
        have hin34 : ¬ ((2 : Int32) < 0 ∨ cl34.slots.size ≤ ((2 : Int32)).toNatClampNeg) := inb_of S34 ⟨by decide, by decide⟩
        refine own_bastore X0 hx hZ hby e1 Ar34 hin34 at_225 (pc' := 226) rfl (fun T35 h35 X35 e35 W35 => ?_)
        have f_V_d := Arv.set Ar34 q34 S34 M34 H34 G34 (fits_nar_byte _) W35 2 rfl (Nat.le_of_ble_eq_true rfl)
        have f_V_d : Arv Z h35 d kk .byte (10 : Int32) [w0, w1, (.int ((60 : Int32).toInt8.toInt32)), w3, w4, w5, w6, w7, w8, w9] (.int (0 : Int32)) := f_V_d
        have f_V_d : Arv Z h35 d kk .byte (10 : Int32) [w0, w1, (.int (60 : Int32)), w3, w4, w5, w6, w7, w8, w9] (.int (0 : Int32)) := f_V_d
        have f_S_java_lang_String_COMPACT_STRINGS := f_S_java_lang_String_COMPACT_STRINGS.wr W35
        have Zn := Nat.le_trans Z1 (Keep.of_wr W35).1
        have hSn := Nat.le_trans hSn (Keep.of_wr W35).1
        have N35 := Fr.snoc X35 N0 ge_d
        refine own_aload X35 hx hby at_226 (pc' := 228) rfl rfl rfl ?_
        refine own_iload X35 hx hby at_228 (pc' := 230) rfl rfl ?_
        refine own_iconst X35 hx hby at_230 (pc' := 231) rfl (n := (1 : Int32)) (by decide) ?_
        refine own_iadd X35 hx hby at_231 (pc' := 232) rfl ?_
        show own_End p e below _ (T35.setTop (mkF m 232 #[.val (.long p0), .second, .val (.int p1), .val (.int p2), .val (.ref d), .val (.int (2 : Int32)), .val (.int (0 : Int32)), .val (.int (0 : Int32)), .val (.int sk), .val (.int lt), .val (.int nb), .val (.int sp), .unset, .unset, .unset, .unset, .unset] [(.int (3 : Int32)), (.ref d)]))
        refine own_iload X35 hx hby at_232 (pc' := 234) rfl rfl ?_
        obtain ⟨cl36, Ar36, q36, S36, M36, H36, G36⟩ := id f_V_d
        have hin36 : ¬ ((3 : Int32) < 0 ∨ cl36.slots.size ≤ ((3 : Int32)).toNatClampNeg) := inb_of S36 ⟨by decide, by decide⟩
        refine own_bastore X35 hx hZ hby e35 Ar36 hin36 at_234 (pc' := 235) rfl (fun T37 h37 X37 e37 W37 => ?_)
        have f_V_d := Arv.set Ar36 q36 S36 M36 H36 G36 (fits_nar_byte _) W37 3 rfl (Nat.le_of_ble_eq_true rfl)
        have f_V_d : Arv Z h37 d kk .byte (10 : Int32) [w0, w1, (.int (60 : Int32)), (.int (nb.toInt8.toInt32)), w4, w5, w6, w7, w8, w9] (.int (0 : Int32)) := f_V_d
        have f_S_java_lang_String_COMPACT_STRINGS := f_S_java_lang_String_COMPACT_STRINGS.wr W37
        have Zn := Nat.le_trans Zn (Keep.of_wr W37).1
        have hSn := Nat.le_trans hSn (Keep.of_wr W37).1
        have N37 := Fr.snoc X37 N35 ge_d
        refine own_iload X37 hx hby at_235 (pc' := 237) rfl rfl ?_
        refine own_iconst X37 hx hby at_237 (pc' := 238) rfl (n := (2 : Int32)) (by decide) ?_
        refine own_iadd X37 hx hby at_238 (pc' := 239) rfl ?_
        show own_End p e below _ (T37.setTop (mkF m 239 #[.val (.long p0), .second, .val (.int p1), .val (.int p2), .val (.ref d), .val (.int (2 : Int32)), .val (.int (0 : Int32)), .val (.int (0 : Int32)), .val (.int sk), .val (.int lt), .val (.int nb), .val (.int sp), .unset, .unset, .unset, .unset, .unset] [(.int (4 : Int32))]))
        refine own_istore X37 hx hby at_239 (pc' := 241) rfl (l' := #[.val (.long p0), .second, .val (.int p1), .val (.int p2), .val (.ref d), .val (.int (2 : Int32)), .val (.int (0 : Int32)), .val (.int (0 : Int32)), .val (.int sk), .val (.int lt), .val (.int nb), .val (.int sp), .val (.int (4 : Int32)), .unset, .unset, .unset, .unset]) rfl ?_
        refine own_iload X37 hx hby at_241 (pc' := 243) rfl rfl ?_
        refine own_ifY X37 hx hby at_243 (pc' := 259) (by decide) (by decide) (show (0 : Int32) = (0 : Int32) by decide) ?_
        refine own_iload X37 hx hby at_259 (pc' := 261) rfl rfl ?_
        refine own_ifY X37 hx hby at_261 (pc' := 289) (by decide) (by decide) (show (0 : Int32) = (0 : Int32) by decide) ?_
        refine own_aload X37 hx hby at_289 (pc' := 291) rfl rfl rfl ?_
        refine own_iload X37 hx hby at_291 (pc' := 293) rfl rfl ?_
        refine own_bipush X37 hx hby at_293 (pc' := 295) rfl (n := (62 : Int32)) (by decide) ?_
        obtain ⟨cl38, Ar38, q38, S38, M38, H38, G38⟩ := id f_V_d
        have hin38 : ¬ ((4 : Int32) < 0 ∨ cl38.slots.size ≤ ((4 : Int32)).toNatClampNeg) := inb_of S38 ⟨by decide, by decide⟩
        refine own_bastore X37 hx hZ hby e37 Ar38 hin38 at_295 (pc' := 296) rfl (fun T39 h39 X39 e39 W39 => ?_)
        have f_V_d := Arv.set Ar38 q38 S38 M38 H38 G38 (fits_nar_byte _) W39 4 rfl (Nat.le_of_ble_eq_true rfl)
        have f_V_d : Arv Z h39 d kk .byte (10 : Int32) [w0, w1, (.int (60 : Int32)), (.int (nb.toInt8.toInt32)), (.int ((62 : Int32).toInt8.toInt32)), w5, w6, w7, w8, w9] (.int (0 : Int32)) := f_V_d
        have f_V_d : Arv Z h39 d kk .byte (10 : Int32) [w0, w1, (.int (60 : Int32)), (.int (nb.toInt8.toInt32)), (.int (62 : Int32)), w5, w6, w7, w8, w9] (.int (0 : Int32)) := f_V_d
        have f_S_java_lang_String_COMPACT_STRINGS := f_S_java_lang_String_COMPACT_STRINGS.wr W39
        have Zn := Nat.le_trans Zn (Keep.of_wr W39).1
        have hSn := Nat.le_trans hSn (Keep.of_wr W39).1
        have N39 := Fr.snoc X39 N37 ge_d
        refine own_iload X39 hx hby at_296 (pc' := 298) rfl rfl ?_
        refine own_iconst X39 hx hby at_298 (pc' := 299) rfl (n := (1 : Int32)) (by decide) ?_
        refine own_iadd X39 hx hby at_299 (pc' := 300) rfl ?_
        show own_End p e below _ (T39.setTop (mkF m 300 #[.val (.long p0), .second, .val (.int p1), .val (.int p2), .val (.ref d), .val (.int (2 : Int32)), .val (.int (0 : Int32)), .val (.int (0 : Int32)), .val (.int sk), .val (.int lt), .val (.int nb), .val (.int sp), .val (.int (4 : Int32)), .unset, .unset, .unset, .unset] [(.int (5 : Int32))]))
        refine own_istore X39 hx hby at_300 (pc' := 302) rfl (l' := #[.val (.long p0), .second, .val (.int p1), .val (.int p2), .val (.ref d), .val (.int (2 : Int32)), .val (.int (0 : Int32)), .val (.int (0 : Int32)), .val (.int sk), .val (.int lt), .val (.int nb), .val (.int sp), .val (.int (4 : Int32)), .val (.int (5 : Int32)), .unset, .unset, .unset]) rfl ?_
        refine own_iload X39 hx hby at_302 (pc' := 304) rfl rfl ?_
        refine own_ifY X39 hx hby at_304 (pc' := 312) (by decide) (by decide) (show (0 : Int32) = (0 : Int32) by decide) ?_
        refine own_bipush X39 hx hby at_312 (pc' := 314) rfl (n := (10 : Int32)) (by decide) ?_
        refine own_istore X39 hx hby at_314 (pc' := 316) rfl (l' := #[.val (.long p0), .second, .val (.int p1), .val (.int p2), .val (.ref d), .val (.int (2 : Int32)), .val (.int (0 : Int32)), .val (.int (0 : Int32)), .val (.int sk), .val (.int lt), .val (.int nb), .val (.int sp), .val (.int (4 : Int32)), .val (.int (5 : Int32)), .val (.int (10 : Int32)), .unset, .unset]) rfl ?_
        refine own_new X39 hx hZ hby hown (wd_2 hw) (wd_3 hw) (wd_4 hw) e39 at_316 (pc' := 319) rfl (by decide) (by decide) (fun T40 h40 b40 g40 X40 e40 E40 A40 D40 => ?_)
        have ne_d_b40 : d ≠ b40 := Nat.ne_of_lt (by rw [g40]; exact f_V_d.lt)
        have ge_b40 : n0 ≤ b40 := by rw [g40]; exact Zn
        have f_V_d := f_V_d.ext E40
        have f_S_java_lang_String_COMPACT_STRINGS := f_S_java_lang_String_COMPACT_STRINGS.ext E40
        have Zn := Nat.le_trans Zn E40.1
        have hSn := Nat.le_trans hSn E40.1
        have f_O_b40 : own_ST Z h40 b40 (0 : Int32) (0 : Int32) (0 : Int32) (0 : Int32) .null .null .null .null := ⟨A40, D40 (Or.inr (wd_44 hw)) (ty := .int) (by decide), D40 (Or.inr (wd_46 hw)) (ty := .int) (by decide), D40 (Or.inr (wd_48 hw)) (ty := .int) (by decide), D40 (Or.inr (wd_50 hw)) (ty := .int) (by decide), D40 (Or.inr (wd_52 hw)) (ty := (.object "java/lang/String")) (by decide), D40 (Or.inr (wd_54 hw)) (ty := (.object "java/lang/String")) (by decide), D40 (Or.inr (wd_56 hw)) (ty := (.array .int)) (by decide), D40 (Or.inr (wd_58 hw)) (ty := (.object "java/util/Map")) (by decide)⟩
        refine own_dup X40 hx hby at_319 (pc' := 320) rfl rfl ?_
        refine own_iconst X40 hx hby at_320 (pc' := 321) rfl (n := (1 : Int32)) (by decide) ?_
        refine own_iload X40 hx hby at_321 (pc' := 323) rfl rfl ?_
        refine own_iload X40 hx hby at_323 (pc' := 325) rfl rfl ?_
        refine own_iconst X40 hx hby at_325 (pc' := 326) rfl (n := (2 : Int32)) (by decide) ?_
        refine own_iadd X40 hx hby at_326 (pc' := 327) rfl ?_
        show own_End p e below _ (T40.setTop (mkF m 327 #[.val (.long p0), .second, .val (.int p1), .val (.int p2), .val (.ref d), .val (.int (2 : Int32)), .val (.int (0 : Int32)), .val (.int (0 : Int32)), .val (.int sk), .val (.int lt), .val (.int nb), .val (.int sp), .val (.int (4 : Int32)), .val (.int (5 : Int32)), .val (.int (10 : Int32)), .unset, .unset] [(.int (4 : Int32)), (.int (2 : Int32)), (.int (1 : Int32)), (.ref b40), (.ref b40)]))
        refine own_iload X40 hx hby at_327 (pc' := 329) rfl rfl ?_
        obtain ⟨a41, T41, h41, k41, X41, e41, E41, hS, hSn, hZ, hown, st41⟩ := ldcS X40 hx hZ hown (wd_5 hw) (own_wS hw) e40 hS hSn (g := (mkF m 329 #[.val (.long p0), .second, .val (.int p1), .val (.int p2), .val (.ref d), .val (.int (2 : Int32)), .val (.int (0 : Int32)), .val (.int (0 : Int32)), .val (.int sk), .val (.int lt), .val (.int nb), .val (.int sp), .val (.int (4 : Int32)), .val (.int (5 : Int32)), .val (.int (10 : Int32)), .unset, .unset] [(.int (5 : Int32)), (.int (4 : Int32)), (.int (2 : Int32)), (.int (1 : Int32)), (.ref b40), (.ref b40)])) rfl (hb hby at_329) (n := 0) (by decide) (by decide) (by decide) (by decide)
        refine own_step st41 ?_
        have f_V_d := f_V_d.ext E41
        have f_S_java_lang_String_COMPACT_STRINGS := f_S_java_lang_String_COMPACT_STRINGS.ext E41
        have f_O_b40 := f_O_b40.ext E41
        have Zn := Nat.le_trans Zn E41.1
        show own_End p e below _ (T41.setTop (mkF m 331 #[.val (.long p0), .second, .val (.int p1), .val (.int p2), .val (.ref d), .val (.int (2 : Int32)), .val (.int (0 : Int32)), .val (.int (0 : Int32)), .val (.int sk), .val (.int lt), .val (.int nb), .val (.int sp), .val (.int (4 : Int32)), .val (.int (5 : Int32)), .val (.int (10 : Int32)), .unset, .unset] [(.ref a41), (.int (5 : Int32)), (.int (4 : Int32)), (.int (2 : Int32)), (.int (1 : Int32)), (.ref b40), (.ref b40)]))
        refine own_iload X41 hx hby at_331 (pc' := 333) rfl rfl ?_
        refine own_sipush X41 hx hby at_333 (pc' := 336) rfl (n := (255 : Int32)) (by decide) ?_
        refine own_iand X41 hx hby at_336 (pc' := 337) rfl ?_
        refine own_i2c X41 hx hby at_337 (pc' := 338) rfl ?_
        rw [i2c_mask]
        show own_End p e below _ (T41.setTop (mkF m 338 #[.val (.long p0), .second, .val (.int p1), .val (.int p2), .val (.ref d), .val (.int (2 : Int32)), .val (.int (0 : Int32)), .val (.int (0 : Int32)), .val (.int sk), .val (.int lt), .val (.int nb), .val (.int sp), .val (.int (4 : Int32)), .val (.int (5 : Int32)), .val (.int (10 : Int32)), .unset, .unset] [(.int (nb &&& (255 : Int32))), (.ref a41), (.int (5 : Int32)), (.int (4 : Int32)), (.int (2 : Int32)), (.int (1 : Int32)), (.ref b40), (.ref b40)]))
        refine own_lk5 hw X41 hx hZ hby (by rw [hml]; rfl) hown at_338 (pc' := 341) rfl e41 (W := 7) (Nat.le_of_eq rfl) (rm1 l Z a0 hw [] (nb &&& (255 : Int32)) cs h41 n0 Zn f_S_java_lang_String_COMPACT_STRINGS hcs (own_chr2 _)) (by decide) (by decide) (by decide) (by decide) (fun v43 T43 L43 X43 hQ43 => ?_)
        obtain ⟨w42, rfl, Nq43, K43, gw43⟩ := hQ43
        have N43 := Fr.app N39 Nq43
        have f_S_java_lang_String_COMPACT_STRINGS := own_sta0 f_S_java_lang_String_COMPACT_STRINGS K43
        have f_V_d := f_V_d.keep K43 nin0
        have f_O_b40 := f_O_b40.keep K43 nin0
        have Zn := Nat.le_trans Zn K43.1
        have hSn := Nat.le_trans hSn K43.1
        show own_End p e below _ (T43.setTop (mkF m 341 _ [(.ref w42), (.ref a41), (.int (5 : Int32)), (.int (4 : Int32)), (.int (2 : Int32)), (.int (1 : Int32)), (.ref b40), (.ref b40)]))
        refine own_iconst X43 hx hby at_341 (pc' := 342) rfl (n := (0 : Int32)) (by decide) ?_
        refine own_newP (aty := .int) X43 hx hZ hby (wd_33 hw) rfl at_342 (pc' := 344) rfl (by decide) (cap := 0) (by decide) (by decide) (by decide) (by decide) (fun T44 h44 k44 b44 g44 X44 e44 E44 A44 => ?_)
        have ne_d_b44 : d ≠ b44 := Nat.ne_of_lt (by rw [g44]; exact f_V_d.lt)
        have ne_b40_b44 : b40 ≠ b44 := Nat.ne_of_lt (by rw [g44]; exact f_O_b40.lt)
        have ge_b44 : n0 ≤ b44 := by rw [g44]; exact Zn
        have f_V_d := f_V_d.ext E44
        have f_S_java_lang_String_COMPACT_STRINGS := f_S_java_lang_String_COMPACT_STRINGS.ext E44
        have f_O_b40 := f_O_b40.ext E44
        have Zn := Nat.le_trans Zn E44.1
        have hSn := Nat.le_trans hSn E44.1
        have f_V_b44 : Arv Z h44 b44 k44 .int (0 : Int32) [] (.int (0 : Int32)) := Arv.new A44 (by decide)
        refine own_aconst_null X44 hx hby at_344 (pc' := 345) rfl ?_
        refine own_lk6 hw X44 hx hZ hby (by rw [hml]; rfl) hown at_345 (pc' := 348) rfl e44 (W := 1) (Nat.le_of_eq rfl) (rm6 l Z a0 hw [] b40 (1 : Int32) (2 : Int32) (4 : Int32) (5 : Int32) a41 w42 b44 h44 n0 Zn f_O_b40 ge_b40) (by decide) (by decide) (by decide) (by decide) (fun v45 T45 L45 X45 hQ45 => ?_)
        obtain ⟨rfl, Nq45, K45, O45⟩ := hQ45
        have N45 := Fr.app N43 Nq45
        have f_S_java_lang_String_COMPACT_STRINGS := own_sta1 f_S_java_lang_String_COMPACT_STRINGS K45 f_O_b40.1
        have f_V_d := f_V_d.keep K45 (ninS ne_d_b40 nin0)
        have f_V_b44 := f_V_b44.keep K45 (ninS (Ne.symm ne_b40_b44) nin0)
        have Zn := Nat.le_trans Zn K45.1
        have hSn := Nat.le_trans hSn K45.1
        show own_End p e below _ (T45.setTop (mkF m 348 _ [(.ref b40)]))
        refine own_astore X45 hx hby at_348 (pc' := 350) rfl rfl (l' := #[.val (.long p0), .second, .val (.int p1), .val (.int p2), .val (.ref d), .val (.int (2 : Int32)), .val (.int (0 : Int32)), .val (.int (0 : Int32)), .val (.int sk), .val (.int lt), .val (.int nb), .val (.int sp), .val (.int (4 : Int32)), .val (.int (5 : Int32)), .val (.int (10 : Int32)), .val (.ref b40), .unset]) rfl ?_
        refine own_new X45 hx hZ hby hown (wd_59 hw) (wd_60 hw) (wd_61 hw) rfl at_350 (pc' := 353) rfl (by decide) (by decide) (fun T46 h46 b46 g46 X46 e46 E46 A46 D46 => ?_)
        have ne_d_b46 : d ≠ b46 := Nat.ne_of_lt (by rw [g46]; exact f_V_d.lt)
        have ne_b44_b46 : b44 ≠ b46 := Nat.ne_of_lt (by rw [g46]; exact f_V_b44.lt)
        have ne_b40_b46 : b40 ≠ b46 := Nat.ne_of_lt (by rw [g46]; exact O45.lt)
        have ge_b46 : n0 ≤ b46 := by rw [g46]; exact Zn
        have f_V_d := f_V_d.ext E46
        have f_S_java_lang_String_COMPACT_STRINGS := f_S_java_lang_String_COMPACT_STRINGS.ext E46
        have f_V_b44 := f_V_b44.ext E46
        have O45 := O45.ext E46
        have Zn := Nat.le_trans Zn E46.1
        have hSn := Nat.le_trans hSn E46.1
        have f_O_b46 : own_XS Z h46 b46 .null .null (0 : Int32) .null .null := ⟨A46, D46 (Or.inr (wd_67 hw)) (ty := (.array .byte)) (by decide), D46 (Or.inr (wd_69 hw)) (ty := (.object "com/example/halyard/halyard/base/XmlScan$StartTag")) (by decide), D46 (Or.inr (wd_71 hw)) (ty := .int) (by decide), D46 (Or.inr (wd_73 hw)) (ty := (.object "java/util/List")) (by decide), D46 (Or.inr (wd_75 hw)) (ty := (.array .int)) (by decide)⟩
        refine own_dup X46 hx hby at_353 (pc' := 354) rfl rfl ?_
        refine own_aload X46 hx hby at_354 (pc' := 356) rfl rfl rfl ?_
        refine own_aload X46 hx hby at_356 (pc' := 358) rfl rfl rfl ?_
        refine own_iload X46 hx hby at_358 (pc' := 360) rfl rfl ?_
        refine own_aconst_null X46 hx hby at_360 (pc' := 361) rfl ?_
        refine own_iconst X46 hx hby at_361 (pc' := 362) rfl (n := (0 : Int32)) (by decide) ?_
        refine own_newP (aty := .int) X46 hx hZ hby (wd_33 hw) e46 at_362 (pc' := 364) rfl (by decide) (cap := 0) (by decide) (by decide) (by decide) (by decide) (fun T47 h47 k47 b47 g47 X47 e47 E47 A47 => ?_)
        have ne_d_b47 : d ≠ b47 := Nat.ne_of_lt (by rw [g47]; exact f_V_d.lt)
        have ne_b44_b47 : b44 ≠ b47 := Nat.ne_of_lt (by rw [g47]; exact f_V_b44.lt)
        have ne_b40_b47 : b40 ≠ b47 := Nat.ne_of_lt (by rw [g47]; exact O45.lt)
        have ne_b46_b47 : b46 ≠ b47 := Nat.ne_of_lt (by rw [g47]; exact f_O_b46.lt)
        have ge_b47 : n0 ≤ b47 := by rw [g47]; exact Zn
        have f_V_d := f_V_d.ext E47
        have f_S_java_lang_String_COMPACT_STRINGS := f_S_java_lang_String_COMPACT_STRINGS.ext E47
        have f_V_b44 := f_V_b44.ext E47
        have O45 := O45.ext E47
        have f_O_b46 := f_O_b46.ext E47
        have Zn := Nat.le_trans Zn E47.1
        have hSn := Nat.le_trans hSn E47.1
        have f_V_b47 : Arv Z h47 b47 k47 .int (0 : Int32) [] (.int (0 : Int32)) := Arv.new A47 (by decide)
        refine own_lk7 hw X47 hx hZ hby (by rw [hml]; rfl) hown at_364 (pc' := 367) rfl e47 (W := 1) (Nat.le_of_eq rfl) (rm8 l Z a0 hw [] b46 d b40 (10 : Int32) b47 h47 n0 Zn f_O_b46 ge_b46) (by decide) (by decide) (by decide) (by decide) (fun v48 T48 L48 X48 hQ48 => ?_)
        obtain ⟨rfl, Nq48, K48, O48⟩ := hQ48
        have N48 := Fr.app N45 Nq48
        have f_S_java_lang_String_COMPACT_STRINGS := own_sta1 f_S_java_lang_String_COMPACT_STRINGS K48 f_O_b46.1
        have f_V_d := f_V_d.keep K48 (ninS ne_d_b46 nin0)
        have f_V_b44 := f_V_b44.keep K48 (ninS ne_b44_b46 nin0)
        have O45 := O45.keep K48 (ninS ne_b40_b46 nin0)
        have f_V_b47 := f_V_b47.keep K48 (ninS (Ne.symm ne_b46_b47) nin0)
        have Zn := Nat.le_trans Zn K48.1
        have hSn := Nat.le_trans hSn K48.1
        show own_End p e below _ (T48.setTop (mkF m 367 _ [(.ref b46)]))
        refine own_astore X48 hx hby at_367 (pc' := 369) rfl rfl (l' := #[.val (.long p0), .second, .val (.int p1), .val (.int p2), .val (.ref d), .val (.int (2 : Int32)), .val (.int (0 : Int32)), .val (.int (0 : Int32)), .val (.int sk), .val (.int lt), .val (.int nb), .val (.int sp), .val (.int (4 : Int32)), .val (.int (5 : Int32)), .val (.int (10 : Int32)), .val (.ref b40), .val (.ref b46)]) rfl ?_
        refine own_aload X48 hx hby at_369 (pc' := 371) rfl rfl rfl ?_
        refine own_lk8 hw X48 hx hZ hby (by rw [hml]; rfl) hown at_371 (pc' := 374) rfl rfl O48.1 (W := 0) (Nat.le_of_eq rfl) (rm9b l Z a0 hw [] b46 d b40 (10 : Int32) .null rfl (.ref b47) rfl (1 : Int32) (2 : Int32) (4 : Int32) (5 : Int32) (.ref a41) rfl (.ref w42) rfl (.ref b44) rfl .null rfl kk (10 : Int32) [w0, w1, (.int (60 : Int32)), (.int (nb.toInt8.toInt32)), (.int (62 : Int32)), w5, w6, w7, w8, w9] (nb.toInt8.toInt32) T48.heap n0 Zn O48 O45 f_V_d (by decide) rfl hnb) (by decide) (by decide) (by decide) (by decide) (fun v49 T49 L49 X49 hQ49 => ?_)
        obtain ⟨rfl, Nq49, e49⟩ := hQ49
        have N49 := Fr.app N48 Nq49
        show own_End p e below _ (T49.setTop (mkF m 374 _ [(.int (4 : Int32))]))
        refine own_iload X49 hx hby at_374 (pc' := 376) rfl rfl ?_
        refine own_icN X49 hx hby at_376 (pc' := 379) rfl (show (4 : Int32) = (4 : Int32) by decide) ?_
        refine own_iconst X49 hx hby at_379 (pc' := 380) rfl (n := (1 : Int32)) (by decide) ?_
        refine own_goto X49 hx hby at_380 (pc' := 384) (by decide) (by decide) ?_
        refine own_zreturn X49 hx hlk hby hret (Or.inr rfl) at_384 (own_lvS hS (by rw [e49]; exact hSn) ?_ (by decide) (by decide))
        show Q0 Z p0 p1 p2 cs  h0 n0 (some (.int (1 : Int32))) T49.heap _
        rw [e49]
        exact ⟨rfl, N49⟩
      · rw [hs1]
        show own_End p e below _ (T0.setTop (mkF m 221 #[.val (.long p0), .second, .val (.int p1), .val (.int p2), .val (.ref d), .val (.int (3 : Int32)), .val (.int (0 : Int32)), .val (.int (0 : Int32)), .val (.int sk), .val (.int lt), .val (.int nb), .val (.int sp), .unset, .unset, .unset, .unset, .unset] [(.ref d)]))
        refine own_iload X0 hx hby at_221 (pc' := 223) rfl rfl ?_
        refine own_bipush X0 hx hby at_223 (pc' := 225) rfl (n := (60 : Int32)) (by decide) ?_
        obtain ⟨cl50, Ar50, q50, S50, M50, H50, G50⟩ := id f_V_d
        have hin50 : ¬ ((3 : Int32) < 0 ∨ cl50.slots.size ≤ ((3 : Int32)).toNatClampNeg) := inb_of S50 ⟨by decide, by decide⟩
        refine own_bastore X0 hx hZ hby e1 Ar50 hin50 at_225 (pc' := 226) rfl (fun T51 h51 X51 e51 W51 => ?_)
        have f_V_d := Arv.set Ar50 q50 S50 M50 H50 G50 (fits_nar_byte _) W51 3 rfl (Nat.le_of_ble_eq_true rfl)
        have f_V_d : Arv Z h51 d kk .byte (10 : Int32) [w0, w1, w2, (.int ((60 : Int32).toInt8.toInt32)), w4, w5, w6, w7, w8, w9] (.int (0 : Int32)) := f_V_d
        have f_V_d : Arv Z h51 d kk .byte (10 : Int32) [w0, w1, w2, (.int (60 : Int32)), w4, w5, w6, w7, w8, w9] (.int (0 : Int32)) := f_V_d
        have f_S_java_lang_String_COMPACT_STRINGS := f_S_java_lang_String_COMPACT_STRINGS.wr W51
        have Zn := Nat.le_trans Z1 (Keep.of_wr W51).1
        have hSn := Nat.le_trans hSn (Keep.of_wr W51).1
        have N51 := Fr.snoc X51 N0 ge_d
        refine own_aload X51 hx hby at_226 (pc' := 228) rfl rfl rfl ?_
        refine own_iload X51 hx hby at_228 (pc' := 230) rfl rfl ?_
        refine own_iconst X51 hx hby at_230 (pc' := 231) rfl (n := (1 : Int32)) (by decide) ?_
        refine own_iadd X51 hx hby at_231 (pc' := 232) rfl ?_
        show own_End p e below _ (T51.setTop (mkF m 232 #[.val (.long p0), .second, .val (.int p1), .val (.int p2), .val (.ref d), .val (.int (3 : Int32)), .val (.int (0 : Int32)), .val (.int (0 : Int32)), .val (.int sk), .val (.int lt), .val (.int nb), .val (.int sp), .unset, .unset, .unset, .unset, .unset] [(.int (4 : Int32)), (.ref d)]))
        refine own_iload X51 hx hby at_232 (pc' := 234) rfl rfl ?_
        obtain ⟨cl52, Ar52, q52, S52, M52, H52, G52⟩ := id f_V_d
        have hin52 : ¬ ((4 : Int32) < 0 ∨ cl52.slots.size ≤ ((4 : Int32)).toNatClampNeg) := inb_of S52 ⟨by decide, by decide⟩
        refine own_bastore X51 hx hZ hby e51 Ar52 hin52 at_234 (pc' := 235) rfl (fun T53 h53 X53 e53 W53 => ?_)
        have f_V_d := Arv.set Ar52 q52 S52 M52 H52 G52 (fits_nar_byte _) W53 4 rfl (Nat.le_of_ble_eq_true rfl)
        have f_V_d : Arv Z h53 d kk .byte (10 : Int32) [w0, w1, w2, (.int (60 : Int32)), (.int (nb.toInt8.toInt32)), w5, w6, w7, w8, w9] (.int (0 : Int32)) := f_V_d
        have f_S_java_lang_String_COMPACT_STRINGS := f_S_java_lang_String_COMPACT_STRINGS.wr W53
        have Zn := Nat.le_trans Zn (Keep.of_wr W53).1
        have hSn := Nat.le_trans hSn (Keep.of_wr W53).1
        have N53 := Fr.snoc X53 N51 ge_d
        refine own_iload X53 hx hby at_235 (pc' := 237) rfl rfl ?_
        refine own_iconst X53 hx hby at_237 (pc' := 238) rfl (n := (2 : Int32)) (by decide) ?_
        refine own_iadd X53 hx hby at_238 (pc' := 239) rfl ?_
        show own_End p e below _ (T53.setTop (mkF m 239 #[.val (.long p0), .second, .val (.int p1), .val (.int p2), .val (.ref d), .val (.int (3 : Int32)), .val (.int (0 : Int32)), .val (.int (0 : Int32)), .val (.int sk), .val (.int lt), .val (.int nb), .val (.int sp), .unset, .unset, .unset, .unset, .unset] [(.int (5 : Int32))]))
        refine own_istore X53 hx hby at_239 (pc' := 241) rfl (l' := #[.val (.long p0), .second, .val (.int p1), .val (.int p2), .val (.ref d), .val (.int (3 : Int32)), .val (.int (0 : Int32)), .val (.int (0 : Int32)), .val (.int sk), .val (.int lt), .val (.int nb), .val (.int sp), .val (.int (5 : Int32)), .unset, .unset, .unset, .unset]) rfl ?_
        refine own_iload X53 hx hby at_241 (pc' := 243) rfl rfl ?_
        refine own_ifY X53 hx hby at_243 (pc' := 259) (by decide) (by decide) (show (0 : Int32) = (0 : Int32) by decide) ?_
        refine own_iload X53 hx hby at_259 (pc' := 261) rfl rfl ?_
        refine own_ifY X53 hx hby at_261 (pc' := 289) (by decide) (by decide) (show (0 : Int32) = (0 : Int32) by decide) ?_
        refine own_aload X53 hx hby at_289 (pc' := 291) rfl rfl rfl ?_
        refine own_iload X53 hx hby at_291 (pc' := 293) rfl rfl ?_
        refine own_bipush X53 hx hby at_293 (pc' := 295) rfl (n := (62 : Int32)) (by decide) ?_
        obtain ⟨cl54, Ar54, q54, S54, M54, H54, G54⟩ := id f_V_d
        have hin54 : ¬ ((5 : Int32) < 0 ∨ cl54.slots.size ≤ ((5 : Int32)).toNatClampNeg) := inb_of S54 ⟨by decide, by decide⟩
        refine own_bastore X53 hx hZ hby e53 Ar54 hin54 at_295 (pc' := 296) rfl (fun T55 h55 X55 e55 W55 => ?_)
        have f_V_d := Arv.set Ar54 q54 S54 M54 H54 G54 (fits_nar_byte _) W55 5 rfl (Nat.le_of_ble_eq_true rfl)
        have f_V_d : Arv Z h55 d kk .byte (10 : Int32) [w0, w1, w2, (.int (60 : Int32)), (.int (nb.toInt8.toInt32)), (.int ((62 : Int32).toInt8.toInt32)), w6, w7, w8, w9] (.int (0 : Int32)) := f_V_d
        have f_V_d : Arv Z h55 d kk .byte (10 : Int32) [w0, w1, w2, (.int (60 : Int32)), (.int (nb.toInt8.toInt32)), (.int (62 : Int32)), w6, w7, w8, w9] (.int (0 : Int32)) := f_V_d
        have f_S_java_lang_String_COMPACT_STRINGS := f_S_java_lang_String_COMPACT_STRINGS.wr W55
        have Zn := Nat.le_trans Zn (Keep.of_wr W55).1
        have hSn := Nat.le_trans hSn (Keep.of_wr W55).1
        have N55 := Fr.snoc X55 N53 ge_d
        refine own_iload X55 hx hby at_296 (pc' := 298) rfl rfl ?_
        refine own_iconst X55 hx hby at_298 (pc' := 299) rfl (n := (1 : Int32)) (by decide) ?_
        refine own_iadd X55 hx hby at_299 (pc' := 300) rfl ?_
        show own_End p e below _ (T55.setTop (mkF m 300 #[.val (.long p0), .second, .val (.int p1), .val (.int p2), .val (.ref d), .val (.int (3 : Int32)), .val (.int (0 : Int32)), .val (.int (0 : Int32)), .val (.int sk), .val (.int lt), .val (.int nb), .val (.int sp), .val (.int (5 : Int32)), .unset, .unset, .unset, .unset] [(.int (6 : Int32))]))
        refine own_istore X55 hx hby at_300 (pc' := 302) rfl (l' := #[.val (.long p0), .second, .val (.int p1), .val (.int p2), .val (.ref d), .val (.int (3 : Int32)), .val (.int (0 : Int32)), .val (.int (0 : Int32)), .val (.int sk), .val (.int lt), .val (.int nb), .val (.int sp), .val (.int (5 : Int32)), .val (.int (6 : Int32)), .unset, .unset, .unset]) rfl ?_
        refine own_iload X55 hx hby at_302 (pc' := 304) rfl rfl ?_
        refine own_ifY X55 hx hby at_304 (pc' := 312) (by decide) (by decide) (show (0 : Int32) = (0 : Int32) by decide) ?_
        refine own_bipush X55 hx hby at_312 (pc' := 314) rfl (n := (10 : Int32)) (by decide) ?_
        refine own_istore X55 hx hby at_314 (pc' := 316) rfl (l' := #[.val (.long p0), .second, .val (.int p1), .val (.int p2), .val (.ref d), .val (.int (3 : Int32)), .val (.int (0 : Int32)), .val (.int (0 : Int32)), .val (.int sk), .val (.int lt), .val (.int nb), .val (.int sp), .val (.int (5 : Int32)), .val (.int (6 : Int32)), .val (.int (10 : Int32)), .unset, .unset]) rfl ?_
        refine own_new X55 hx hZ hby hown (wd_2 hw) (wd_3 hw) (wd_4 hw) e55 at_316 (pc' := 319) rfl (by decide) (by decide) (fun T56 h56 b56 g56 X56 e56 E56 A56 D56 => ?_)
        have ne_d_b56 : d ≠ b56 := Nat.ne_of_lt (by rw [g56]; exact f_V_d.lt)
        have ge_b56 : n0 ≤ b56 := by rw [g56]; exact Zn
        have f_V_d := f_V_d.ext E56
        have f_S_java_lang_String_COMPACT_STRINGS := f_S_java_lang_String_COMPACT_STRINGS.ext E56
        have Zn := Nat.le_trans Zn E56.1
        have hSn := Nat.le_trans hSn E56.1
        have f_O_b56 : own_ST Z h56 b56 (0 : Int32) (0 : Int32) (0 : Int32) (0 : Int32) .null .null .null .null := ⟨A56, D56 (Or.inr (wd_44 hw)) (ty := .int) (by decide), D56 (Or.inr (wd_46 hw)) (ty := .int) (by decide), D56 (Or.inr (wd_48 hw)) (ty := .int) (by decide), D56 (Or.inr (wd_50 hw)) (ty := .int) (by decide), D56 (Or.inr (wd_52 hw)) (ty := (.object "java/lang/String")) (by decide), D56 (Or.inr (wd_54 hw)) (ty := (.object "java/lang/String")) (by decide), D56 (Or.inr (wd_56 hw)) (ty := (.array .int)) (by decide), D56 (Or.inr (wd_58 hw)) (ty := (.object "java/util/Map")) (by decide)⟩
        refine own_dup X56 hx hby at_319 (pc' := 320) rfl rfl ?_
        refine own_iconst X56 hx hby at_320 (pc' := 321) rfl (n := (1 : Int32)) (by decide) ?_
        refine own_iload X56 hx hby at_321 (pc' := 323) rfl rfl ?_
        refine own_iload X56 hx hby at_323 (pc' := 325) rfl rfl ?_
        refine own_iconst X56 hx hby at_325 (pc' := 326) rfl (n := (2 : Int32)) (by decide) ?_
        refine own_iadd X56 hx hby at_326 (pc' := 327) rfl ?_
        show own_End p e below _ (T56.setTop (mkF m 327 #[.val (.long p0), .second, .val (.int p1), .val (.int p2), .val (.ref d), .val (.int (3 : Int32)), .val (.int (0 : Int32)), .val (.int (0 : Int32)), .val (.int sk), .val (.int lt), .val (.int nb), .val (.int sp), .val (.int (5 : Int32)), .val (.int (6 : Int32)), .val (.int (10 : Int32)), .unset, .unset] [(.int (5 : Int32)), (.int (3 : Int32)), (.int (1 : Int32)), (.ref b56), (.ref b56)]))
        refine own_iload X56 hx hby at_327 (pc' := 329) rfl rfl ?_
        obtain ⟨a57, T57, h57, k57, X57, e57, E57, hS, hSn, hZ, hown, st57⟩ := ldcS X56 hx hZ hown (wd_5 hw) (own_wS hw) e56 hS hSn (g := (mkF m 329 #[.val (.long p0), .second, .val (.int p1), .val (.int p2), .val (.ref d), .val (.int (3 : Int32)), .val (.int (0 : Int32)), .val (.int (0 : Int32)), .val (.int sk), .val (.int lt), .val (.int nb), .val (.int sp), .val (.int (5 : Int32)), .val (.int (6 : Int32)), .val (.int (10 : Int32)), .unset, .unset] [(.int (6 : Int32)), (.int (5 : Int32)), (.int (3 : Int32)), (.int (1 : Int32)), (.ref b56), (.ref b56)])) rfl (hb hby at_329) (n := 0) (by decide) (by decide) (by decide) (by decide)
        refine own_step st57 ?_
        have f_V_d := f_V_d.ext E57
        have f_S_java_lang_String_COMPACT_STRINGS := f_S_java_lang_String_COMPACT_STRINGS.ext E57
        have f_O_b56 := f_O_b56.ext E57
        have Zn := Nat.le_trans Zn E57.1
        show own_End p e below _ (T57.setTop (mkF m 331 #[.val (.long p0), .second, .val (.int p1), .val (.int p2), .val (.ref d), .val (.int (3 : Int32)), .val (.int (0 : Int32)), .val (.int (0 : Int32)), .val (.int sk), .val (.int lt), .val (.int nb), .val (.int sp), .val (.int (5 : Int32)), .val (.int (6 : Int32)), .val (.int (10 : Int32)), .unset, .unset] [(.ref a57), (.int (6 : Int32)), (.int (5 : Int32)), (.int (3 : Int32)), (.int (1 : Int32)), (.ref b56), (.ref b56)]))
        refine own_iload X57 hx hby at_331 (pc' := 333) rfl rfl ?_
        refine own_sipush X57 hx hby at_333 (pc' := 336) rfl (n := (255 : Int32)) (by decide) ?_
        refine own_iand X57 hx hby at_336 (pc' := 337) rfl ?_
        refine own_i2c X57 hx hby at_337 (pc' := 338) rfl ?_
        rw [i2c_mask]
        show own_End p e below _ (T57.setTop (mkF m 338 #[.val (.long p0), .second, .val (.int p1), .val (.int p2), .val (.ref d), .val (.int (3 : Int32)), .val (.int (0 : Int32)), .val (.int (0 : Int32)), .val (.int sk), .val (.int lt), .val (.int nb), .val (.int sp), .val (.int (5 : Int32)), .val (.int (6 : Int32)), .val (.int (10 : Int32)), .unset, .unset] [(.int (nb &&& (255 : Int32))), (.ref a57), (.int (6 : Int32)), (.int (5 : Int32)), (.int (3 : Int32)), (.int (1 : Int32)), (.ref b56), (.ref b56)]))
        refine own_lk5 hw X57 hx hZ hby (by rw [hml]; rfl) hown at_338 (pc' := 341) rfl e57 (W := 7) (Nat.le_of_eq rfl) (rm1 l Z a0 hw [] (nb &&& (255 : Int32)) cs h57 n0 Zn f_S_java_lang_String_COMPACT_STRINGS hcs (own_chr2 _)) (by decide) (by decide) (by decide) (by decide) (fun v59 T59 L59 X59 hQ59 => ?_)
        obtain ⟨w58, rfl, Nq59, K59, gw59⟩ := hQ59
        have N59 := Fr.app N55 Nq59
        have f_S_java_lang_String_COMPACT_STRINGS := own_sta0 f_S_java_lang_String_COMPACT_STRINGS K59
        have f_V_d := f_V_d.keep K59 nin0
        have f_O_b56 := f_O_b56.keep K59 nin0
        have Zn := Nat.le_trans Zn K59.1
        have hSn := Nat.le_trans hSn K59.1
        show own_End p e below _ (T59.setTop (mkF m 341 _ [(.ref w58), (.ref a57), (.int (6 : Int32)), (.int (5 : Int32)), (.int (3 : Int32)), (.int (1 : Int32)), (.ref b56), (.ref b56)]))
        refine own_iconst X59 hx hby at_341 (pc' := 342) rfl (n := (0 : Int32)) (by decide) ?_
        refine own_newP (aty := .int) X59 hx hZ hby (wd_33 hw) rfl at_342 (pc' := 344) rfl (by decide) (cap := 0) (by decide) (by decide) (by decide) (by decide) (fun T60 h60 k60 b60 g60 X60 e60 E60 A60 => ?_)
        have ne_d_b60 : d ≠ b60 := Nat.ne_of_lt (by rw [g60]; exact f_V_d.lt)
        have ne_b56_b60 : b56 ≠ b60 := Nat.ne_of_lt (by rw [g60]; exact f_O_b56.lt)
        have ge_b60 : n0 ≤ b60 := by rw [g60]; exact Zn
        have f_V_d := f_V_d.ext E60
        have f_S_java_lang_String_COMPACT_STRINGS := f_S_java_lang_String_COMPACT_STRINGS.ext E60
        have f_O_b56 := f_O_b56.ext E60
        have Zn := Nat.le_trans Zn E60.1
        have hSn := Nat.le_trans hSn E60.1
        have f_V_b60 : Arv Z h60 b60 k60 .int (0 : Int32) [] (.int (0 : Int32)) := Arv.new A60 (by decide)
        refine own_aconst_null X60 hx hby at_344 (pc' := 345) rfl ?_
        refine own_lk6 hw X60 hx hZ hby (by rw [hml]; rfl) hown at_345 (pc' := 348) rfl e60 (W := 1) (Nat.le_of_eq rfl) (rm6 l Z a0 hw [] b56 (1 : Int32) (3 : Int32) (5 : Int32) (6 : Int32) a57 w58 b60 h60 n0 Zn f_O_b56 ge_b56) (by decide) (by decide) (by decide) (by decide) (fun v61 T61 L61 X61 hQ61 => ?_)
        obtain ⟨rfl, Nq61, K61, O61⟩ := hQ61
        have N61 := Fr.app N59 Nq61
        have f_S_java_lang_String_COMPACT_STRINGS := own_sta1 f_S_java_lang_String_COMPACT_STRINGS K61 f_O_b56.1
        have f_V_d := f_V_d.keep K61 (ninS ne_d_b56 nin0)
        have f_V_b60 := f_V_b60.keep K61 (ninS (Ne.symm ne_b56_b60) nin0)
        have Zn := Nat.le_trans Zn K61.1
        have hSn := Nat.le_trans hSn K61.1
        show own_End p e below _ (T61.setTop (mkF m 348 _ [(.ref b56)]))
        refine own_astore X61 hx hby at_348 (pc' := 350) rfl rfl (l' := #[.val (.long p0), .second, .val (.int p1), .val (.int p2), .val (.ref d), .val (.int (3 : Int32)), .val (.int (0 : Int32)), .val (.int (0 : Int32)), .val (.int sk), .val (.int lt), .val (.int nb), .val (.int sp), .val (.int (5 : Int32)), .val (.int (6 : Int32)), .val (.int (10 : Int32)), .val (.ref b56), .unset]) rfl ?_
        refine own_new X61 hx hZ hby hown (wd_59 hw) (wd_60 hw) (wd_61 hw) rfl at_350 (pc' := 353) rfl (by decide) (by decide) (fun T62 h62 b62 g62 X62 e62 E62 A62 D62 => ?_)
        have ne_d_b62 : d ≠ b62 := Nat.ne_of_lt (by rw [g62]; exact f_V_d.lt)
        have ne_b60_b62 : b60 ≠ b62 := Nat.ne_of_lt (by rw [g62]; exact f_V_b60.lt)
        have ne_b56_b62 : b56 ≠ b62 := Nat.ne_of_lt (by rw [g62]; exact O61.lt)
        have ge_b62 : n0 ≤ b62 := by rw [g62]; exact Zn
        have f_V_d := f_V_d.ext E62
        have f_S_java_lang_String_COMPACT_STRINGS := f_S_java_lang_String_COMPACT_STRINGS.ext E62
        have f_V_b60 := f_V_b60.ext E62
        have O61 := O61.ext E62
        have Zn := Nat.le_trans Zn E62.1
        have hSn := Nat.le_trans hSn E62.1
        have f_O_b62 : own_XS Z h62 b62 .null .null (0 : Int32) .null .null := ⟨A62, D62 (Or.inr (wd_67 hw)) (ty := (.array .byte)) (by decide), D62 (Or.inr (wd_69 hw)) (ty := (.object "com/example/halyard/halyard/base/XmlScan$StartTag")) (by decide), D62 (Or.inr (wd_71 hw)) (ty := .int) (by decide), D62 (Or.inr (wd_73 hw)) (ty := (.object "java/util/List")) (by decide), D62 (Or.inr (wd_75 hw)) (ty := (.array .int)) (by decide)⟩
        refine own_dup X62 hx hby at_353 (pc' := 354) rfl rfl ?_
        refine own_aload X62 hx hby at_354 (pc' := 356) rfl rfl rfl ?_
        refine own_aload X62 hx hby at_356 (pc' := 358) rfl rfl rfl ?_
        refine own_iload X62 hx hby at_358 (pc' := 360) rfl rfl ?_
        refine own_aconst_null X62 hx hby at_360 (pc' := 361) rfl ?_
        refine own_iconst X62 hx hby at_361 (pc' := 362) rfl (n := (0 : Int32)) (by decide) ?_
        refine own_newP (aty := .int) X62 hx hZ hby (wd_33 hw) e62 at_362 (pc' := 364) rfl (by decide) (cap := 0) (by decide) (by decide) (by decide) (by decide) (fun T63 h63 k63 b63 g63 X63 e63 E63 A63 => ?_)
        have ne_d_b63 : d ≠ b63 := Nat.ne_of_lt (by rw [g63]; exact f_V_d.lt)
        have ne_b60_b63 : b60 ≠ b63 := Nat.ne_of_lt (by rw [g63]; exact f_V_b60.lt)
        have ne_b56_b63 : b56 ≠ b63 := Nat.ne_of_lt (by rw [g63]; exact O61.lt)
        have ne_b62_b63 : b62 ≠ b63 := Nat.ne_of_lt (by rw [g63]; exact f_O_b62.lt)
        have ge_b63 : n0 ≤ b63 := by rw [g63]; exact Zn
        have f_V_d := f_V_d.ext E63
        have f_S_java_lang_String_COMPACT_STRINGS := f_S_java_lang_String_COMPACT_STRINGS.ext E63
        have f_V_b60 := f_V_b60.ext E63
        have O61 := O61.ext E63
        have f_O_b62 := f_O_b62.ext E63
        have Zn := Nat.le_trans Zn E63.1
        have hSn := Nat.le_trans hSn E63.1
        have f_V_b63 : Arv Z h63 b63 k63 .int (0 : Int32) [] (.int (0 : Int32)) := Arv.new A63 (by decide)
        refine own_lk7 hw X63 hx hZ hby (by rw [hml]; rfl) hown at_364 (pc' := 367) rfl e63 (W := 1) (Nat.le_of_eq rfl) (rm8 l Z a0 hw [] b62 d b56 (10 : Int32) b63 h63 n0 Zn f_O_b62 ge_b62) (by decide) (by decide) (by decide) (by decide) (fun v64 T64 L64 X64 hQ64 => ?_)
        obtain ⟨rfl, Nq64, K64, O64⟩ := hQ64
        have N64 := Fr.app N61 Nq64
        have f_S_java_lang_String_COMPACT_STRINGS := own_sta1 f_S_java_lang_String_COMPACT_STRINGS K64 f_O_b62.1
        have f_V_d := f_V_d.keep K64 (ninS ne_d_b62 nin0)
        have f_V_b60 := f_V_b60.keep K64 (ninS ne_b60_b62 nin0)
        have O61 := O61.keep K64 (ninS ne_b56_b62 nin0)
        have f_V_b63 := f_V_b63.keep K64 (ninS (Ne.symm ne_b62_b63) nin0)
        have Zn := Nat.le_trans Zn K64.1
        have hSn := Nat.le_trans hSn K64.1
        show own_End p e below _ (T64.setTop (mkF m 367 _ [(.ref b62)]))
        refine own_astore X64 hx hby at_367 (pc' := 369) rfl rfl (l' := #[.val (.long p0), .second, .val (.int p1), .val (.int p2), .val (.ref d), .val (.int (3 : Int32)), .val (.int (0 : Int32)), .val (.int (0 : Int32)), .val (.int sk), .val (.int lt), .val (.int nb), .val (.int sp), .val (.int (5 : Int32)), .val (.int (6 : Int32)), .val (.int (10 : Int32)), .val (.ref b56), .val (.ref b62)]) rfl ?_
        refine own_aload X64 hx hby at_369 (pc' := 371) rfl rfl rfl ?_
        refine own_lk8 hw X64 hx hZ hby (by rw [hml]; rfl) hown at_371 (pc' := 374) rfl rfl O64.1 (W := 0) (Nat.le_of_eq rfl) (rm9b l Z a0 hw [] b62 d b56 (10 : Int32) .null rfl (.ref b63) rfl (1 : Int32) (3 : Int32) (5 : Int32) (6 : Int32) (.ref a57) rfl (.ref w58) rfl (.ref b60) rfl .null rfl kk (10 : Int32) [w0, w1, w2, (.int (60 : Int32)), (.int (nb.toInt8.toInt32)), (.int (62 : Int32)), w6, w7, w8, w9] (nb.toInt8.toInt32) T64.heap n0 Zn O64 O61 f_V_d (by decide) rfl hnb) (by decide) (by decide) (by decide) (by decide) (fun v65 T65 L65 X65 hQ65 => ?_)
        obtain ⟨rfl, Nq65, e65⟩ := hQ65
        have N65 := Fr.app N64 Nq65
        show own_End p e below _ (T65.setTop (mkF m 374 _ [(.int (5 : Int32))]))
        refine own_iload X65 hx hby at_374 (pc' := 376) rfl rfl ?_
        refine own_icN X65 hx hby at_376 (pc' := 379) rfl (show (5 : Int32) = (5 : Int32) by decide) ?_
        refine own_iconst X65 hx hby at_379 (pc' := 380) rfl (n := (1 : Int32)) (by decide) ?_
        refine own_goto X65 hx hby at_380 (pc' := 384) (by decide) (by decide) ?_
        refine own_zreturn X65 hx hlk hby hret (Or.inr rfl) at_384 (own_lvS hS (by rw [e65]; exact hSn) ?_ (by decide) (by decide))
        show Q0 Z p0 p1 p2 cs  h0 n0 (some (.int (1 : Int32))) T65.heap _
        rw [e65]
        exact ⟨rfl, N65⟩
    · rcases own_and3 p2 with hs66 | hs66 | hs66 | hs66
      · rw [hs66]
        show own_End p e below _ (T0.setTop (mkF m 221 #[.val (.long p0), .second, .val (.int p1), .val (.int p2), .val (.ref d), .val (.int (0 : Int32)), .val (.int (0 : Int32)), .val (.int (1 : Int32)), .val (.int sk), .val (.int lt), .val (.int nb), .val (.int sp), .unset, .unset, .unset, .unset, .unset] [(.ref d)]))
        refine own_iload X0 hx hby at_221 (pc' := 223) rfl rfl ?_
        refine own_bipush X0 hx hby at_223 (pc' := 225) rfl (n := (60 : Int32)) (by decide) ?_
        obtain ⟨cl67, Ar67, q67, S67, M67, H67, G67⟩ := id f_V_d
        have hin67 : ¬ ((0 : Int32) < 0 ∨ cl67.slots.size ≤ ((0 : Int32)).toNatClampNeg) := inb_of S67 ⟨by decide, by decide⟩
        refine own_bastore X0 hx hZ hby e1 Ar67 hin67 at_225 (pc' := 226) rfl (fun T68 h68 X68 e68 W68 => ?_)
        have f_V_d := Arv.set Ar67 q67 S67 M67 H67 G67 (fits_nar_byte _) W68 0 rfl (Nat.le_of_ble_eq_true rfl)
        have f_V_d : Arv Z h68 d kk .byte (10 : Int32) [(.int ((60 : Int32).toInt8.toInt32)), w1, w2, w3, w4, w5, w6, w7, w8, w9] (.int (0 : Int32)) := f_V_d
        have f_V_d : Arv Z h68 d kk .byte (10 : Int32) [(.int (60 : Int32)), w1, w2, w3, w4, w5, w6, w7, w8, w9] (.int (0 : Int32)) := f_V_d
        have f_S_java_lang_String_COMPACT_STRINGS := f_S_java_lang_String_COMPACT_STRINGS.wr W68
        have Zn := Nat.le_trans Z1 (Keep.of_wr W68).1
        have hSn := Nat.le_trans hSn (Keep.of_wr W68).1
        have N68 := Fr.snoc X68 N0 ge_d
        refine own_aload X68 hx hby at_226 (pc' := 228) rfl rfl rfl ?_
        refine own_iload X68 hx hby at_228 (pc' := 230) rfl rfl ?_
        refine own_iconst X68 hx hby at_230 (pc' := 231) rfl (n := (1 : Int32)) (by decide) ?_
        refine own_iadd X68 hx hby at_231 (pc' := 232) rfl ?_
        show own_End p e below _ (T68.setTop (mkF m 232 #[.val (.long p0), .second, .val (.int p1), .val (.int p2), .val (.ref d), .val (.int (0 : Int32)), .val (.int (0 : Int32)), .val (.int (1 : Int32)), .val (.int sk), .val (.int lt), .val (.int nb), .val (.int sp), .unset, .unset, .unset, .unset, .unset] [(.int (1 : Int32)), (.ref d)]))
        refine own_iload X68 hx hby at_232 (pc' := 234) rfl rfl ?_
        obtain ⟨cl69, Ar69, q69, S69, M69, H69, G69⟩ := id f_V_d
        have hin69 : ¬ ((1 : Int32) < 0 ∨ cl69.slots.size ≤ ((1 : Int32)).toNatClampNeg) := inb_of S69 ⟨by decide, by decide⟩
        refine own_bastore X68 hx hZ hby e68 Ar69 hin69 at_234 (pc' := 235) rfl (fun T70 h70 X70 e70 W70 => ?_)
        have f_V_d := Arv.set Ar69 q69 S69 M69 H69 G69 (fits_nar_byte _) W70 1 rfl (Nat.le_of_ble_eq_true rfl)
        have f_V_d : Arv Z h70 d kk .byte (10 : Int32) [(.int (60 : Int32)), (.int (nb.toInt8.toInt32)), w2, w3, w4, w5, w6, w7, w8, w9] (.int (0 : Int32)) := f_V_d
        have f_S_java_lang_String_COMPACT_STRINGS := f_S_java_lang_String_COMPACT_STRINGS.wr W70
        have Zn := Nat.le_trans Zn (Keep.of_wr W70).1
        have hSn := Nat.le_trans hSn (Keep.of_wr W70).1
        have N70 := Fr.snoc X70 N68 ge_d
        refine own_iload X70 hx hby at_235 (pc' := 237) rfl rfl ?_
        refine own_iconst X70 hx hby at_237 (pc' := 238) rfl (n := (2 : Int32)) (by decide) ?_
        refine own_iadd X70 hx hby at_238 (pc' := 239) rfl ?_
        show own_End p e below _ (T70.setTop (mkF m 239 #[.val (.long p0), .second, .val (.int p1), .val (.int p2), .val (.ref d), .val (.int (0 : Int32)), .val (.int (0 : Int32)), .val (.int (1 : Int32)), .val (.int sk), .val (.int lt), .val (.int nb), .val (.int sp), .unset, .unset, .unset, .unset, .unset] [(.int (2 : Int32))]))
        refine own_istore X70 hx hby at_239 (pc' := 241) rfl (l' := #[.val (.long p0), .second, .val (.int p1), .val (.int p2), .val (.ref d), .val (.int (0 : Int32)), .val (.int (0 : Int32)), .val (.int (1 : Int32)), .val (.int sk), .val (.int lt), .val (.int nb), .val (.int sp), .val (.int (2 : Int32)), .unset, .unset, .unset, .unset]) rfl ?_
        refine own_iload X70 hx hby at_241 (pc' := 243) rfl rfl ?_
        refine own_ifN X70 hx hby at_243 (pc' := 246) rfl (show ¬ (1 : Int32) = (0 : Int32) by decide) ?_
        refine own_aload X70 hx hby at_246 (pc' := 248) rfl rfl rfl ?_
        refine own_iload X70 hx hby at_248 (pc' := 250) rfl rfl ?_
        refine own_iload X70 hx hby at_250 (pc' := 252) rfl rfl ?_
        obtain ⟨cl71, Ar71, q71, S71, M71, H71, G71⟩ := id f_V_d
        have hin71 : ¬ ((2 : Int32) < 0 ∨ cl71.slots.size ≤ ((2 : Int32)).toNatClampNeg) := inb_of S71 ⟨by decide, by decide⟩
        refine own_bastore X70 hx hZ hby e70 Ar71 hin71 at_252 (pc' := 253) rfl (fun T72 h72 X72 e72 W72 => ?_)
        have f_V_d := Arv.set Ar71 q71 S71 M71 H71 G71 (fits_nar_byte _) W72 2 rfl (Nat.le_of_ble_eq_true rfl)
        have f_V_d : Arv Z h72 d kk .byte (10 : Int32) [(.int (60 : Int32)), (.int (nb.toInt8.toInt32)), (.int (sp.toInt8.toInt32)), w3, w4, w5, w6, w7, w8, w9] (.int (0 : Int32)) := f_V_d
        have f_S_java_lang_String_COMPACT_STRINGS := f_S_java_lang_String_COMPACT_STRINGS.wr W72
        have Zn := Nat.le_trans Zn (Keep.of_wr W72).1
        have hSn := Nat.le_trans hSn (Keep.of_wr W72).1
        have N72 := Fr.snoc X72 N70 ge_d
        refine own_iload X72 hx hby at_253 (pc' := 255) rfl rfl ?_
        refine own_iconst X72 hx hby at_255 (pc' := 256) rfl (n := (1 : Int32)) (by decide) ?_
        refine own_iadd X72 hx hby at_256 (pc' := 257) rfl ?_
        show own_End p e below _ (T72.setTop (mkF m 257 #[.val (.long p0), .second, .val (.int p1), .val (.int p2), .val (.ref d), .val (.int (0 : Int32)), .val (.int (0 : Int32)), .val (.int (1 : Int32)), .val (.int sk), .val (.int lt), .val (.int nb), .val (.int sp), .val (.int (2 : Int32)), .unset, .unset, .unset, .unset] [(.int (3 : Int32))]))
        refine own_istore X72 hx hby at_257 (pc' := 259) rfl (l' := #[.val (.long p0), .second, .val (.int p1), .val (.int p2), .val (.ref d), .val (.int (0 : Int32)), .val (.int (0 : Int32)), .val (.int (1 : Int32)), .val (.int sk), .val (.int lt), .val (.int nb), .val (.int sp), .val (.int (3 : Int32)), .unset, .unset, .unset, .unset]) rfl ?_
        refine own_iload X72 hx hby at_259 (pc' := 261) rfl rfl ?_
        refine own_ifY X72 hx hby at_261 (pc' := 289) (by decide) (by decide) (show (0 : Int32) = (0 : Int32) by decide) ?_
        refine own_aload X72 hx hby at_289 (pc' := 291) rfl rfl rfl ?_
        refine own_iload X72 hx hby at_291 (pc' := 293) rfl rfl ?_
        refine own_bipush X72 hx hby at_293 (pc' := 295) rfl (n := (62 : Int32)) (by decide) ?_
        obtain ⟨cl73, Ar73, q73, S73, M73, H73, G73⟩ := id f_V_d
        have hin73 : ¬ ((3 : Int32) < 0 ∨ cl73.slots.size ≤ ((3 : Int32)).toNatClampNeg) := inb_of S73 ⟨by decide, by decide⟩
        refine own_bastore X72 hx hZ hby e72 Ar73 hin73 at_295 (pc' := 296) rfl (fun T74 h74 X74 e74 W74 => ?_)
        have f_V_d := Arv.set Ar73 q73 S73 M73 H73 G73 (fits_nar_byte _) W74 3 rfl (Nat.le_of_ble_eq_true rfl)
        have f_V_d : Arv Z h74 d kk .byte (10 : Int32) [(.int (60 : Int32)), (.int (nb.toInt8.toInt32)), (.int (sp.toInt8.toInt32)), (.int ((62 : Int32).toInt8.toInt32)), w4, w5, w6, w7, w8, w9] (.int (0 : Int32)) := f_V_d
        have f_V_d : Arv Z h74 d kk .byte (10 : Int32) [(.int (60 : Int32)), (.int (nb.toInt8.toInt32)), (.int (sp.toInt8.toInt32)), (.int (62 : Int32)), w4, w5, w6, w7, w8, w9] (.int (0 : Int32)) := f_V_d
        have f_S_java_lang_String_COMPACT_STRINGS := f_S_java_lang_String_COMPACT_STRINGS.wr W74
        have Zn := Nat.le_trans Zn (Keep.of_wr W74).1
        have hSn := Nat.le_trans hSn (Keep.of_wr W74).1
        have N74 := Fr.snoc X74 N72 ge_d
        refine own_iload X74 hx hby at_296 (pc' := 298) rfl rfl ?_
        refine own_iconst X74 hx hby at_298 (pc' := 299) rfl (n := (1 : Int32)) (by decide) ?_
        refine own_iadd X74 hx hby at_299 (pc' := 300) rfl ?_
        show own_End p e below _ (T74.setTop (mkF m 300 #[.val (.long p0), .second, .val (.int p1), .val (.int p2), .val (.ref d), .val (.int (0 : Int32)), .val (.int (0 : Int32)), .val (.int (1 : Int32)), .val (.int sk), .val (.int lt), .val (.int nb), .val (.int sp), .val (.int (3 : Int32)), .unset, .unset, .unset, .unset] [(.int (4 : Int32))]))
        refine own_istore X74 hx hby at_300 (pc' := 302) rfl (l' := #[.val (.long p0), .second, .val (.int p1), .val (.int p2), .val (.ref d), .val (.int (0 : Int32)), .val (.int (0 : Int32)), .val (.int (1 : Int32)), .val (.int sk), .val (.int lt), .val (.int nb), .val (.int sp), .val (.int (3 : Int32)), .val (.int (4 : Int32)), .unset, .unset, .unset]) rfl ?_
        refine own_iload X74 hx hby at_302 (pc' := 304) rfl rfl ?_
        refine own_ifY X74 hx hby at_304 (pc' := 312) (by decide) (by decide) (show (0 : Int32) = (0 : Int32) by decide) ?_
        refine own_bipush X74 hx hby at_312 (pc' := 314) rfl (n := (10 : Int32)) (by decide) ?_
        refine own_istore X74 hx hby at_314 (pc' := 316) rfl (l' := #[.val (.long p0), .second, .val (.int p1), .val (.int p2), .val (.ref d), .val (.int (0 : Int32)), .val (.int (0 : Int32)), .val (.int (1 : Int32)), .val (.int sk), .val (.int lt), .val (.int nb), .val (.int sp), .val (.int (3 : Int32)), .val (.int (4 : Int32)), .val (.int (10 : Int32)), .unset, .unset]) rfl ?_
        refine own_new X74 hx hZ hby hown (wd_2 hw) (wd_3 hw) (wd_4 hw) e74 at_316 (pc' := 319) rfl (by decide) (by decide) (fun T75 h75 b75 g75 X75 e75 E75 A75 D75 => ?_)
        have ne_d_b75 : d ≠ b75 := Nat.ne_of_lt (by rw [g75]; exact f_V_d.lt)
        have ge_b75 : n0 ≤ b75 := by rw [g75]; exact Zn
        have f_V_d := f_V_d.ext E75
        have f_S_java_lang_String_COMPACT_STRINGS := f_S_java_lang_String_COMPACT_STRINGS.ext E75
        have Zn := Nat.le_trans Zn E75.1
        have hSn := Nat.le_trans hSn E75.1
        have f_O_b75 : own_ST Z h75 b75 (0 : Int32) (0 : Int32) (0 : Int32) (0 : Int32) .null .null .null .null := ⟨A75, D75 (Or.inr (wd_44 hw)) (ty := .int) (by decide), D75 (Or.inr (wd_46 hw)) (ty := .int) (by decide), D75 (Or.inr (wd_48 hw)) (ty := .int) (by decide), D75 (Or.inr (wd_50 hw)) (ty := .int) (by decide), D75 (Or.inr (wd_52 hw)) (ty := (.object "java/lang/String")) (by decide), D75 (Or.inr (wd_54 hw)) (ty := (.object "java/lang/String")) (by decide), D75 (Or.inr (wd_56 hw)) (ty := (.array .int)) (by decide), D75 (Or.inr (wd_58 hw)) (ty := (.object "java/util/Map")) (by decide)⟩
        refine own_dup X75 hx hby at_319 (pc' := 320) rfl rfl ?_
        refine own_iconst X75 hx hby at_320 (pc' := 321) rfl (n := (1 : Int32)) (by decide) ?_
        refine own_iload X75 hx hby at_321 (pc' := 323) rfl rfl ?_
        refine own_iload X75 hx hby at_323 (pc' := 325) rfl rfl ?_
        refine own_iconst X75 hx hby at_325 (pc' := 326) rfl (n := (2 : Int32)) (by decide) ?_
        refine own_iadd X75 hx hby at_326 (pc' := 327) rfl ?_
        show own_End p e below _ (T75.setTop (mkF m 327 #[.val (.long p0), .second, .val (.int p1), .val (.int p2), .val (.ref d), .val (.int (0 : Int32)), .val (.int (0 : Int32)), .val (.int (1 : Int32)), .val (.int sk), .val (.int lt), .val (.int nb), .val (.int sp), .val (.int (3 : Int32)), .val (.int (4 : Int32)), .val (.int (10 : Int32)), .unset, .unset] [(.int (2 : Int32)), (.int (0 : Int32)), (.int (1 : Int32)), (.ref b75), (.ref b75)]))
        refine own_iload X75 hx hby at_327 (pc' := 329) rfl rfl ?_
        obtain ⟨a76, T76, h76, k76, X76, e76, E76, hS, hSn, hZ, hown, st76⟩ := ldcS X75 hx hZ hown (wd_5 hw) (own_wS hw) e75 hS hSn (g := (mkF m 329 #[.val (.long p0), .second, .val (.int p1), .val (.int p2), .val (.ref d), .val (.int (0 : Int32)), .val (.int (0 : Int32)), .val (.int (1 : Int32)), .val (.int sk), .val (.int lt), .val (.int nb), .val (.int sp), .val (.int (3 : Int32)), .val (.int (4 : Int32)), .val (.int (10 : Int32)), .unset, .unset] [(.int (4 : Int32)), (.int (2 : Int32)), (.int (0 : Int32)), (.int (1 : Int32)), (.ref b75), (.ref b75)])) rfl (hb hby at_329) (n := 0) (by decide) (by decide) (by decide) (by decide)
        refine own_step st76 ?_
        have f_V_d := f_V_d.ext E76
        have f_S_java_lang_String_COMPACT_STRINGS := f_S_java_lang_String_COMPACT_STRINGS.ext E76
        have f_O_b75 := f_O_b75.ext E76
        have Zn := Nat.le_trans Zn E76.1
        show own_End p e below _ (T76.setTop (mkF m 331 #[.val (.long p0), .second, .val (.int p1), .val (.int p2), .val (.ref d), .val (.int (0 : Int32)), .val (.int (0 : Int32)), .val (.int (1 : Int32)), .val (.int sk), .val (.int lt), .val (.int nb), .val (.int sp), .val (.int (3 : Int32)), .val (.int (4 : Int32)), .val (.int (10 : Int32)), .unset, .unset] [(.ref a76), (.int (4 : Int32)), (.int (2 : Int32)), (.int (0 : Int32)), (.int (1 : Int32)), (.ref b75), (.ref b75)]))
        refine own_iload X76 hx hby at_331 (pc' := 333) rfl rfl ?_
        refine own_sipush X76 hx hby at_333 (pc' := 336) rfl (n := (255 : Int32)) (by decide) ?_
        refine own_iand X76 hx hby at_336 (pc' := 337) rfl ?_
        refine own_i2c X76 hx hby at_337 (pc' := 338) rfl ?_
        rw [i2c_mask]
        show own_End p e below _ (T76.setTop (mkF m 338 #[.val (.long p0), .second, .val (.int p1), .val (.int p2), .val (.ref d), .val (.int (0 : Int32)), .val (.int (0 : Int32)), .val (.int (1 : Int32)), .val (.int sk), .val (.int lt), .val (.int nb), .val (.int sp), .val (.int (3 : Int32)), .val (.int (4 : Int32)), .val (.int (10 : Int32)), .unset, .unset] [(.int (nb &&& (255 : Int32))), (.ref a76), (.int (4 : Int32)), (.int (2 : Int32)), (.int (0 : Int32)), (.int (1 : Int32)), (.ref b75), (.ref b75)]))
        refine own_lk5 hw X76 hx hZ hby (by rw [hml]; rfl) hown at_338 (pc' := 341) rfl e76 (W := 7) (Nat.le_of_eq rfl) (rm1 l Z a0 hw [] (nb &&& (255 : Int32)) cs h76 n0 Zn f_S_java_lang_String_COMPACT_STRINGS hcs (own_chr2 _)) (by decide) (by decide) (by decide) (by decide) (fun v78 T78 L78 X78 hQ78 => ?_)
        obtain ⟨w77, rfl, Nq78, K78, gw78⟩ := hQ78
        have N78 := Fr.app N74 Nq78
        have f_S_java_lang_String_COMPACT_STRINGS := own_sta0 f_S_java_lang_String_COMPACT_STRINGS K78
        have f_V_d := f_V_d.keep K78 nin0
        have f_O_b75 := f_O_b75.keep K78 nin0
        have Zn := Nat.le_trans Zn K78.1
        have hSn := Nat.le_trans hSn K78.1
        show own_End p e below _ (T78.setTop (mkF m 341 _ [(.ref w77), (.ref a76), (.int (4 : Int32)), (.int (2 : Int32)), (.int (0 : Int32)), (.int (1 : Int32)), (.ref b75), (.ref b75)]))
        refine own_iconst X78 hx hby at_341 (pc' := 342) rfl (n := (0 : Int32)) (by decide) ?_
        refine own_newP (aty := .int) X78 hx hZ hby (wd_33 hw) rfl at_342 (pc' := 344) rfl (by decide) (cap := 0) (by decide) (by decide) (by decide) (by decide) (fun T79 h79 k79 b79 g79 X79 e79 E79 A79 => ?_)
        have ne_d_b79 : d ≠ b79 := Nat.ne_of_lt (by rw [g79]; exact f_V_d.lt)
        have ne_b75_b79 : b75 ≠ b79 := Nat.ne_of_lt (by rw [g79]; exact f_O_b75.lt)
        have ge_b79 : n0 ≤ b79 := by rw [g79]; exact Zn
        have f_V_d := f_V_d.ext E79
        have f_S_java_lang_String_COMPACT_STRINGS := f_S_java_lang_String_COMPACT_STRINGS.ext E79
        have f_O_b75 := f_O_b75.ext E79
        have Zn := Nat.le_trans Zn E79.1
        have hSn := Nat.le_trans hSn E79.1
        have f_V_b79 : Arv Z h79 b79 k79 .int (0 : Int32) [] (.int (0 : Int32)) := Arv.new A79 (by decide)
        refine own_aconst_null X79 hx hby at_344 (pc' := 345) rfl ?_
        refine own_lk6 hw X79 hx hZ hby (by rw [hml]; rfl) hown at_345 (pc' := 348) rfl e79 (W := 1) (Nat.le_of_eq rfl) (rm6 l Z a0 hw [] b75 (1 : Int32) (0 : Int32) (2 : Int32) (4 : Int32) a76 w77 b79 h79 n0 Zn f_O_b75 ge_b75) (by decide) (by decide) (by decide) (by decide) (fun v80 T80 L80 X80 hQ80 => ?_)
        obtain ⟨rfl, Nq80, K80, O80⟩ := hQ80
        have N80 := Fr.app N78 Nq80
        have f_S_java_lang_String_COMPACT_STRINGS := own_sta1 f_S_java_lang_String_COMPACT_STRINGS K80 f_O_b75.1
        have f_V_d := f_V_d.keep K80 (ninS ne_d_b75 nin0)
        have f_V_b79 := f_V_b79.keep K80 (ninS (Ne.symm ne_b75_b79) nin0)
        have Zn := Nat.le_trans Zn K80.1
        have hSn := Nat.le_trans hSn K80.1
        show own_End p e below _ (T80.setTop (mkF m 348 _ [(.ref b75)]))
        refine own_astore X80 hx hby at_348 (pc' := 350) rfl rfl (l' := #[.val (.long p0), .second, .val (.int p1), .val (.int p2), .val (.ref d), .val (.int (0 : Int32)), .val (.int (0 : Int32)), .val (.int (1 : Int32)), .val (.int sk), .val (.int lt), .val (.int nb), .val (.int sp), .val (.int (3 : Int32)), .val (.int (4 : Int32)), .val (.int (10 : Int32)), .val (.ref b75), .unset]) rfl ?_
        refine own_new X80 hx hZ hby hown (wd_59 hw) (wd_60 hw) (wd_61 hw) rfl at_350 (pc' := 353) rfl (by decide) (by decide) (fun T81 h81 b81 g81 X81 e81 E81 A81 D81 => ?_)
        have ne_d_b81 : d ≠ b81 := Nat.ne_of_lt (by rw [g81]; exact f_V_d.lt)
        have ne_b79_b81 : b79 ≠ b81 := Nat.ne_of_lt (by rw [g81]; exact f_V_b79.lt)
        have ne_b75_b81 : b75 ≠ b81 := Nat.ne_of_lt (by rw [g81]; exact O80.lt)
        have ge_b81 : n0 ≤ b81 := by rw [g81]; exact Zn
        have f_V_d := f_V_d.ext E81
        have f_S_java_lang_String_COMPACT_STRINGS := f_S_java_lang_String_COMPACT_STRINGS.ext E81
        have f_V_b79 := f_V_b79.ext E81
        have O80 := O80.ext E81
        have Zn := Nat.le_trans Zn E81.1
        have hSn := Nat.le_trans hSn E81.1
        have f_O_b81 : own_XS Z h81 b81 .null .null (0 : Int32) .null .null := ⟨A81, D81 (Or.inr (wd_67 hw)) (ty := (.array .byte)) (by decide), D81 (Or.inr (wd_69 hw)) (ty := (.object "com/example/halyard/halyard/base/XmlScan$StartTag")) (by decide), D81 (Or.inr (wd_71 hw)) (ty := .int) (by decide), D81 (Or.inr (wd_73 hw)) (ty := (.object "java/util/List")) (by decide), D81 (Or.inr (wd_75 hw)) (ty := (.array .int)) (by decide)⟩
        refine own_dup X81 hx hby at_353 (pc' := 354) rfl rfl ?_
        refine own_aload X81 hx hby at_354 (pc' := 356) rfl rfl rfl ?_
        refine own_aload X81 hx hby at_356 (pc' := 358) rfl rfl rfl ?_
        refine own_iload X81 hx hby at_358 (pc' := 360) rfl rfl ?_
        refine own_aconst_null X81 hx hby at_360 (pc' := 361) rfl ?_
        refine own_iconst X81 hx hby at_361 (pc' := 362) rfl (n := (0 : Int32)) (by decide) ?_
        refine own_newP (aty := .int) X81 hx hZ hby (wd_33 hw) e81 at_362 (pc' := 364) rfl (by decide) (cap := 0) (by decide) (by decide) (by decide) (by decide) (fun T82 h82 k82 b82 g82 X82 e82 E82 A82 => ?_)
        have ne_d_b82 : d ≠ b82 := Nat.ne_of_lt (by rw [g82]; exact f_V_d.lt)
        have ne_b79_b82 : b79 ≠ b82 := Nat.ne_of_lt (by rw [g82]; exact f_V_b79.lt)
        have ne_b75_b82 : b75 ≠ b82 := Nat.ne_of_lt (by rw [g82]; exact O80.lt)
        have ne_b81_b82 : b81 ≠ b82 := Nat.ne_of_lt (by rw [g82]; exact f_O_b81.lt)
        have ge_b82 : n0 ≤ b82 := by rw [g82]; exact Zn
        have f_V_d := f_V_d.ext E82
        have f_S_java_lang_String_COMPACT_STRINGS := f_S_java_lang_String_COMPACT_STRINGS.ext E82
        have f_V_b79 := f_V_b79.ext E82
        have O80 := O80.ext E82
        have f_O_b81 := f_O_b81.ext E82
        have Zn := Nat.le_trans Zn E82.1
        have hSn := Nat.le_trans hSn E82.1
        have f_V_b82 : Arv Z h82 b82 k82 .int (0 : Int32) [] (.int (0 : Int32)) := Arv.new A82 (by decide)
        refine own_lk7 hw X82 hx hZ hby (by rw [hml]; rfl) hown at_364 (pc' := 367) rfl e82 (W := 1) (Nat.le_of_eq rfl) (rm8 l Z a0 hw [] b81 d b75 (10 : Int32) b82 h82 n0 Zn f_O_b81 ge_b81) (by decide) (by decide) (by decide) (by decide) (fun v83 T83 L83 X83 hQ83 => ?_)
        obtain ⟨rfl, Nq83, K83, O83⟩ := hQ83
        have N83 := Fr.app N80 Nq83
        have f_S_java_lang_String_COMPACT_STRINGS := own_sta1 f_S_java_lang_String_COMPACT_STRINGS K83 f_O_b81.1
        have f_V_d := f_V_d.keep K83 (ninS ne_d_b81 nin0)
        have f_V_b79 := f_V_b79.keep K83 (ninS ne_b79_b81 nin0)
        have O80 := O80.keep K83 (ninS ne_b75_b81 nin0)
        have f_V_b82 := f_V_b82.keep K83 (ninS (Ne.symm ne_b81_b82) nin0)
        have Zn := Nat.le_trans Zn K83.1
        have hSn := Nat.le_trans hSn K83.1
        show own_End p e below _ (T83.setTop (mkF m 367 _ [(.ref b81)]))
        refine own_astore X83 hx hby at_367 (pc' := 369) rfl rfl (l' := #[.val (.long p0), .second, .val (.int p1), .val (.int p2), .val (.ref d), .val (.int (0 : Int32)), .val (.int (0 : Int32)), .val (.int (1 : Int32)), .val (.int sk), .val (.int lt), .val (.int nb), .val (.int sp), .val (.int (3 : Int32)), .val (.int (4 : Int32)), .val (.int (10 : Int32)), .val (.ref b75), .val (.ref b81)]) rfl ?_
        refine own_aload X83 hx hby at_369 (pc' := 371) rfl rfl rfl ?_
        refine own_lk8 hw X83 hx hZ hby (by rw [hml]; rfl) hown at_371 (pc' := 374) rfl rfl O83.1 (W := 0) (Nat.le_of_eq rfl) (rm9b l Z a0 hw [] b81 d b75 (10 : Int32) .null rfl (.ref b82) rfl (1 : Int32) (0 : Int32) (2 : Int32) (4 : Int32) (.ref a76) rfl (.ref w77) rfl (.ref b79) rfl .null rfl kk (10 : Int32) [(.int (60 : Int32)), (.int (nb.toInt8.toInt32)), (.int (sp.toInt8.toInt32)), (.int (62 : Int32)), w4, w5, w6, w7, w8, w9] (sp.toInt8.toInt32) T83.heap n0 Zn O83 O80 f_V_d (by decide) rfl hsp) (by decide) (by decide) (by decide) (by decide) (fun v84 T84 L84 X84 hQ84 => ?_)
        obtain ⟨rfl, Nq84, e84⟩ := hQ84
        have N84 := Fr.app N83 Nq84
        show own_End p e below _ (T84.setTop (mkF m 374 _ [(.int (3 : Int32))]))
        refine own_iload X84 hx hby at_374 (pc' := 376) rfl rfl ?_
        refine own_icN X84 hx hby at_376 (pc' := 379) rfl (show (3 : Int32) = (3 : Int32) by decide) ?_
        refine own_iconst X84 hx hby at_379 (pc' := 380) rfl (n := (1 : Int32)) (by decide) ?_
        refine own_goto X84 hx hby at_380 (pc' := 384) (by decide) (by decide) ?_
        refine own_zreturn X84 hx hlk hby hret (Or.inr rfl) at_384 (own_lvS hS (by rw [e84]; exact hSn) ?_ (by decide) (by decide))
        show Q0 Z p0 p1 p2 cs  h0 n0 (some (.int (1 : Int32))) T84.heap _
        rw [e84]
        exact ⟨rfl, N84⟩
      · rw [hs66]
        show own_End p e below _ (T0.setTop (mkF m 221 #[.val (.long p0), .second, .val (.int p1), .val (.int p2), .val (.ref d), .val (.int (1 : Int32)), .val (.int (0 : Int32)), .val (.int (1 : Int32)), .val (.int sk), .val (.int lt), .val (.int nb), .val (.int sp), .unset, .unset, .unset, .unset, .unset] [(.ref d)]))
        refine own_iload X0 hx hby at_221 (pc' := 223) rfl rfl ?_
        refine own_bipush X0 hx hby at_223 (pc' := 225) rfl (n := (60 : Int32)) (by decide) ?_
        obtain ⟨cl85, Ar85, q85, S85, M85, H85, G85⟩ := id f_V_d
        have hin85 : ¬ ((1 : Int32) < 0 ∨ cl85.slots.size ≤ ((1 : Int32)).toNatClampNeg) := inb_of S85 ⟨by decide, by decide⟩
        refine own_bastore X0 hx hZ hby e1 Ar85 hin85 at_225 (pc' := 226) rfl (fun T86 h86 X86 e86 W86 => ?_)
        have f_V_d := Arv.set Ar85 q85 S85 M85 H85 G85 (fits_nar_byte _) W86 1 rfl (Nat.le_of_ble_eq_true rfl)
        have f_V_d : Arv Z h86 d kk .byte (10 : Int32) [w0, (.int ((60 : Int32).toInt8.toInt32)), w2, w3, w4, w5, w6, w7, w8, w9] (.int (0 : Int32)) := f_V_d
        have f_V_d : Arv Z h86 d kk .byte (10 : Int32) [w0, (.int (60 : Int32)), w2, w3, w4, w5, w6, w7, w8, w9] (.int (0 : Int32)) := f_V_d
        have f_S_java_lang_String_COMPACT_STRINGS := f_S_java_lang_String_COMPACT_STRINGS.wr W86
        have Zn := Nat.le_trans Z1 (Keep.of_wr W86).1
        have hSn := Nat.le_trans hSn (Keep.of_wr W86).1
        have N86 := Fr.snoc X86 N0 ge_d
        refine own_aload X86 hx hby at_226 (pc' := 228) rfl rfl rfl ?_
        refine own_iload X86 hx hby at_228 (pc' := 230) rfl rfl ?_
        refine own_iconst X86 hx hby at_230 (pc' := 231) rfl (n := (1 : Int32)) (by decide) ?_
        refine own_iadd X86 hx hby at_231 (pc' := 232) rfl ?_
        show own_End p e below _ (T86.setTop (mkF m 232 #[.val (.long p0), .second, .val (.int p1), .val (.int p2), .val (.ref d), .val (.int (1 : Int32)), .val (.int (0 : Int32)), .val (.int (1 : Int32)), .val (.int sk), .val (.int lt), .val (.int nb), .val (.int sp), .unset, .unset, .unset, .unset, .unset] [(.int (2 : Int32)), (.ref d)]))
        refine own_iload X86 hx hby at_232 (pc' := 234) rfl rfl ?_
        obtain ⟨cl87, Ar87, q87, S87, M87, H87, G87⟩ := id f_V_d
        have hin87 : ¬ ((2 : Int32) < 0 ∨ cl87.slots.size ≤ ((2 : Int32)).toNatClampNeg) := inb_of S87 ⟨by decide, by decide⟩
        refine own_bastore X86 hx hZ hby e86 Ar87 hin87 at_234 (pc' := 235) rfl (fun T88 h88 X88 e88 W88 => ?_)
        have f_V_d := Arv.set Ar87 q87 S87 M87 H87 G87 (fits_nar_byte _) W88 2 rfl (Nat.le_of_ble_eq_true rfl)
        have f_V_d : Arv Z h88 d kk .byte (10 : Int32) [w0, (.int (60 : Int32)), (.int (nb.toInt8.toInt32)), w3, w4, w5, w6, w7, w8, w9] (.int (0 : Int32)) := f_V_d
        have f_S_java_lang_String_COMPACT_STRINGS := f_S_java_lang_String_COMPACT_STRINGS.wr W88
        have Zn := Nat.le_trans Zn (Keep.of_wr W88).1
        have hSn := Nat.le_trans hSn (Keep.of_wr W88).1
        have N88 := Fr.snoc X88 N86 ge_d
        refine own_iload X88 hx hby at_235 (pc' := 237) rfl rfl ?_
        refine own_iconst X88 hx hby at_237 (pc' := 238) rfl (n := (2 : Int32)) (by decide) ?_
        refine own_iadd X88 hx hby at_238 (pc' := 239) rfl ?_
        show own_End p e below _ (T88.setTop (mkF m 239 #[.val (.long p0), .second, .val (.int p1), .val (.int p2), .val (.ref d), .val (.int (1 : Int32)), .val (.int (0 : Int32)), .val (.int (1 : Int32)), .val (.int sk), .val (.int lt), .val (.int nb), .val (.int sp), .unset, .unset, .unset, .unset, .unset] [(.int (3 : Int32))]))
        refine own_istore X88 hx hby at_239 (pc' := 241) rfl (l' := #[.val (.long p0), .second, .val (.int p1), .val (.int p2), .val (.ref d), .val (.int (1 : Int32)), .val (.int (0 : Int32)), .val (.int (1 : Int32)), .val (.int sk), .val (.int lt), .val (.int nb), .val (.int sp), .val (.int (3 : Int32)), .unset, .unset, .unset, .unset]) rfl ?_
        refine own_iload X88 hx hby at_241 (pc' := 243) rfl rfl ?_
        refine own_ifN X88 hx hby at_243 (pc' := 246) rfl (show ¬ (1 : Int32) = (0 : Int32) by decide) ?_
        refine own_aload X88 hx hby at_246 (pc' := 248) rfl rfl rfl ?_
        refine own_iload X88 hx hby at_248 (pc' := 250) rfl rfl ?_
        refine own_iload X88 hx hby at_250 (pc' := 252) rfl rfl ?_
        obtain ⟨cl89, Ar89, q89, S89, M89, H89, G89⟩ := id f_V_d
        have hin89 : ¬ ((3 : Int32) < 0 ∨ cl89.slots.size ≤ ((3 : Int32)).toNatClampNeg) := inb_of S89 ⟨by decide, by decide⟩
        refine own_bastore X88 hx hZ hby e88 Ar89 hin89 at_252 (pc' := 253) rfl (fun T90 h90 X90 e90 W90 => ?_)
        have f_V_d := Arv.set Ar89 q89 S89 M89 H89 G89 (fits_nar_byte _) W90 3 rfl (Nat.le_of_ble_eq_true rfl)
        have f_V_d : Arv Z h90 d kk .byte (10 : Int32) [w0, (.int (60 : Int32)), (.int (nb.toInt8.toInt32)), (.int (sp.toInt8.toInt32)), w4, w5, w6, w7, w8, w9] (.int (0 : Int32)) := f_V_d
        have f_S_java_lang_String_COMPACT_STRINGS := f_S_java_lang_String_COMPACT_STRINGS.wr W90
        have Zn := Nat.le_trans Zn (Keep.of_wr W90).1
        have hSn := Nat.le_trans hSn (Keep.of_wr W90).1
        have N90 := Fr.snoc X90 N88 ge_d
        refine own_iload X90 hx hby at_253 (pc' := 255) rfl rfl ?_
        refine own_iconst X90 hx hby at_255 (pc' := 256) rfl (n := (1 : Int32)) (by decide) ?_
        refine own_iadd X90 hx hby at_256 (pc' := 257) rfl ?_
        show own_End p e below _ (T90.setTop (mkF m 257 #[.val (.long p0), .second, .val (.int p1), .val (.int p2), .val (.ref d), .val (.int (1 : Int32)), .val (.int (0 : Int32)), .val (.int (1 : Int32)), .val (.int sk), .val (.int lt), .val (.int nb), .val (.int sp), .val (.int (3 : Int32)), .unset, .unset, .unset, .unset] [(.int (4 : Int32))]))
        refine own_istore X90 hx hby at_257 (pc' := 259) rfl (l' := #[.val (.long p0), .second, .val (.int p1), .val (.int p2), .val (.ref d), .val (.int (1 : Int32)), .val (.int (0 : Int32)), .val (.int (1 : Int32)), .val (.int sk), .val (.int lt), .val (.int nb), .val (.int sp), .val (.int (4 : Int32)), .unset, .unset, .unset, .unset]) rfl ?_
        refine own_iload X90 hx hby at_259 (pc' := 261) rfl rfl ?_
        refine own_ifY X90 hx hby at_261 (pc' := 289) (by decide) (by decide) (show (0 : Int32) = (0 : Int32) by decide) ?_
        refine own_aload X90 hx hby at_289 (pc' := 291) rfl rfl rfl ?_
        refine own_iload X90 hx hby at_291 (pc' := 293) rfl rfl ?_
        refine own_bipush X90 hx hby at_293 (pc' := 295) rfl (n := (62 : Int32)) (by decide) ?_
        obtain ⟨cl91, Ar91, q91, S91, M91, H91, G91⟩ := id f_V_d
        have hin91 : ¬ ((4 : Int32) < 0 ∨ cl91.slots.size ≤ ((4 : Int32)).toNatClampNeg) := inb_of S91 ⟨by decide, by decide⟩
        refine own_bastore X90 hx hZ hby e90 Ar91 hin91 at_295 (pc' := 296) rfl (fun T92 h92 X92 e92 W92 => ?_)
        have f_V_d := Arv.set Ar91 q91 S91 M91 H91 G91 (fits_nar_byte _) W92 4 rfl (Nat.le_of_ble_eq_true rfl)
        have f_V_d : Arv Z h92 d kk .byte (10 : Int32) [w0, (.int (60 : Int32)), (.int (nb.toInt8.toInt32)), (.int (sp.toInt8.toInt32)), (.int ((62 : Int32).toInt8.toInt32)), w5, w6, w7, w8, w9] (.int (0 : Int32)) := f_V_d
        have f_V_d : Arv Z h92 d kk .byte (10 : Int32) [w0, (.int (60 : Int32)), (.int (nb.toInt8.toInt32)), (.int (sp.toInt8.toInt32)), (.int (62 : Int32)), w5, w6, w7, w8, w9] (.int (0 : Int32)) := f_V_d
        have f_S_java_lang_String_COMPACT_STRINGS := f_S_java_lang_String_COMPACT_STRINGS.wr W92
        have Zn := Nat.le_trans Zn (Keep.of_wr W92).1
        have hSn := Nat.le_trans hSn (Keep.of_wr W92).1
        have N92 := Fr.snoc X92 N90 ge_d
        refine own_iload X92 hx hby at_296 (pc' := 298) rfl rfl ?_
        refine own_iconst X92 hx hby at_298 (pc' := 299) rfl (n := (1 : Int32)) (by decide) ?_
        refine own_iadd X92 hx hby at_299 (pc' := 300) rfl ?_
        show own_End p e below _ (T92.setTop (mkF m 300 #[.val (.long p0), .second, .val (.int p1), .val (.int p2), .val (.ref d), .val (.int (1 : Int32)), .val (.int (0 : Int32)), .val (.int (1 : Int32)), .val (.int sk), .val (.int lt), .val (.int nb), .val (.int sp), .val (.int (4 : Int32)), .unset, .unset, .unset, .unset] [(.int (5 : Int32))]))
        refine own_istore X92 hx hby at_300 (pc' := 302) rfl (l' := #[.val (.long p0), .second, .val (.int p1), .val (.int p2), .val (.ref d), .val (.int (1 : Int32)), .val (.int (0 : Int32)), .val (.int (1 : Int32)), .val (.int sk), .val (.int lt), .val (.int nb), .val (.int sp), .val (.int (4 : Int32)), .val (.int (5 : Int32)), .unset, .unset, .unset]) rfl ?_
        refine own_iload X92 hx hby at_302 (pc' := 304) rfl rfl ?_
        refine own_ifY X92 hx hby at_304 (pc' := 312) (by decide) (by decide) (show (0 : Int32) = (0 : Int32) by decide) ?_
        refine own_bipush X92 hx hby at_312 (pc' := 314) rfl (n := (10 : Int32)) (by decide) ?_
        refine own_istore X92 hx hby at_314 (pc' := 316) rfl (l' := #[.val (.long p0), .second, .val (.int p1), .val (.int p2), .val (.ref d), .val (.int (1 : Int32)), .val (.int (0 : Int32)), .val (.int (1 : Int32)), .val (.int sk), .val (.int lt), .val (.int nb), .val (.int sp), .val (.int (4 : Int32)), .val (.int (5 : Int32)), .val (.int (10 : Int32)), .unset, .unset]) rfl ?_
        refine own_new X92 hx hZ hby hown (wd_2 hw) (wd_3 hw) (wd_4 hw) e92 at_316 (pc' := 319) rfl (by decide) (by decide) (fun T93 h93 b93 g93 X93 e93 E93 A93 D93 => ?_)
        have ne_d_b93 : d ≠ b93 := Nat.ne_of_lt (by rw [g93]; exact f_V_d.lt)
        have ge_b93 : n0 ≤ b93 := by rw [g93]; exact Zn
        have f_V_d := f_V_d.ext E93
        have f_S_java_lang_String_COMPACT_STRINGS := f_S_java_lang_String_COMPACT_STRINGS.ext E93
        have Zn := Nat.le_trans Zn E93.1
        have hSn := Nat.le_trans hSn E93.1
        have f_O_b93 : own_ST Z h93 b93 (0 : Int32) (0 : Int32) (0 : Int32) (0 : Int32) .null .null .null .null := ⟨A93, D93 (Or.inr (wd_44 hw)) (ty := .int) (by decide), D93 (Or.inr (wd_46 hw)) (ty := .int) (by decide), D93 (Or.inr (wd_48 hw)) (ty := .int) (by decide), D93 (Or.inr (wd_50 hw)) (ty := .int) (by decide), D93 (Or.inr (wd_52 hw)) (ty := (.object "java/lang/String")) (by decide), D93 (Or.inr (wd_54 hw)) (ty := (.object "java/lang/String")) (by decide), D93 (Or.inr (wd_56 hw)) (ty := (.array .int)) (by decide), D93 (Or.inr (wd_58 hw)) (ty := (.object "java/util/Map")) (by decide)⟩
        refine own_dup X93 hx hby at_319 (pc' := 320) rfl rfl ?_
        refine own_iconst X93 hx hby at_320 (pc' := 321) rfl (n := (1 : Int32)) (by decide) ?_
        refine own_iload X93 hx hby at_321 (pc' := 323) rfl rfl ?_
        refine own_iload X93 hx hby at_323 (pc' := 325) rfl rfl ?_
        refine own_iconst X93 hx hby at_325 (pc' := 326) rfl (n := (2 : Int32)) (by decide) ?_
        refine own_iadd X93 hx hby at_326 (pc' := 327) rfl ?_
        show own_End p e below _ (T93.setTop (mkF m 327 #[.val (.long p0), .second, .val (.int p1), .val (.int p2), .val (.ref d), .val (.int (1 : Int32)), .val (.int (0 : Int32)), .val (.int (1 : Int32)), .val (.int sk), .val (.int lt), .val (.int nb), .val (.int sp), .val (.int (4 : Int32)), .val (.int (5 : Int32)), .val (.int (10 : Int32)), .unset, .unset] [(.int (3 : Int32)), (.int (1 : Int32)), (.int (1 : Int32)), (.ref b93), (.ref b93)]))
        refine own_iload X93 hx hby at_327 (pc' := 329) rfl rfl ?_
        obtain ⟨a94, T94, h94, k94, X94, e94, E94, hS, hSn, hZ, hown, st94⟩ := ldcS X93 hx hZ hown (wd_5 hw) (own_wS hw) e93 hS hSn (g := (mkF m 329 #[.val (.long p0), .second, .val (.int p1), .val (.int p2), .val (.ref d), .val (.int (1 : Int32)), .val (.int (0 : Int32)), .val (.int (1 : Int32)), .val (.int sk), .val (.int lt), .val (.int nb), .val (.int sp), .val (.int (4 : Int32)), .val (.int (5 : Int32)), .val (.int (10 : Int32)), .unset, .unset] [(.int (5 : Int32)), (.int (3 : Int32)), (.int (1 : Int32)), (.int (1 : Int32)), (.ref b93), (.ref b93)])) rfl (hb hby at_329) (n := 0) (by decide) (by decide) (by decide) (by decide)
        refine own_step st94 ?_
        have f_V_d := f_V_d.ext E94
        have f_S_java_lang_String_COMPACT_STRINGS := f_S_java_lang_String_COMPACT_STRINGS.ext E94
        have f_O_b93 := f_O_b93.ext E94
        have Zn := Nat.le_trans Zn E94.1
        show own_End p e below _ (T94.setTop (mkF m 331 #[.val (.long p0), .second, .val (.int p1), .val (.int p2), .val (.ref d), .val (.int (1 : Int32)), .val (.int (0 : Int32)), .val (.int (1 : Int32)), .val (.int sk), .val (.int lt), .val (.int nb), .val (.int sp), .val (.int (4 : Int32)), .val (.int (5 : Int32)), .val (.int (10 : Int32)), .unset, .unset] [(.ref a94), (.int (5 : Int32)), (.int (3 : Int32)), (.int (1 : Int32)), (.int (1 : Int32)), (.ref b93), (.ref b93)]))
        refine own_iload X94 hx hby at_331 (pc' := 333) rfl rfl ?_
        refine own_sipush X94 hx hby at_333 (pc' := 336) rfl (n := (255 : Int32)) (by decide) ?_
        refine own_iand X94 hx hby at_336 (pc' := 337) rfl ?_
        refine own_i2c X94 hx hby at_337 (pc' := 338) rfl ?_
        rw [i2c_mask]
        show own_End p e below _ (T94.setTop (mkF m 338 #[.val (.long p0), .second, .val (.int p1), .val (.int p2), .val (.ref d), .val (.int (1 : Int32)), .val (.int (0 : Int32)), .val (.int (1 : Int32)), .val (.int sk), .val (.int lt), .val (.int nb), .val (.int sp), .val (.int (4 : Int32)), .val (.int (5 : Int32)), .val (.int (10 : Int32)), .unset, .unset] [(.int (nb &&& (255 : Int32))), (.ref a94), (.int (5 : Int32)), (.int (3 : Int32)), (.int (1 : Int32)), (.int (1 : Int32)), (.ref b93), (.ref b93)]))
        refine own_lk5 hw X94 hx hZ hby (by rw [hml]; rfl) hown at_338 (pc' := 341) rfl e94 (W := 7) (Nat.le_of_eq rfl) (rm1 l Z a0 hw [] (nb &&& (255 : Int32)) cs h94 n0 Zn f_S_java_lang_String_COMPACT_STRINGS hcs (own_chr2 _)) (by decide) (by decide) (by decide) (by decide) (fun v96 T96 L96 X96 hQ96 => ?_)
        obtain ⟨w95, rfl, Nq96, K96, gw96⟩ := hQ96
        have N96 := Fr.app N92 Nq96
        have f_S_java_lang_String_COMPACT_STRINGS := own_sta0 f_S_java_lang_String_COMPACT_STRINGS K96
        have f_V_d := f_V_d.keep K96 nin0
        have f_O_b93 := f_O_b93.keep K96 nin0
        have Zn := Nat.le_trans Zn K96.1
        have hSn := Nat.le_trans hSn K96.1
        show own_End p e below _ (T96.setTop (mkF m 341 _ [(.ref w95), (.ref a94), (.int (5 : Int32)), (.int (3 : Int32)), (.int (1 : Int32)), (.int (1 : Int32)), (.ref b93), (.ref b93)]))
        refine own_iconst X96 hx hby at_341 (pc' := 342) rfl (n := (0 : Int32)) (by decide) ?_
        refine own_newP (aty := .int) X96 hx hZ hby (wd_33 hw) rfl at_342 (pc' := 344) rfl (by decide) (cap := 0) (by decide) (by decide) (by decide) (by decide) (fun T97 h97 k97 b97 g97 X97 e97 E97 A97 => ?_)
        have ne_d_b97 : d ≠ b97 := Nat.ne_of_lt (by rw [g97]; exact f_V_d.lt)
        have ne_b93_b97 : b93 ≠ b97 := Nat.ne_of_lt (by rw [g97]; exact f_O_b93.lt)
        have ge_b97 : n0 ≤ b97 := by rw [g97]; exact Zn
        have f_V_d := f_V_d.ext E97
        have f_S_java_lang_String_COMPACT_STRINGS := f_S_java_lang_String_COMPACT_STRINGS.ext E97
        have f_O_b93 := f_O_b93.ext E97
        have Zn := Nat.le_trans Zn E97.1
        have hSn := Nat.le_trans hSn E97.1
        have f_V_b97 : Arv Z h97 b97 k97 .int (0 : Int32) [] (.int (0 : Int32)) := Arv.new A97 (by decide)
        refine own_aconst_null X97 hx hby at_344 (pc' := 345) rfl ?_
        refine own_lk6 hw X97 hx hZ hby (by rw [hml]; rfl) hown at_345 (pc' := 348) rfl e97 (W := 1) (Nat.le_of_eq rfl) (rm6 l Z a0 hw [] b93 (1 : Int32) (1 : Int32) (3 : Int32) (5 : Int32) a94 w95 b97 h97 n0 Zn f_O_b93 ge_b93) (by decide) (by decide) (by decide) (by decide) (fun v98 T98 L98 X98 hQ98 => ?_)
        obtain ⟨rfl, Nq98, K98, O98⟩ := hQ98
        have N98 := Fr.app N96 Nq98
        have f_S_java_lang_String_COMPACT_STRINGS := own_sta1 f_S_java_lang_String_COMPACT_STRINGS K98 f_O_b93.1
        have f_V_d := f_V_d.keep K98 (ninS ne_d_b93 nin0)
        have f_V_b97 := f_V_b97.keep K98 (ninS (Ne.symm ne_b93_b97) nin0)
        have Zn := Nat.le_trans Zn K98.1
        have hSn := Nat.le_trans hSn K98.1
        show own_End p e below _ (T98.setTop (mkF m 348 _ [(.ref b93)]))
        refine own_astore X98 hx hby at_348 (pc' := 350) rfl rfl (l' := #[.val (.long p0), .second, .val (.int p1), .val (.int p2), .val (.ref d), .val (.int (1 : Int32)), .val (.int (0 : Int32)), .val (.int (1 : Int32)), .val (.int sk), .val (.int lt), .val (.int nb), .val (.int sp), .val (.int (4 : Int32)), .val (.int (5 : Int32)), .val (.int (10 : Int32)), .val (.ref b93), .unset]) rfl ?_
        refine own_new X98 hx hZ hby hown (wd_59 hw) (wd_60 hw) (wd_61 hw) rfl at_350 (pc' := 353) rfl (by decide) (by decide) (fun T99 h99 b99 g99 X99 e99 E99 A99 D99 => ?_)
        have ne_d_b99 : d ≠ b99 := Nat.ne_of_lt (by rw [g99]; exact f_V_d.lt)
        have ne_b97_b99 : b97 ≠ b99 := Nat.ne_of_lt (by rw [g99]; exact f_V_b97.lt)
        have ne_b93_b99 : b93 ≠ b99 := Nat.ne_of_lt (by rw [g99]; exact O98.lt)
        have ge_b99 : n0 ≤ b99 := by rw [g99]; exact Zn
        have f_V_d := f_V_d.ext E99
        have f_S_java_lang_String_COMPACT_STRINGS := f_S_java_lang_String_COMPACT_STRINGS.ext E99
        have f_V_b97 := f_V_b97.ext E99
        have O98 := O98.ext E99
        have Zn := Nat.le_trans Zn E99.1
        have hSn := Nat.le_trans hSn E99.1
        have f_O_b99 : own_XS Z h99 b99 .null .null (0 : Int32) .null .null := ⟨A99, D99 (Or.inr (wd_67 hw)) (ty := (.array .byte)) (by decide), D99 (Or.inr (wd_69 hw)) (ty := (.object "com/example/halyard/halyard/base/XmlScan$StartTag")) (by decide), D99 (Or.inr (wd_71 hw)) (ty := .int) (by decide), D99 (Or.inr (wd_73 hw)) (ty := (.object "java/util/List")) (by decide), D99 (Or.inr (wd_75 hw)) (ty := (.array .int)) (by decide)⟩
        refine own_dup X99 hx hby at_353 (pc' := 354) rfl rfl ?_
        refine own_aload X99 hx hby at_354 (pc' := 356) rfl rfl rfl ?_
        refine own_aload X99 hx hby at_356 (pc' := 358) rfl rfl rfl ?_
        refine own_iload X99 hx hby at_358 (pc' := 360) rfl rfl ?_
        refine own_aconst_null X99 hx hby at_360 (pc' := 361) rfl ?_
        refine own_iconst X99 hx hby at_361 (pc' := 362) rfl (n := (0 : Int32)) (by decide) ?_
        refine own_newP (aty := .int) X99 hx hZ hby (wd_33 hw) e99 at_362 (pc' := 364) rfl (by decide) (cap := 0) (by decide) (by decide) (by decide) (by decide) (fun T100 h100 k100 b100 g100 X100 e100 E100 A100 => ?_)
        have ne_d_b100 : d ≠ b100 := Nat.ne_of_lt (by rw [g100]; exact f_V_d.lt)
        have ne_b97_b100 : b97 ≠ b100 := Nat.ne_of_lt (by rw [g100]; exact f_V_b97.lt)
        have ne_b93_b100 : b93 ≠ b100 := Nat.ne_of_lt (by rw [g100]; exact O98.lt)
        have ne_b99_b100 : b99 ≠ b100 := Nat.ne_of_lt (by rw [g100]; exact f_O_b99.lt)
        have ge_b100 : n0 ≤ b100 := by rw [g100]; exact Zn
        have f_V_d := f_V_d.ext E100
        have f_S_java_lang_String_COMPACT_STRINGS := f_S_java_lang_String_COMPACT_STRINGS.ext E100
        have f_V_b97 := f_V_b97.ext E100
        have O98 := O98.ext E100
        have f_O_b99 := f_O_b99.ext E100
        have Zn := Nat.le_trans Zn E100.1
        have hSn := Nat.le_trans hSn E100.1
        have f_V_b100 : Arv Z h100 b100 k100 .int (0 : Int32) [] (.int (0 : Int32)) := Arv.new A100 (by decide)
        refine own_lk7 hw X100 hx hZ hby (by rw [hml]; rfl) hown at_364 (pc' := 367) rfl e100 (W := 1) (Nat.le_of_eq rfl) (rm8 l Z a0 hw [] b99 d b93 (10 : Int32) b100 h100 n0 Zn f_O_b99 ge_b99) (by decide) (by decide) (by decide) (by decide) (fun v101 T101 L101 X101 hQ101 => ?_)
        obtain ⟨rfl, Nq101, K101, O101⟩ := hQ101
        have N101 := Fr.app N98 Nq101
        have f_S_java_lang_String_COMPACT_STRINGS := own_sta1 f_S_java_lang_String_COMPACT_STRINGS K101 f_O_b99.1
        have f_V_d := f_V_d.keep K101 (ninS ne_d_b99 nin0)
        have f_V_b97 := f_V_b97.keep K101 (ninS ne_b97_b99 nin0)
        have O98 := O98.keep K101 (ninS ne_b93_b99 nin0)
        have f_V_b100 := f_V_b100.keep K101 (ninS (Ne.symm ne_b99_b100) nin0)
        have Zn := Nat.le_trans Zn K101.1
        have hSn := Nat.le_trans hSn K101.1
        show own_End p e below _ (T101.setTop (mkF m 367 _ [(.ref b99)]))
        refine own_astore X101 hx hby at_367 (pc' := 369) rfl rfl (l' := #[.val (.long p0), .second, .val (.int p1), .val (.int p2), .val (.ref d), .val (.int (1 : Int32)), .val (.int (0 : Int32)), .val (.int (1 : Int32)), .val (.int sk), .val (.int lt), .val (.int nb), .val (.int sp), .val (.int (4 : Int32)), .val (.int (5 : Int32)), .val (.int (10 : Int32)), .val (.ref b93), .val (.ref b99)]) rfl ?_
        refine own_aload X101 hx hby at_369 (pc' := 371) rfl rfl rfl ?_
        refine own_lk8 hw X101 hx hZ hby (by rw [hml]; rfl) hown at_371 (pc' := 374) rfl rfl O101.1 (W := 0) (Nat.le_of_eq rfl) (rm9b l Z a0 hw [] b99 d b93 (10 : Int32) .null rfl (.ref b100) rfl (1 : Int32) (1 : Int32) (3 : Int32) (5 : Int32) (.ref a94) rfl (.ref w95) rfl (.ref b97) rfl .null rfl kk (10 : Int32) [w0, (.int (60 : Int32)), (.int (nb.toInt8.toInt32)), (.int (sp.toInt8.toInt32)), (.int (62 : Int32)), w5, w6, w7, w8, w9] (sp.toInt8.toInt32) T101.heap n0 Zn O101 O98 f_V_d (by decide) rfl hsp) (by decide) (by decide) (by decide) (by decide) (fun v102 T102 L102 X102 hQ102 => ?_)
        obtain ⟨rfl, Nq102, e102⟩ := hQ102
        have N102 := Fr.app N101 Nq102
        show own_End p e below _ (T102.setTop (mkF m 374 _ [(.int (4 : Int32))]))
        refine own_iload X102 hx hby at_374 (pc' := 376) rfl rfl ?_
        refine own_icN X102 hx hby at_376 (pc' := 379) rfl (show (4 : Int32) = (4 : Int32) by decide) ?_
        refine own_iconst X102 hx hby at_379 (pc' := 380) rfl (n := (1 : Int32)) (by decide) ?_
        refine own_goto X102 hx hby at_380 (pc' := 384) (by decide) (by decide) ?_
        refine own_zreturn X102 hx hlk hby hret (Or.inr rfl) at_384 (own_lvS hS (by rw [e102]; exact hSn) ?_ (by decide) (by decide))
        show Q0 Z p0 p1 p2 cs  h0 n0 (some (.int (1 : Int32))) T102.heap _
        rw [e102]
        exact ⟨rfl, N102⟩
      · rw [hs66]
        show own_End p e below _ (T0.setTop (mkF m 221 #[.val (.long p0), .second, .val (.int p1), .val (.int p2), .val (.ref d), .val (.int (2 : Int32)), .val (.int (0 : Int32)), .val (.int (1 : Int32)), .val (.int sk), .val (.int lt), .val (.int nb), .val (.int sp), .unset, .unset, .unset, .unset, .unset] [(.ref d)]))
        refine own_iload X0 hx hby at_221 (pc' := 223) rfl rfl ?_
        refine own_bipush X0 hx hby at_223 (pc' := 225) rfl (n := (60 : Int32)) (by decide) ?_
        obtain ⟨cl103, Ar103, q103, S103, M103, H103, G103⟩ := id f_V_d
        have hin103 : ¬ ((2 : Int32) < 0 ∨ cl103.slots.size ≤ ((2 : Int32)).toNatClampNeg) := inb_of S103 ⟨by decide, by decide⟩
        refine own_bastore X0 hx hZ hby e1 Ar103 hin103 at_225 (pc' := 226) rfl (fun T104 h104 X104 e104 W104 => ?_)
        have f_V_d := Arv.set Ar103 q103 S103 M103 H103 G103 (fits_nar_byte _) W104 2 rfl (Nat.le_of_ble_eq_true rfl)
        have f_V_d : Arv Z h104 d kk .byte (10 : Int32) [w0, w1, (.int ((60 : Int32).toInt8.toInt32)), w3, w4, w5, w6, w7, w8, w9] (.int (0 : Int32)) := f_V_d
        have f_V_d : Arv Z h104 d kk .byte (10 : Int32) [w0, w1, (.int (60 : Int32)), w3, w4, w5, w6, w7, w8, w9] (.int (0 : Int32)) := f_V_d
        have f_S_java_lang_String_COMPACT_STRINGS := f_S_java_lang_String_COMPACT_STRINGS.wr W104
        have Zn := Nat.le_trans Z1 (Keep.of_wr W104).1
        have hSn := Nat.le_trans hSn (Keep.of_wr W104).1
        have N104 := Fr.snoc X104 N0 ge_d
        refine own_aload X104 hx hby at_226 (pc' := 228) rfl rfl rfl ?_
        refine own_iload X104 hx hby at_228 (pc' := 230) rfl rfl ?_
        refine own_iconst X104 hx hby at_230 (pc' := 231) rfl (n := (1 : Int32)) (by decide) ?_
        refine own_iadd X104 hx hby at_231 (pc' := 232) rfl ?_
        show own_End p e below _ (T104.setTop (mkF m 232 #[.val (.long p0), .second, .val (.int p1), .val (.int p2), .val (.ref d), .val (.int (2 : Int32)), .val (.int (0 : Int32)), .val (.int (1 : Int32)), .val (.int sk), .val (.int lt), .val (.int nb), .val (.int sp), .unset, .unset, .unset, .unset, .unset] [(.int (3 : Int32)), (.ref d)]))
        refine own_iload X104 hx hby at_232 (pc' := 234) rfl rfl ?_
        obtain ⟨cl105, Ar105, q105, S105, M105, H105, G105⟩ := id f_V_d
        have hin105 : ¬ ((3 : Int32) < 0 ∨ cl105.slots.size ≤ ((3 : Int32)).toNatClampNeg) := inb_of S105 ⟨by decide, by decide⟩
        refine own_bastore X104 hx hZ hby e104 Ar105 hin105 at_234 (pc' := 235) rfl (fun T106 h106 X106 e106 W106 => ?_)
        have f_V_d := Arv.set Ar105 q105 S105 M105 H105 G105 (fits_nar_byte _) W106 3 rfl (Nat.le_of_ble_eq_true rfl)
        have f_V_d : Arv Z h106 d kk .byte (10 : Int32) [w0, w1, (.int (60 : Int32)), (.int (nb.toInt8.toInt32)), w4, w5, w6, w7, w8, w9] (.int (0 : Int32)) := f_V_d
        have f_S_java_lang_String_COMPACT_STRINGS := f_S_java_lang_String_COMPACT_STRINGS.wr W106
        have Zn := Nat.le_trans Zn (Keep.of_wr W106).1
        have hSn := Nat.le_trans hSn (Keep.of_wr W106).1
        have N106 := Fr.snoc X106 N104 ge_d
        refine own_iload X106 hx hby at_235 (pc' := 237) rfl rfl ?_
        refine own_iconst X106 hx hby at_237 (pc' := 238) rfl (n := (2 : Int32)) (by decide) ?_
        refine own_iadd X106 hx hby at_238 (pc' := 239) rfl ?_
        show own_End p e below _ (T106.setTop (mkF m 239 #[.val (.long p0), .second, .val (.int p1), .val (.int p2), .val (.ref d), .val (.int (2 : Int32)), .val (.int (0 : Int32)), .val (.int (1 : Int32)), .val (.int sk), .val (.int lt), .val (.int nb), .val (.int sp), .unset, .unset, .unset, .unset, .unset] [(.int (4 : Int32))]))
        refine own_istore X106 hx hby at_239 (pc' := 241) rfl (l' := #[.val (.long p0), .second, .val (.int p1), .val (.int p2), .val (.ref d), .val (.int (2 : Int32)), .val (.int (0 : Int32)), .val (.int (1 : Int32)), .val (.int sk), .val (.int lt), .val (.int nb), .val (.int sp), .val (.int (4 : Int32)), .unset, .unset, .unset, .unset]) rfl ?_
        refine own_iload X106 hx hby at_241 (pc' := 243) rfl rfl ?_
        refine own_ifN X106 hx hby at_243 (pc' := 246) rfl (show ¬ (1 : Int32) = (0 : Int32) by decide) ?_
        refine own_aload X106 hx hby at_246 (pc' := 248) rfl rfl rfl ?_
        refine own_iload X106 hx hby at_248 (pc' := 250) rfl rfl ?_
        refine own_iload X106 hx hby at_250 (pc' := 252) rfl rfl ?_
        obtain ⟨cl107, Ar107, q107, S107, M107, H107, G107⟩ := id f_V_d
        have hin107 : ¬ ((4 : Int32) < 0 ∨ cl107.slots.size ≤ ((4 : Int32)).toNatClampNeg) := inb_of S107 ⟨by decide, by decide⟩
        refine own_bastore X106 hx hZ hby e106 Ar107 hin107 at_252 (pc' := 253) rfl (fun T108 h108 X108 e108 W108 => ?_)
        have f_V_d := Arv.set Ar107 q107 S107 M107 H107 G107 (fits_nar_byte _) W108 4 rfl (Nat.le_of_ble_eq_true rfl)
        have f_V_d : Arv Z h108 d kk .byte (10 : Int32) [w0, w1, (.int (60 : Int32)), (.int (nb.toInt8.toInt32)), (.int (sp.toInt8.toInt32)), w5, w6, w7, w8, w9] (.int (0 : Int32)) := f_V_d
        have f_S_java_lang_String_COMPACT_STRINGS := f_S_java_lang_String_COMPACT_STRINGS.wr W108
        have Zn := Nat.le_trans Zn (Keep.of_wr W108).1
        have hSn := Nat.le_trans hSn (Keep.of_wr W108).1
        have N108 := Fr.snoc X108 N106 ge_d
        refine own_iload X108 hx hby at_253 (pc' := 255) rfl rfl ?_
        refine own_iconst X108 hx hby at_255 (pc' := 256) rfl (n := (1 : Int32)) (by decide) ?_
        refine own_iadd X108 hx hby at_256 (pc' := 257) rfl ?_
        show own_End p e below _ (T108.setTop (mkF m 257 #[.val (.long p0), .second, .val (.int p1), .val (.int p2), .val (.ref d), .val (.int (2 : Int32)), .val (.int (0 : Int32)), .val (.int (1 : Int32)), .val (.int sk), .val (.int lt), .val (.int nb), .val (.int sp), .val (.int (4 : Int32)), .unset, .unset, .unset, .unset] [(.int (5 : Int32))]))
        refine own_istore X108 hx hby at_257 (pc' := 259) rfl (l' := #[.val (.long p0), .second, .val (.int p1), .val (.int p2), .val (.ref d), .val (.int (2 : Int32)), .val (.int (0 : Int32)), .val (.int (1 : Int32)), .val (.int sk), .val (.int lt), .val (.int nb), .val (.int sp), .val (.int (5 : Int32)), .unset, .unset, .unset, .unset]) rfl ?_
        refine own_iload X108 hx hby at_259 (pc' := 261) rfl rfl ?_
        refine own_ifY X108 hx hby at_261 (pc' := 289) (by decide) (by decide) (show (0 : Int32) = (0 : Int32) by decide) ?_
        refine own_aload X108 hx hby at_289 (pc' := 291) rfl rfl rfl ?_
        refine own_iload X108 hx hby at_291 (pc' := 293) rfl rfl ?_
        refine own_bipush X108 hx hby at_293 (pc' := 295) rfl (n := (62 : Int32)) (by decide) ?_
        obtain ⟨cl109, Ar109, q109, S109, M109, H109, G109⟩ := id f_V_d
        have hin109 : ¬ ((5 : Int32) < 0 ∨ cl109.slots.size ≤ ((5 : Int32)).toNatClampNeg) := inb_of S109 ⟨by decide, by decide⟩
        refine own_bastore X108 hx hZ hby e108 Ar109 hin109 at_295 (pc' := 296) rfl (fun T110 h110 X110 e110 W110 => ?_)
        have f_V_d := Arv.set Ar109 q109 S109 M109 H109 G109 (fits_nar_byte _) W110 5 rfl (Nat.le_of_ble_eq_true rfl)
        have f_V_d : Arv Z h110 d kk .byte (10 : Int32) [w0, w1, (.int (60 : Int32)), (.int (nb.toInt8.toInt32)), (.int (sp.toInt8.toInt32)), (.int ((62 : Int32).toInt8.toInt32)), w6, w7, w8, w9] (.int (0 : Int32)) := f_V_d
        have f_V_d : Arv Z h110 d kk .byte (10 : Int32) [w0, w1, (.int (60 : Int32)), (.int (nb.toInt8.toInt32)), (.int (sp.toInt8.toInt32)), (.int (62 : Int32)), w6, w7, w8, w9] (.int (0 : Int32)) := f_V_d
        have f_S_java_lang_String_COMPACT_STRINGS := f_S_java_lang_String_COMPACT_STRINGS.wr W110
        have Zn := Nat.le_trans Zn (Keep.of_wr W110).1
        have hSn := Nat.le_trans hSn (Keep.of_wr W110).1
        have N110 := Fr.snoc X110 N108 ge_d
        refine own_iload X110 hx hby at_296 (pc' := 298) rfl rfl ?_
        refine own_iconst X110 hx hby at_298 (pc' := 299) rfl (n := (1 : Int32)) (by decide) ?_
        refine own_iadd X110 hx hby at_299 (pc' := 300) rfl ?_
        show own_End p e below _ (T110.setTop (mkF m 300 #[.val (.long p0), .second, .val (.int p1), .val (.int p2), .val (.ref d), .val (.int (2 : Int32)), .val (.int (0 : Int32)), .val (.int (1 : Int32)), .val (.int sk), .val (.int lt), .val (.int nb), .val (.int sp), .val (.int (5 : Int32)), .unset, .unset, .unset, .unset] [(.int (6 : Int32))]))
        refine own_istore X110 hx hby at_300 (pc' := 302) rfl (l' := #[.val (.long p0), .second, .val (.int p1), .val (.int p2), .val (.ref d), .val (.int (2 : Int32)), .val (.int (0 : Int32)), .val (.int (1 : Int32)), .val (.int sk), .val (.int lt), .val (.int nb), .val (.int sp), .val (.int (5 : Int32)), .val (.int (6 : Int32)), .unset, .unset, .unset]) rfl ?_
        refine own_iload X110 hx hby at_302 (pc' := 304) rfl rfl ?_
        refine own_ifY X110 hx hby at_304 (pc' := 312) (by decide) (by decide) (show (0 : Int32) = (0 : Int32) by decide) ?_
        refine own_bipush X110 hx hby at_312 (pc' := 314) rfl (n := (10 : Int32)) (by decide) ?_
        refine own_istore X110 hx hby at_314 (pc' := 316) rfl (l' := #[.val (.long p0), .second, .val (.int p1), .val (.int p2), .val (.ref d), .val (.int (2 : Int32)), .val (.int (0 : Int32)), .val (.int (1 : Int32)), .val (.int sk), .val (.int lt), .val (.int nb), .val (.int sp), .val (.int (5 : Int32)), .val (.int (6 : Int32)), .val (.int (10 : Int32)), .unset, .unset]) rfl ?_
        refine own_new X110 hx hZ hby hown (wd_2 hw) (wd_3 hw) (wd_4 hw) e110 at_316 (pc' := 319) rfl (by decide) (by decide) (fun T111 h111 b111 g111 X111 e111 E111 A111 D111 => ?_)
        have ne_d_b111 : d ≠ b111 := Nat.ne_of_lt (by rw [g111]; exact f_V_d.lt)
        have ge_b111 : n0 ≤ b111 := by rw [g111]; exact Zn
        have f_V_d := f_V_d.ext E111
        have f_S_java_lang_String_COMPACT_STRINGS := f_S_java_lang_String_COMPACT_STRINGS.ext E111
        have Zn := Nat.le_trans Zn E111.1
        have hSn := Nat.le_trans hSn E111.1
        have f_O_b111 : own_ST Z h111 b111 (0 : Int32) (0 : Int32) (0 : Int32) (0 : Int32) .null .null .null .null := ⟨A111, D111 (Or.inr (wd_44 hw)) (ty := .int) (by decide), D111 (Or.inr (wd_46 hw)) (ty := .int) (by decide), D111 (Or.inr (wd_48 hw)) (ty := .int) (by decide), D111 (Or.inr (wd_50 hw)) (ty := .int) (by decide), D111 (Or.inr (wd_52 hw)) (ty := (.object "java/lang/String")) (by decide), D111 (Or.inr (wd_54 hw)) (ty := (.object "java/lang/String")) (by decide), D111 (Or.inr (wd_56 hw)) (ty := (.array .int)) (by decide), D111 (Or.inr (wd_58 hw)) (ty := (.object "java/util/Map")) (by decide)⟩
        refine own_dup X111 hx hby at_319 (pc' := 320) rfl rfl ?_
        refine own_iconst X111 hx hby at_320 (pc' := 321) rfl (n := (1 : Int32)) (by decide) ?_
        refine own_iload X111 hx hby at_321 (pc' := 323) rfl rfl ?_
        refine own_iload X111 hx hby at_323 (pc' := 325) rfl rfl ?_
        refine own_iconst X111 hx hby at_325 (pc' := 326) rfl (n := (2 : Int32)) (by decide) ?_
        refine own_iadd X111 hx hby at_326 (pc' := 327) rfl ?_
        show own_End p e below _ (T111.setTop (mkF m 327 #[.val (.long p0), .second, .val (.int p1), .val (.int p2), .val (.ref d), .val (.int (2 : Int32)), .val (.int (0 : Int32)), .val (.int (1 : Int32)), .val (.int sk), .val (.int lt), .val (.int nb), .val (.int sp), .val (.int (5 : Int32)), .val (.int (6 : Int32)), .val (.int (10 : Int32)), .unset, .unset] [(.int (4 : Int32)), (.int (2 : Int32)), (.int (1 : Int32)), (.ref b111), (.ref b111)]))
        refine own_iload X111 hx hby at_327 (pc' := 329) rfl rfl ?_
        obtain ⟨a112, T112, h112, k112, X112, e112, E112, hS, hSn, hZ, hown, st112⟩ := ldcS X111 hx hZ hown (wd_5 hw) (own_wS hw) e111 hS hSn (g := (mkF m 329 #[.val (.long p0), .second, .val (.int p1), .val (.int p2), .val (.ref d), .val (.int (2 : Int32)), .val (.int (0 : Int32)), .val (.int (1 : Int32)), .val (.int sk), .val (.int lt), .val (.int nb), .val (.int sp), .val (.int (5 : Int32)), .val (.int (6 : Int32)), .val (.int (10 : Int32)), .unset, .unset] [(.int (6 : Int32)), (.int (4 : Int32)), (.int (2 : Int32)), (.int (1 : Int32)), (.ref b111), (.ref b111)])) rfl (hb hby at_329) (n := 0) (by decide) (by decide) (by decide) (by decide)
        refine own_step st112 ?_
        have f_V_d := f_V_d.ext E112
        have f_S_java_lang_String_COMPACT_STRINGS := f_S_java_lang_String_COMPACT_STRINGS.ext E112
        have f_O_b111 := f_O_b111.ext E112
        have Zn := Nat.le_trans Zn E112.1
        show own_End p e below _ (T112.setTop (mkF m 331 #[.val (.long p0), .second, .val (.int p1), .val (.int p2), .val (.ref d), .val (.int (2 : Int32)), .val (.int (0 : Int32)), .val (.int (1 : Int32)), .val (.int sk), .val (.int lt), .val (.int nb), .val (.int sp), .val (.int (5 : Int32)), .val (.int (6 : Int32)), .val (.int (10 : Int32)), .unset, .unset] [(.ref a112), (.int (6 : Int32)), (.int (4 : Int32)), (.int (2 : Int32)), (.int (1 : Int32)), (.ref b111), (.ref b111)]))
        refine own_iload X112 hx hby at_331 (pc' := 333) rfl rfl ?_
        refine own_sipush X112 hx hby at_333 (pc' := 336) rfl (n := (255 : Int32)) (by decide) ?_
        refine own_iand X112 hx hby at_336 (pc' := 337) rfl ?_
        refine own_i2c X112 hx hby at_337 (pc' := 338) rfl ?_
        rw [i2c_mask]
        show own_End p e below _ (T112.setTop (mkF m 338 #[.val (.long p0), .second, .val (.int p1), .val (.int p2), .val (.ref d), .val (.int (2 : Int32)), .val (.int (0 : Int32)), .val (.int (1 : Int32)), .val (.int sk), .val (.int lt), .val (.int nb), .val (.int sp), .val (.int (5 : Int32)), .val (.int (6 : Int32)), .val (.int (10 : Int32)), .unset, .unset] [(.int (nb &&& (255 : Int32))), (.ref a112), (.int (6 : Int32)), (.int (4 : Int32)), (.int (2 : Int32)), (.int (1 : Int32)), (.ref b111), (.ref b111)]))
        refine own_lk5 hw X112 hx hZ hby (by rw [hml]; rfl) hown at_338 (pc' := 341) rfl e112 (W := 7) (Nat.le_of_eq rfl) (rm1 l Z a0 hw [] (nb &&& (255 : Int32)) cs h112 n0 Zn f_S_java_lang_String_COMPACT_STRINGS hcs (own_chr2 _)) (by decide) (by decide) (by decide) (by decide) (fun v114 T114 L114 X114 hQ114 => ?_)
        obtain ⟨w113, rfl, Nq114, K114, gw114⟩ := hQ114
        have N114 := Fr.app N110 Nq114
        have f_S_java_lang_String_COMPACT_STRINGS := own_sta0 f_S_java_lang_String_COMPACT_STRINGS K114
        have f_V_d := f_V_d.keep K114 nin0
        have f_O_b111 := f_O_b111.keep K114 nin0
        have Zn := Nat.le_trans Zn K114.1
        have hSn := Nat.le_trans hSn K114.1
        show own_End p e below _ (T114.setTop (mkF m 341 _ [(.ref w113), (.ref a112), (.int (6 : Int32)), (.int (4 : Int32)), (.int (2 : Int32)), (.int (1 : Int32)), (.ref b111), (.ref b111)]))
        refine own_iconst X114 hx hby at_341 (pc' := 342) rfl (n := (0 : Int32)) (by decide) ?_
        refine own_newP (aty := .int) X114 hx hZ hby (wd_33 hw) rfl at_342 (pc' := 344) rfl (by decide) (cap := 0) (by decide) (by decide) (by decide) (by decide) (fun T115 h115 k115 b115 g115 X115 e115 E115 A115 => ?_)
        have ne_d_b115 : d ≠ b115 := Nat.ne_of_lt (by rw [g115]; exact f_V_d.lt)
        have ne_b111_b115 : b111 ≠ b115 := Nat.ne_of_lt (by rw [g115]; exact f_O_b111.lt)
        have ge_b115 : n0 ≤ b115 := by rw [g115]; exact Zn
        have f_V_d := f_V_d.ext E115
        have f_S_java_lang_String_COMPACT_STRINGS := f_S_java_lang_String_COMPACT_STRINGS.ext E115
        have f_O_b111 := f_O_b111.ext E115
        have Zn := Nat.le_trans Zn E115.1
        have hSn := Nat.le_trans hSn E115.1
        have f_V_b115 : Arv Z h115 b115 k115 .int (0 : Int32) [] (.int (0 : Int32)) := Arv.new A115 (by decide)
        refine own_aconst_null X115 hx hby at_344 (pc' := 345) rfl ?_
        refine own_lk6 hw X115 hx hZ hby (by rw [hml]; rfl) hown at_345 (pc' := 348) rfl e115 (W := 1) (Nat.le_of_eq rfl) (rm6 l Z a0 hw [] b111 (1 : Int32) (2 : Int32) (4 : Int32) (6 : Int32) a112 w113 b115 h115 n0 Zn f_O_b111 ge_b111) (by decide) (by decide) (by decide) (by decide) (fun v116 T116 L116 X116 hQ116 => ?_)
        obtain ⟨rfl, Nq116, K116, O116⟩ := hQ116
        have N116 := Fr.app N114 Nq116
        have f_S_java_lang_String_COMPACT_STRINGS := own_sta1 f_S_java_lang_String_COMPACT_STRINGS K116 f_O_b111.1
        have f_V_d := f_V_d.keep K116 (ninS ne_d_b111 nin0)
        have f_V_b115 := f_V_b115.keep K116 (ninS (Ne.symm ne_b111_b115) nin0)
        have Zn := Nat.le_trans Zn K116.1
        have hSn := Nat.le_trans hSn K116.1
        show own_End p e below _ (T116.setTop (mkF m 348 _ [(.ref b111)]))
        refine own_astore X116 hx hby at_348 (pc' := 350) rfl rfl (l' := #[.val (.long p0), .second, .val (.int p1), .val (.int p2), .val (.ref d), .val (.int (2 : Int32)), .val (.int (0 : Int32)), .val (.int (1 : Int32)), .val (.int sk), .val (.int lt), .val (.int nb), .val (.int sp), .val (.int (5 : Int32)), .val (.int (6 : Int32)), .val (.int (10 : Int32)), .val (.ref b111), .unset]) rfl ?_
        refine own_new X116 hx hZ hby hown (wd_59 hw) (wd_60 hw) (wd_61 hw) rfl at_350 (pc' := 353) rfl (by decide) (by decide) (fun T117 h117 b117 g117 X117 e117 E117 A117 D117 => ?_)
        have ne_d_b117 : d ≠ b117 := Nat.ne_of_lt (by rw [g117]; exact f_V_d.lt)
        have ne_b115_b117 : b115 ≠ b117 := Nat.ne_of_lt (by rw [g117]; exact f_V_b115.lt)
        have ne_b111_b117 : b111 ≠ b117 := Nat.ne_of_lt (by rw [g117]; exact O116.lt)
        have ge_b117 : n0 ≤ b117 := by rw [g117]; exact Zn
        have f_V_d := f_V_d.ext E117
        have f_S_java_lang_String_COMPACT_STRINGS := f_S_java_lang_String_COMPACT_STRINGS.ext E117
        have f_V_b115 := f_V_b115.ext E117
        have O116 := O116.ext E117
        have Zn := Nat.le_trans Zn E117.1
        have hSn := Nat.le_trans hSn E117.1
        have f_O_b117 : own_XS Z h117 b117 .null .null (0 : Int32) .null .null := ⟨A117, D117 (Or.inr (wd_67 hw)) (ty := (.array .byte)) (by decide), D117 (Or.inr (wd_69 hw)) (ty := (.object "com/example/halyard/halyard/base/XmlScan$StartTag")) (by decide), D117 (Or.inr (wd_71 hw)) (ty := .int) (by decide), D117 (Or.inr (wd_73 hw)) (ty := (.object "java/util/List")) (by decide), D117 (Or.inr (wd_75 hw)) (ty := (.array .int)) (by decide)⟩
        refine own_dup X117 hx hby at_353 (pc' := 354) rfl rfl ?_
        refine own_aload X117 hx hby at_354 (pc' := 356) rfl rfl rfl ?_
        refine own_aload X117 hx hby at_356 (pc' := 358) rfl rfl rfl ?_
        refine own_iload X117 hx hby at_358 (pc' := 360) rfl rfl ?_
        refine own_aconst_null X117 hx hby at_360 (pc' := 361) rfl ?_
        refine own_iconst X117 hx hby at_361 (pc' := 362) rfl (n := (0 : Int32)) (by decide) ?_
        refine own_newP (aty := .int) X117 hx hZ hby (wd_33 hw) e117 at_362 (pc' := 364) rfl (by decide) (cap := 0) (by decide) (by decide) (by decide) (by decide) (fun T118 h118 k118 b118 g118 X118 e118 E118 A118 => ?_)
        have ne_d_b118 : d ≠ b118 := Nat.ne_of_lt (by rw [g118]; exact f_V_d.lt)
        have ne_b115_b118 : b115 ≠ b118 := Nat.ne_of_lt (by rw [g118]; exact f_V_b115.lt)
        have ne_b111_b118 : b111 ≠ b118 := Nat.ne_of_lt (by rw [g118]; exact O116.lt)
        have ne_b117_b118 : b117 ≠ b118 := Nat.ne_of_lt (by rw [g118]; exact f_O_b117.lt)
        have ge_b118 : n0 ≤ b118 := by rw [g118]; exact Zn
        have f_V_d := f_V_d.ext E118
        have f_S_java_lang_String_COMPACT_STRINGS := f_S_java_lang_String_COMPACT_STRINGS.ext E118
        have f_V_b115 := f_V_b115.ext E118
        have O116 := O116.ext E118
        have f_O_b117 := f_O_b117.ext E118
        have Zn := Nat.le_trans Zn E118.1
        have hSn := Nat.le_trans hSn E118.1
        have f_V_b118 : Arv Z h118 b118 k118 .int (0 : Int32) [] (.int (0 : Int32)) := Arv.new A118 (by decide)
        refine own_lk7 hw X118 hx hZ hby (by rw [hml]; rfl) hown at_364 (pc' := 367) rfl e118 (W := 1) (Nat.le_of_eq rfl) (rm8 l Z a0 hw [] b117 d b111 (10 : Int32) b118 h118 n0 Zn f_O_b117 ge_b117) (by decide) (by decide) (by decide) (by decide) (fun v119 T119 L119 X119 hQ119 => ?_)
        obtain ⟨rfl, Nq119, K119, O119⟩ := hQ119
        have N119 := Fr.app N116 Nq119
        have f_S_java_lang_String_COMPACT_STRINGS := own_sta1 f_S_java_lang_String_COMPACT_STRINGS K119 f_O_b117.1
        have f_V_d := f_V_d.keep K119 (ninS ne_d_b117 nin0)
        have f_V_b115 := f_V_b115.keep K119 (ninS ne_b115_b117 nin0)
        have O116 := O116.keep K119 (ninS ne_b111_b117 nin0)
        have f_V_b118 := f_V_b118.keep K119 (ninS (Ne.symm ne_b117_b118) nin0)
        have Zn := Nat.le_trans Zn K119.1
        have hSn := Nat.le_trans hSn K119.1
        show own_End p e below _ (T119.setTop (mkF m 367 _ [(.ref b117)]))
        refine own_astore X119 hx hby at_367 (pc' := 369) rfl rfl (l' := #[.val (.long p0), .second, .val (.int p1), .val (.int p2), .val (.ref d), .val (.int (2 : Int32)), .val (.int (0 : Int32)), .val (.int (1 : Int32)), .val (.int sk), .val (.int lt), .val (.int nb), .val (.int sp), .val (.int (5 : Int32)), .val (.int (6 : Int32)), .val (.int (10 : Int32)), .val (.ref b111), .val (.ref b117)]) rfl ?_
        refine own_aload X119 hx hby at_369 (pc' := 371) rfl rfl rfl ?_
        refine own_lk8 hw X119 hx hZ hby (by rw [hml]; rfl) hown at_371 (pc' := 374) rfl rfl O119.1 (W := 0) (Nat.le_of_eq rfl) (rm9b l Z a0 hw [] b117 d b111 (10 : Int32) .null rfl (.ref b118) rfl (1 : Int32) (2 : Int32) (4 : Int32) (6 : Int32) (.ref a112) rfl (.ref w113) rfl (.ref b115) rfl .null rfl kk (10 : Int32) [w0, w1, (.int (60 : Int32)), (.int (nb.toInt8.toInt32)), (.int (sp.toInt8.toInt32)), (.int (62 : Int32)), w6, w7, w8, w9] (sp.toInt8.toInt32) T119.heap n0 Zn O119 O116 f_V_d (by decide) rfl hsp) (by decide) (by decide) (by decide) (by decide) (fun v120 T120 L120 X120 hQ120 => ?_)
        obtain ⟨rfl, Nq120, e120⟩ := hQ120
        have N120 := Fr.app N119 Nq120
        show own_End p e below _ (T120.setTop (mkF m 374 _ [(.int (5 : Int32))]))
        refine own_iload X120 hx hby at_374 (pc' := 376) rfl rfl ?_
        refine own_icN X120 hx hby at_376 (pc' := 379) rfl (show (5 : Int32) = (5 : Int32) by decide) ?_
        refine own_iconst X120 hx hby at_379 (pc' := 380) rfl (n := (1 : Int32)) (by decide) ?_
        refine own_goto X120 hx hby at_380 (pc' := 384) (by decide) (by decide) ?_
        refine own_zreturn X120 hx hlk hby hret (Or.inr rfl) at_384 (own_lvS hS (by rw [e120]; exact hSn) ?_ (by decide) (by decide))
        show Q0 Z p0 p1 p2 cs  h0 n0 (some (.int (1 : Int32))) T120.heap _
        rw [e120]
        exact ⟨rfl, N120⟩
      · rw [hs66]
        show own_End p e below _ (T0.setTop (mkF m 221 #[.val (.long p0), .second, .val (.int p1), .val (.int p2), .val (.ref d), .val (.int (3 : Int32)), .val (.int (0 : Int32)), .val (.int (1 : Int32)), .val (.int sk), .val (.int lt), .val (.int nb), .val (.int sp), .unset, .unset, .unset, .unset, .unset] [(.ref d)]))
        refine own_iload X0 hx hby at_221 (pc' := 223) rfl rfl ?_
        refine own_bipush X0 hx hby at_223 (pc' := 225) rfl (n := (60 : Int32)) (by decide) ?_
        obtain ⟨cl121, Ar121, q121, S121, M121, H121, G121⟩ := id f_V_d
        have hin121 : ¬ ((3 : Int32) < 0 ∨ cl121.slots.size ≤ ((3 : Int32)).toNatClampNeg) := inb_of S121 ⟨by decide, by decide⟩
        refine own_bastore X0 hx hZ hby e1 Ar121 hin121 at_225 (pc' := 226) rfl (fun T122 h122 X122 e122 W122 => ?_)
        have f_V_d := Arv.set Ar121 q121 S121 M121 H121 G121 (fits_nar_byte _) W122 3 rfl (Nat.le_of_ble_eq_true rfl)
        have f_V_d : Arv Z h122 d kk .byte (10 : Int32) [w0, w1, w2, (.int ((60 : Int32).toInt8.toInt32)), w4, w5, w6, w7, w8, w9] (.int (0 : Int32)) := f_V_d
        have f_V_d : Arv Z h122 d kk .byte (10 : Int32) [w0, w1, w2, (.int (60 : Int32)), w4, w5, w6, w7, w8, w9] (.int (0 : Int32)) := f_V_d
        have f_S_java_lang_String_COMPACT_STRINGS := f_S_java_lang_String_COMPACT_STRINGS.wr W122
        have Zn := Nat.le_trans Z1 (Keep.of_wr W122).1
        have hSn := Nat.le_trans hSn (Keep.of_wr W122).1
        have N122 := Fr.snoc X122 N0 ge_d
        refine own_aload X122 hx hby at_226 (pc' := 228) rfl rfl rfl ?_
        refine own_iload X122 hx hby at_228 (pc' := 230) rfl rfl ?_
        refine own_iconst X122 hx hby at_230 (pc' := 231) rfl (n := (1 : Int32)) (by decide) ?_
        refine own_iadd X122 hx hby at_231 (pc' := 232) rfl ?_
        show own_End p e below _ (T122.setTop (mkF m 232 #[.val (.long p0), .second, .val (.int p1), .val (.int p2), .val (.ref d), .val (.int (3 : Int32)), .val (.int (0 : Int32)), .val (.int (1 : Int32)), .val (.int sk), .val (.int lt), .val (.int nb), .val (.int sp), .unset, .unset, .unset, .unset, .unset] [(.int (4 : Int32)), (.ref d)]))
        refine own_iload X122 hx hby at_232 (pc' := 234) rfl rfl ?_
        obtain ⟨cl123, Ar123, q123, S123, M123, H123, G123⟩ := id f_V_d
        have hin123 : ¬ ((4 : Int32) < 0 ∨ cl123.slots.size ≤ ((4 : Int32)).toNatClampNeg) := inb_of S123 ⟨by decide, by decide⟩
        refine own_bastore X122 hx hZ hby e122 Ar123 hin123 at_234 (pc' := 235) rfl (fun T124 h124 X124 e124 W124 => ?_)
        have f_V_d := Arv.set Ar123 q123 S123 M123 H123 G123 (fits_nar_byte _) W124 4 rfl (Nat.le_of_ble_eq_true rfl)
        have f_V_d : Arv Z h124 d kk .byte (10 : Int32) [w0, w1, w2, (.int (60 : Int32)), (.int (nb.toInt8.toInt32)), w5, w6, w7, w8, w9] (.int (0 : Int32)) := f_V_d
        have f_S_java_lang_String_COMPACT_STRINGS := f_S_java_lang_String_COMPACT_STRINGS.wr W124
        have Zn := Nat.le_trans Zn (Keep.of_wr W124).1
        have hSn := Nat.le_trans hSn (Keep.of_wr W124).1
        have N124 := Fr.snoc X124 N122 ge_d
        refine own_iload X124 hx hby at_235 (pc' := 237) rfl rfl ?_
        refine own_iconst X124 hx hby at_237 (pc' := 238) rfl (n := (2 : Int32)) (by decide) ?_
        refine own_iadd X124 hx hby at_238 (pc' := 239) rfl ?_
        show own_End p e below _ (T124.setTop (mkF m 239 #[.val (.long p0), .second, .val (.int p1), .val (.int p2), .val (.ref d), .val (.int (3 : Int32)), .val (.int (0 : Int32)), .val (.int (1 : Int32)), .val (.int sk), .val (.int lt), .val (.int nb), .val (.int sp), .unset, .unset, .unset, .unset, .unset] [(.int (5 : Int32))]))
        refine own_istore X124 hx hby at_239 (pc' := 241) rfl (l' := #[.val (.long p0), .second, .val (.int p1), .val (.int p2), .val (.ref d), .val (.int (3 : Int32)), .val (.int (0 : Int32)), .val (.int (1 : Int32)), .val (.int sk), .val (.int lt), .val (.int nb), .val (.int sp), .val (.int (5 : Int32)), .unset, .unset, .unset, .unset]) rfl ?_
        refine own_iload X124 hx hby at_241 (pc' := 243) rfl rfl ?_
        refine own_ifN X124 hx hby at_243 (pc' := 246) rfl (show ¬ (1 : Int32) = (0 : Int32) by decide) ?_
        refine own_aload X124 hx hby at_246 (pc' := 248) rfl rfl rfl ?_
        refine own_iload X124 hx hby at_248 (pc' := 250) rfl rfl ?_
        refine own_iload X124 hx hby at_250 (pc' := 252) rfl rfl ?_
        obtain ⟨cl125, Ar125, q125, S125, M125, H125, G125⟩ := id f_V_d
        have hin125 : ¬ ((5 : Int32) < 0 ∨ cl125.slots.size ≤ ((5 : Int32)).toNatClampNeg) := inb_of S125 ⟨by decide, by decide⟩
        refine own_bastore X124 hx hZ hby e124 Ar125 hin125 at_252 (pc' := 253) rfl (fun T126 h126 X126 e126 W126 => ?_)
        have f_V_d := Arv.set Ar125 q125 S125 M125 H125 G125 (fits_nar_byte _) W126 5 rfl (Nat.le_of_ble_eq_true rfl)
        have f_V_d : Arv Z h126 d kk .byte (10 : Int32) [w0, w1, w2, (.int (60 : Int32)), (.int (nb.toInt8.toInt32)), (.int (sp.toInt8.toInt32)), w6, w7, w8, w9] (.int (0 : Int32)) := f_V_d
        have f_S_java_lang_String_COMPACT_STRINGS := f_S_java_lang_String_COMPACT_STRINGS.wr W126
        have Zn := Nat.le_trans Zn (Keep.of_wr W126).1
        have hSn := Nat.le_trans hSn (Keep.of_wr W126).1
        have N126 := Fr.snoc X126 N124 ge_d
        refine own_iload X126 hx hby at_253 (pc' := 255) rfl rfl ?_
        refine own_iconst X126 hx hby at_255 (pc' := 256) rfl (n := (1 : Int32)) (by decide) ?_
        refine own_iadd X126 hx hby at_256 (pc' := 257) rfl ?_
        show own_End p e below _ (T126.setTop (mkF m 257 #[.val (.long p0), .second, .val (.int p1), .val (.int p2), .val (.ref d), .val (.int (3 : Int32)), .val (.int (0 : Int32)), .val (.int (1 : Int32)), .val (.int sk), .val (.int lt), .val (.int nb), .val (.int sp), .val (.int (5 : Int32)), .unset, .unset, .unset, .unset] [(.int (6 : Int32))]))
        refine own_istore X126 hx hby at_257 (pc' := 259) rfl (l' := #[.val (.long p0), .second, .val (.int p1), .val (.int p2), .val (.ref d), .val (.int (3 : Int32)), .val (.int (0 : Int32)), .val (.int (1 : Int32)), .val (.int sk), .val (.int lt), .val (.int nb), .val (.int sp), .val (.int (6 : Int32)), .unset, .unset, .unset, .unset]) rfl ?_
        refine own_iload X126 hx hby at_259 (pc' := 261) rfl rfl ?_
        refine own_ifY X126 hx hby at_261 (pc' := 289) (by decide) (by decide) (show (0 : Int32) = (0 : Int32) by decide) ?_
        refine own_aload X126 hx hby at_289 (pc' := 291) rfl rfl rfl ?_
        refine own_iload X126 hx hby at_291 (pc' := 293) rfl rfl ?_
        refine own_bipush X126 hx hby at_293 (pc' := 295) rfl (n := (62 : Int32)) (by decide) ?_
        obtain ⟨cl127, Ar127, q127, S127, M127, H127, G127⟩ := id f_V_d
        have hin127 : ¬ ((6 : Int32) < 0 ∨ cl127.slots.size ≤ ((6 : Int32)).toNatClampNeg) := inb_of S127 ⟨by decide, by decide⟩
        refine own_bastore X126 hx hZ hby e126 Ar127 hin127 at_295 (pc' := 296) rfl (fun T128 h128 X128 e128 W128 => ?_)
        have f_V_d := Arv.set Ar127 q127 S127 M127 H127 G127 (fits_nar_byte _) W128 6 rfl (Nat.le_of_ble_eq_true rfl)
        have f_V_d : Arv Z h128 d kk .byte (10 : Int32) [w0, w1, w2, (.int (60 : Int32)), (.int (nb.toInt8.toInt32)), (.int (sp.toInt8.toInt32)), (.int ((62 : Int32).toInt8.toInt32)), w7, w8, w9] (.int (0 : Int32)) := f_V_d
        have f_V_d : Arv Z h128 d kk .byte (10 : Int32) [w0, w1, w2, (.int (60 : Int32)), (.int (nb.toInt8.toInt32)), (.int (sp.toInt8.toInt32)), (.int (62 : Int32)), w7, w8, w9] (.int (0 : Int32)) := f_V_d
        have f_S_java_lang_String_COMPACT_STRINGS := f_S_java_lang_String_COMPACT_STRINGS.wr W128
        have Zn := Nat.le_trans Zn (Keep.of_wr W128).1
        have hSn := Nat.le_trans hSn (Keep.of_wr W128).1
        have N128 := Fr.snoc X128 N126 ge_d
        refine own_iload X128 hx hby at_296 (pc' := 298) rfl rfl ?_
        refine own_iconst X128 hx hby at_298 (pc' := 299) rfl (n := (1 : Int32)) (by decide) ?_
        refine own_iadd X128 hx hby at_299 (pc' := 300) rfl ?_
        show own_End p e below _ (T128.setTop (mkF m 300 #[.val (.long p0), .second, .val (.int p1), .val (.int p2), .val (.ref d), .val (.int (3 : Int32)), .val (.int (0 : Int32)), .val (.int (1 : Int32)), .val (.int sk), .val (.int lt), .val (.int nb), .val (.int sp), .val (.int (6 : Int32)), .unset, .unset, .unset, .unset] [(.int (7 : Int32))]))
        refine own_istore X128 hx hby at_300 (pc' := 302) rfl (l' := #[.val (.long p0), .second, .val (.int p1), .val (.int p2), .val (.ref d), .val (.int (3 : Int32)), .val (.int (0 : Int32)), .val (.int (1 : Int32)), .val (.int sk), .val (.int lt), .val (.int nb), .val (.int sp), .val (.int (6 : Int32)), .val (.int (7 : Int32)), .unset, .unset, .unset]) rfl ?_
        refine own_iload X128 hx hby at_302 (pc' := 304) rfl rfl ?_
        refine own_ifY X128 hx hby at_304 (pc' := 312) (by decide) (by decide) (show (0 : Int32) = (0 : Int32) by decide) ?_
        refine own_bipush X128 hx hby at_312 (pc' := 314) rfl (n := (10 : Int32)) (by decide) ?_
        refine own_istore X128 hx hby at_314 (pc' := 316) rfl (l' := #[.val (.long p0), .second, .val (.int p1), .val (.int p2), .val (.ref d), .val (.int (3 : Int32)), .val (.int (0 : Int32)), .val (.int (1 : Int32)), .val (.int sk), .val (.int lt), .val (.int nb), .val (.int sp), .val (.int (6 : Int32)), .val (.int (7 : Int32)), .val (.int (10 : Int32)), .unset, .unset]) rfl ?_
        refine own_new X128 hx hZ hby hown (wd_2 hw) (wd_3 hw) (wd_4 hw) e128 at_316 (pc' := 319) rfl (by decide) (by decide) (fun T129 h129 b129 g129 X129 e129 E129 A129 D129 => ?_)
        have ne_d_b129 : d ≠ b129 := Nat.ne_of_lt (by rw [g129]; exact f_V_d.lt)
        have ge_b129 : n0 ≤ b129 := by rw [g129]; exact Zn
        have f_V_d := f_V_d.ext E129
        have f_S_java_lang_String_COMPACT_STRINGS := f_S_java_lang_String_COMPACT_STRINGS.ext E129
        have Zn := Nat.le_trans Zn E129.1
        have hSn := Nat.le_trans hSn E129.1
        have f_O_b129 : own_ST Z h129 b129 (0 : Int32) (0 : Int32) (0 : Int32) (0 : Int32) .null .null .null .null := ⟨A129, D129 (Or.inr (wd_44 hw)) (ty := .int) (by decide), D129 (Or.inr (wd_46 hw)) (ty := .int) (by decide), D129 (Or.inr (wd_48 hw)) (ty := .int) (by decide), D129 (Or.inr (wd_50 hw)) (ty := .int) (by decide), D129 (Or.inr (wd_52 hw)) (ty := (.object "java/lang/String")) (by decide), D129 (Or.inr (wd_54 hw)) (ty := (.object "java/lang/String")) (by decide), D129 (Or.inr (wd_56 hw)) (ty := (.array .int)) (by decide), D129 (Or.inr (wd_58 hw)) (ty := (.object "java/util/Map")) (by decide)⟩
        refine own_dup X129 hx hby at_319 (pc' := 320) rfl rfl ?_
        refine own_iconst X129 hx hby at_320 (pc' := 321) rfl (n := (1 : Int32)) (by decide) ?_
        refine own_iload X129 hx hby at_321 (pc' := 323) rfl rfl ?_
        refine own_iload X129 hx hby at_323 (pc' := 325) rfl rfl ?_
        refine own_iconst X129 hx hby at_325 (pc' := 326) rfl (n := (2 : Int32)) (by decide) ?_
        refine own_iadd X129 hx hby at_326 (pc' := 327) rfl ?_
        show own_End p e below _ (T129.setTop (mkF m 327 #[.val (.long p0), .second, .val (.int p1), .val (.int p2), .val (.ref d), .val (.int (3 : Int32)), .val (.int (0 : Int32)), .val (.int (1 : Int32)), .val (.int sk), .val (.int lt), .val (.int nb), .val (.int sp), .val (.int (6 : Int32)), .val (.int (7 : Int32)), .val (.int (10 : Int32)), .unset, .unset] [(.int (5 : Int32)), (.int (3 : Int32)), (.int (1 : Int32)), (.ref b129), (.ref b129)]))
        refine own_iload X129 hx hby at_327 (pc' := 329) rfl rfl ?_
        obtain ⟨a130, T130, h130, k130, X130, e130, E130, hS, hSn, hZ, hown, st130⟩ := ldcS X129 hx hZ hown (wd_5 hw) (own_wS hw) e129 hS hSn (g := (mkF m 329 #[.val (.long p0), .second, .val (.int p1), .val (.int p2), .val (.ref d), .val (.int (3 : Int32)), .val (.int (0 : Int32)), .val (.int (1 : Int32)), .val (.int sk), .val (.int lt), .val (.int nb), .val (.int sp), .val (.int (6 : Int32)), .val (.int (7 : Int32)), .val (.int (10 : Int32)), .unset, .unset] [(.int (7 : Int32)), (.int (5 : Int32)), (.int (3 : Int32)), (.int (1 : Int32)), (.ref b129), (.ref b129)])) rfl (hb hby at_329) (n := 0) (by decide) (by decide) (by decide) (by decide)
        refine own_step st130 ?_
        have f_V_d := f_V_d.ext E130
        have f_S_java_lang_String_COMPACT_STRINGS := f_S_java_lang_String_COMPACT_STRINGS.ext E130
        have f_O_b129 := f_O_b129.ext E130
        have Zn := Nat.le_trans Zn E130.1
        show own_End p e below _ (T130.setTop (mkF m 331 #[.val (.long p0), .second, .val (.int p1), .val (.int p2), .val (.ref d), .val (.int (3 : Int32)), .val (.int (0 : Int32)), .val (.int (1 : Int32)), .val (.int sk), .val (.int lt), .val (.int nb), .val (.int sp), .val (.int (6 : Int32)), .val (.int (7 : Int32)), .val (.int (10 : Int32)), .unset, .unset] [(.ref a130), (.int (7 : Int32)), (.int (5 : Int32)), (.int (3 : Int32)), (.int (1 : Int32)), (.ref b129), (.ref b129)]))
        refine own_iload X130 hx hby at_331 (pc' := 333) rfl rfl ?_
        refine own_sipush X130 hx hby at_333 (pc' := 336) rfl (n := (255 : Int32)) (by decide) ?_
        refine own_iand X130 hx hby at_336 (pc' := 337) rfl ?_
        refine own_i2c X130 hx hby at_337 (pc' := 338) rfl ?_
        rw [i2c_mask]
        show own_End p e below _ (T130.setTop (mkF m 338 #[.val (.long p0), .second, .val (.int p1), .val (.int p2), .val (.ref d), .val (.int (3 : Int32)), .val (.int (0 : Int32)), .val (.int (1 : Int32)), .val (.int sk), .val (.int lt), .val (.int nb), .val (.int sp), .val (.int (6 : Int32)), .val (.int (7 : Int32)), .val (.int (10 : Int32)), .unset, .unset] [(.int (nb &&& (255 : Int32))), (.ref a130), (.int (7 : Int32)), (.int (5 : Int32)), (.int (3 : Int32)), (.int (1 : Int32)), (.ref b129), (.ref b129)]))
        refine own_lk5 hw X130 hx hZ hby (by rw [hml]; rfl) hown at_338 (pc' := 341) rfl e130 (W := 7) (Nat.le_of_eq rfl) (rm1 l Z a0 hw [] (nb &&& (255 : Int32)) cs h130 n0 Zn f_S_java_lang_String_COMPACT_STRINGS hcs (own_chr2 _)) (by decide) (by decide) (by decide) (by decide) (fun v132 T132 L132 X132 hQ132 => ?_)
        obtain ⟨w131, rfl, Nq132, K132, gw132⟩ := hQ132
        have N132 := Fr.app N128 Nq132
        have f_S_java_lang_String_COMPACT_STRINGS := own_sta0 f_S_java_lang_String_COMPACT_STRINGS K132
        have f_V_d := f_V_d.keep K132 nin0
        have f_O_b129 := f_O_b129.keep K132 nin0
        have Zn := Nat.le_trans Zn K132.1
        have hSn := Nat.le_trans hSn K132.1
        show own_End p e below _ (T132.setTop (mkF m 341 _ [(.ref w131), (.ref a130), (.int (7 : Int32)), (.int (5 : Int32)), (.int (3 : Int32)), (.int (1 : Int32)), (.ref b129), (.ref b129)]))
        refine own_iconst X132 hx hby at_341 (pc' := 342) rfl (n := (0 : Int32)) (by decide) ?_
        refine own_newP (aty := .int) X132 hx hZ hby (wd_33 hw) rfl at_342 (pc' := 344) rfl (by decide) (cap := 0) (by decide) (by decide) (by decide) (by decide) (fun T133 h133 k133 b133 g133 X133 e133 E133 A133 => ?_)
        have ne_d_b133 : d ≠ b133 := Nat.ne_of_lt (by rw [g133]; exact f_V_d.lt)
        have ne_b129_b133 : b129 ≠ b133 := Nat.ne_of_lt (by rw [g133]; exact f_O_b129.lt)
        have ge_b133 : n0 ≤ b133 := by rw [g133]; exact Zn
        have f_V_d := f_V_d.ext E133
        have f_S_java_lang_String_COMPACT_STRINGS := f_S_java_lang_String_COMPACT_STRINGS.ext E133
        have f_O_b129 := f_O_b129.ext E133
        have Zn := Nat.le_trans Zn E133.1
        have hSn := Nat.le_trans hSn E133.1
        have f_V_b133 : Arv Z h133 b133 k133 .int (0 : Int32) [] (.int (0 : Int32)) := Arv.new A133 (by decide)
        refine own_aconst_null X133 hx hby at_344 (pc' := 345) rfl ?_
        refine own_lk6 hw X133 hx hZ hby (by rw [hml]; rfl) hown at_345 (pc' := 348) rfl e133 (W := 1) (Nat.le_of_eq rfl) (rm6 l Z a0 hw [] b129 (1 : Int32) (3 : Int32) (5 : Int32) (7 : Int32) a130 w131 b133 h133 n0 Zn f_O_b129 ge_b129) (by decide) (by decide) (by decide) (by decide) (fun v134 T134 L134 X134 hQ134 => ?_)
        obtain ⟨rfl, Nq134, K134, O134⟩ := hQ134
        have N134 := Fr.app N132 Nq134
        have f_S_java_lang_String_COMPACT_STRINGS := own_sta1 f_S_java_lang_String_COMPACT_STRINGS K134 f_O_b129.1
        have f_V_d := f_V_d.keep K134 (ninS ne_d_b129 nin0)
        have f_V_b133 := f_V_b133.keep K134 (ninS (Ne.symm ne_b129_b133) nin0)
        have Zn := Nat.le_trans Zn K134.1
        have hSn := Nat.le_trans hSn K134.1
        show own_End p e below _ (T134.setTop (mkF m 348 _ [(.ref b129)]))
        refine own_astore X134 hx hby at_348 (pc' := 350) rfl rfl (l' := #[.val (.long p0), .second, .val (.int p1), .val (.int p2), .val (.ref d), .val (.int (3 : Int32)), .val (.int (0 : Int32)), .val (.int (1 : Int32)), .val (.int sk), .val (.int lt), .val (.int nb), .val (.int sp), .val (.int (6 : Int32)), .val (.int (7 : Int32)), .val (.int (10 : Int32)), .val (.ref b129), .unset]) rfl ?_
        refine own_new X134 hx hZ hby hown (wd_59 hw) (wd_60 hw) (wd_61 hw) rfl at_350 (pc' := 353) rfl (by decide) (by decide) (fun T135 h135 b135 g135 X135 e135 E135 A135 D135 => ?_)
        have ne_d_b135 : d ≠ b135 := Nat.ne_of_lt (by rw [g135]; exact f_V_d.lt)
        have ne_b133_b135 : b133 ≠ b135 := Nat.ne_of_lt (by rw [g135]; exact f_V_b133.lt)
        have ne_b129_b135 : b129 ≠ b135 := Nat.ne_of_lt (by rw [g135]; exact O134.lt)
        have ge_b135 : n0 ≤ b135 := by rw [g135]; exact Zn
        have f_V_d := f_V_d.ext E135
        have f_S_java_lang_String_COMPACT_STRINGS := f_S_java_lang_String_COMPACT_STRINGS.ext E135
        have f_V_b133 := f_V_b133.ext E135
        have O134 := O134.ext E135
        have Zn := Nat.le_trans Zn E135.1
        have hSn := Nat.le_trans hSn E135.1
        have f_O_b135 : own_XS Z h135 b135 .null .null (0 : Int32) .null .null := ⟨A135, D135 (Or.inr (wd_67 hw)) (ty := (.array .byte)) (by decide), D135 (Or.inr (wd_69 hw)) (ty := (.object "com/example/halyard/halyard/base/XmlScan$StartTag")) (by decide), D135 (Or.inr (wd_71 hw)) (ty := .int) (by decide), D135 (Or.inr (wd_73 hw)) (ty := (.object "java/util/List")) (by decide), D135 (Or.inr (wd_75 hw)) (ty := (.array .int)) (by decide)⟩
        refine own_dup X135 hx hby at_353 (pc' := 354) rfl rfl ?_
        refine own_aload X135 hx hby at_354 (pc' := 356) rfl rfl rfl ?_
        refine own_aload X135 hx hby at_356 (pc' := 358) rfl rfl rfl ?_
        refine own_iload X135 hx hby at_358 (pc' := 360) rfl rfl ?_
        refine own_aconst_null X135 hx hby at_360 (pc' := 361) rfl ?_
        refine own_iconst X135 hx hby at_361 (pc' := 362) rfl (n := (0 : Int32)) (by decide) ?_
        refine own_newP (aty := .int) X135 hx hZ hby (wd_33 hw) e135 at_362 (pc' := 364) rfl (by decide) (cap := 0) (by decide) (by decide) (by decide) (by decide) (fun T136 h136 k136 b136 g136 X136 e136 E136 A136 => ?_)
        have ne_d_b136 : d ≠ b136 := Nat.ne_of_lt (by rw [g136]; exact f_V_d.lt)
        have ne_b133_b136 : b133 ≠ b136 := Nat.ne_of_lt (by rw [g136]; exact f_V_b133.lt)
        have ne_b129_b136 : b129 ≠ b136 := Nat.ne_of_lt (by rw [g136]; exact O134.lt)
        have ne_b135_b136 : b135 ≠ b136 := Nat.ne_of_lt (by rw [g136]; exact f_O_b135.lt)
        have ge_b136 : n0 ≤ b136 := by rw [g136]; exact Zn
        have f_V_d := f_V_d.ext E136
        have f_S_java_lang_String_COMPACT_STRINGS := f_S_java_lang_String_COMPACT_STRINGS.ext E136
        have f_V_b133 := f_V_b133.ext E136
        have O134 := O134.ext E136
        have f_O_b135 := f_O_b135.ext E136
        have Zn := Nat.le_trans Zn E136.1
        have hSn := Nat.le_trans hSn E136.1
        have f_V_b136 : Arv Z h136 b136 k136 .int (0 : Int32) [] (.int (0 : Int32)) := Arv.new A136 (by decide)
        refine own_lk7 hw X136 hx hZ hby (by rw [hml]; rfl) hown at_364 (pc' := 367) rfl e136 (W := 1) (Nat.le_of_eq rfl) (rm8 l Z a0 hw [] b135 d b129 (10 : Int32) b136 h136 n0 Zn f_O_b135 ge_b135) (by decide) (by decide) (by decide) (by decide) (fun v137 T137 L137 X137 hQ137 => ?_)
        obtain ⟨rfl, Nq137, K137, O137⟩ := hQ137
        have N137 := Fr.app N134 Nq137
        have f_S_java_lang_String_COMPACT_STRINGS := own_sta1 f_S_java_lang_String_COMPACT_STRINGS K137 f_O_b135.1
        have f_V_d := f_V_d.keep K137 (ninS ne_d_b135 nin0)
        have f_V_b133 := f_V_b133.keep K137 (ninS ne_b133_b135 nin0)
        have O134 := O134.keep K137 (ninS ne_b129_b135 nin0)
        have f_V_b136 := f_V_b136.keep K137 (ninS (Ne.symm ne_b135_b136) nin0)
        have Zn := Nat.le_trans Zn K137.1
        have hSn := Nat.le_trans hSn K137.1
        show own_End p e below _ (T137.setTop (mkF m 367 _ [(.ref b135)]))
        refine own_astore X137 hx hby at_367 (pc' := 369) rfl rfl (l' := #[.val (.long p0), .second, .val (.int p1), .val (.int p2), .val (.ref d), .val (.int (3 : Int32)), .val (.int (0 : Int32)), .val (.int (1 : Int32)), .val (.int sk), .val (.int lt), .val (.int nb), .val (.int sp), .val (.int (6 : Int32)), .val (.int (7 : Int32)), .val (.int (10 : Int32)), .val (.ref b129), .val (.ref b135)]) rfl ?_
        refine own_aload X137 hx hby at_369 (pc' := 371) rfl rfl rfl ?_
        refine own_lk8 hw X137 hx hZ hby (by rw [hml]; rfl) hown at_371 (pc' := 374) rfl rfl O137.1 (W := 0) (Nat.le_of_eq rfl) (rm9b l Z a0 hw [] b135 d b129 (10 : Int32) .null rfl (.ref b136) rfl (1 : Int32) (3 : Int32) (5 : Int32) (7 : Int32) (.ref a130) rfl (.ref w131) rfl (.ref b133) rfl .null rfl kk (10 : Int32) [w0, w1, w2, (.int (60 : Int32)), (.int (nb.toInt8.toInt32)), (.int (sp.toInt8.toInt32)), (.int (62 : Int32)), w7, w8, w9] (sp.toInt8.toInt32) T137.heap n0 Zn O137 O134 f_V_d (by decide) rfl hsp) (by decide) (by decide) (by decide) (by decide) (fun v138 T138 L138 X138 hQ138 => ?_)
        obtain ⟨rfl, Nq138, e138⟩ := hQ138
        have N138 := Fr.app N137 Nq138
        show own_End p e below _ (T138.setTop (mkF m 374 _ [(.int (6 : Int32))]))
        refine own_iload X138 hx hby at_374 (pc' := 376) rfl rfl ?_
        refine own_icN X138 hx hby at_376 (pc' := 379) rfl (show (6 : Int32) = (6 : Int32) by decide) ?_
        refine own_iconst X138 hx hby at_379 (pc' := 380) rfl (n := (1 : Int32)) (by decide) ?_
        refine own_goto X138 hx hby at_380 (pc' := 384) (by decide) (by decide) ?_
        refine own_zreturn X138 hx hlk hby hret (Or.inr rfl) at_384 (own_lvS hS (by rw [e138]; exact hSn) ?_ (by decide) (by decide))
        show Q0 Z p0 p1 p2 cs  h0 n0 (some (.int (1 : Int32))) T138.heap _
        rw [e138]
        exact ⟨rfl, N138⟩
  · rcases hsd with rfl | rfl
    · rcases own_and3 p2 with hs139 | hs139 | hs139 | hs139
      · rw [hs139]
        show own_End p e below _ (T0.setTop (mkF m 221 #[.val (.long p0), .second, .val (.int p1), .val (.int p2), .val (.ref d), .val (.int (0 : Int32)), .val (.int (1 : Int32)), .val (.int (0 : Int32)), .val (.int sk), .val (.int lt), .val (.int nb), .val (.int sp), .unset, .unset, .unset, .unset, .unset] [(.ref d)]))
        refine own_iload X0 hx hby at_221 (pc' := 223) rfl rfl ?_
        refine own_bipush X0 hx hby at_223 (pc' := 225) rfl (n := (60 : Int32)) (by decide) ?_
        obtain ⟨cl140, Ar140, q140, S140, M140, H140, G140⟩ := id f_V_d
        have hin140 : ¬ ((0 : Int32) < 0 ∨ cl140.slots.size ≤ ((0 : Int32)).toNatClampNeg) := inb_of S140 ⟨by decide, by decide⟩
        refine own_bastore X0 hx hZ hby e1 Ar140 hin140 at_225 (pc' := 226) rfl (fun T141 h141 X141 e141 W141 => ?_)
        have f_V_d := Arv.set Ar140 q140 S140 M140 H140 G140 (fits_nar_byte _) W141 0 rfl (Nat.le_of_ble_eq_true rfl)
        have f_V_d : Arv Z h141 d kk .byte (10 : Int32) [(.int ((60 : Int32).toInt8.toInt32)), w1, w2, w3, w4, w5, w6, w7, w8, w9] (.int (0 : Int32)) := f_V_d
        have f_V_d : Arv Z h141 d kk .byte (10 : Int32) [(.int (60 : Int32)), w1, w2, w3, w4, w5, w6, w7, w8, w9] (.int (0 : Int32)) := f_V_d
        have f_S_java_lang_String_COMPACT_STRINGS := f_S_java_lang_String_COMPACT_STRINGS.wr W141
        have Zn := Nat.le_trans Z1 (Keep.of_wr W141).1
        have hSn := Nat.le_trans hSn (Keep.of_wr W141).1
        have N141 := Fr.snoc X141 N0 ge_d
        refine own_aload X141 hx hby at_226 (pc' := 228) rfl rfl rfl ?_
        refine own_iload X141 hx hby at_228 (pc' := 230) rfl rfl ?_
        refine own_iconst X141 hx hby at_230 (pc' := 231) rfl (n := (1 : Int32)) (by decide) ?_
        refine own_iadd X141 hx hby at_231 (pc' := 232) rfl ?_
        show own_End p e below _ (T141.setTop (mkF m 232 #[.val (.long p0), .second, .val (.int p1), .val (.int p2), .val (.ref d), .val (.int (0 : Int32)), .val (.int (1 : Int32)), .val (.int (0 : Int32)), .val (.int sk), .val (.int lt), .val (.int nb), .val (.int sp), .unset, .unset, .unset, .unset, .unset] [(.int (1 : Int32)), (.ref d)]))
        refine own_iload X141 hx hby at_232 (pc' := 234) rfl rfl ?_
        obtain ⟨cl142, Ar142, q142, S142, M142, H142, G142⟩ := id f_V_d
        have hin142 : ¬ ((1 : Int32) < 0 ∨ cl142.slots.size ≤ ((1 : Int32)).toNatClampNeg) := inb_of S142 ⟨by decide, by decide⟩
        refine own_bastore X141 hx hZ hby e141 Ar142 hin142 at_234 (pc' := 235) rfl (fun T143 h143 X143 e143 W143 => ?_)
        have f_V_d := Arv.set Ar142 q142 S142 M142 H142 G142 (fits_nar_byte _) W143 1 rfl (Nat.le_of_ble_eq_true rfl)
        have f_V_d : Arv Z h143 d kk .byte (10 : Int32) [(.int (60 : Int32)), (.int (nb.toInt8.toInt32)), w2, w3, w4, w5, w6, w7, w8, w9] (.int (0 : Int32)) := f_V_d
        have f_S_java_lang_String_COMPACT_STRINGS := f_S_java_lang_String_COMPACT_STRINGS.wr W143
        have Zn := Nat.le_trans Zn (Keep.of_wr W143).1
        have hSn := Nat.le_trans hSn (Keep.of_wr W143).1
        have N143 := Fr.snoc X143 N141 ge_d
        refine own_iload X143 hx hby at_235 (pc' := 237) rfl rfl ?_
        refine own_iconst X143 hx hby at_237 (pc' := 238) rfl (n := (2 : Int32)) (by decide) ?_
        refine own_iadd X143 hx hby at_238 (pc' := 239) rfl ?_
        show own_End p e below _ (T143.setTop (mkF m 239 #[.val (.long p0), .second, .val (.int p1), .val (.int p2), .val (.ref d), .val (.int (0 : Int32)), .val (.int (1 : Int32)), .val (.int (0 : Int32)), .val (.int sk), .val (.int lt), .val (.int nb), .val (.int sp), .unset, .unset, .unset, .unset, .unset] [(.int (2 : Int32))]))
        refine own_istore X143 hx hby at_239 (pc' := 241) rfl (l' := #[.val (.long p0), .second, .val (.int p1), .val (.int p2), .val (.ref d), .val (.int (0 : Int32)), .val (.int (1 : Int32)), .val (.int (0 : Int32)), .val (.int sk), .val (.int lt), .val (.int nb), .val (.int sp), .val (.int (2 : Int32)), .unset, .unset, .unset, .unset]) rfl ?_
        refine own_iload X143 hx hby at_241 (pc' := 243) rfl rfl ?_
        refine own_ifY X143 hx hby at_243 (pc' := 259) (by decide) (by decide) (show (0 : Int32) = (0 : Int32) by decide) ?_
        refine own_iload X143 hx hby at_259 (pc' := 261) rfl rfl ?_
        refine own_ifN X143 hx hby at_261 (pc' := 264) rfl (show ¬ (1 : Int32) = (0 : Int32) by decide) ?_
        refine own_aload X143 hx hby at_264 (pc' := 266) rfl rfl rfl ?_
        refine own_iload X143 hx hby at_266 (pc' := 268) rfl rfl ?_
        refine own_bipush X143 hx hby at_268 (pc' := 270) rfl (n := (47 : Int32)) (by decide) ?_
        obtain ⟨cl144, Ar144, q144, S144, M144, H144, G144⟩ := id f_V_d
        have hin144 : ¬ ((2 : Int32) < 0 ∨ cl144.slots.size ≤ ((2 : Int32)).toNatClampNeg) := inb_of S144 ⟨by decide, by decide⟩
        refine own_bastore X143 hx hZ hby e143 Ar144 hin144 at_270 (pc' := 271) rfl (fun T145 h145 X145 e145 W145 => ?_)
        have f_V_d := Arv.set Ar144 q144 S144 M144 H144 G144 (fits_nar_byte _) W145 2 rfl (Nat.le_of_ble_eq_true rfl)
        have f_V_d : Arv Z h145 d kk .byte (10 : Int32) [(.int (60 : Int32)), (.int (nb.toInt8.toInt32)), (.int ((47 : Int32).toInt8.toInt32)), w3, w4, w5, w6, w7, w8, w9] (.int (0 : Int32)) := f_V_d
        have f_V_d : Arv Z h145 d kk .byte (10 : Int32) [(.int (60 : Int32)), (.int (nb.toInt8.toInt32)), (.int (47 : Int32)), w3, w4, w5, w6, w7, w8, w9] (.int (0 : Int32)) := f_V_d
        have f_S_java_lang_String_COMPACT_STRINGS := f_S_java_lang_String_COMPACT_STRINGS.wr W145
        have Zn := Nat.le_trans Zn (Keep.of_wr W145).1
        have hSn := Nat.le_trans hSn (Keep.of_wr W145).1
        have N145 := Fr.snoc X145 N143 ge_d
        refine own_aload X145 hx hby at_271 (pc' := 273) rfl rfl rfl ?_
        refine own_iload X145 hx hby at_273 (pc' := 275) rfl rfl ?_
        refine own_iconst X145 hx hby at_275 (pc' := 276) rfl (n := (1 : Int32)) (by decide) ?_
        refine own_iadd X145 hx hby at_276 (pc' := 277) rfl ?_
        show own_End p e below _ (T145.setTop (mkF m 277 #[.val (.long p0), .second, .val (.int p1), .val (.int p2), .val (.ref d), .val (.int (0 : Int32)), .val (.int (1 : Int32)), .val (.int (0 : Int32)), .val (.int sk), .val (.int lt), .val (.int nb), .val (.int sp), .val (.int (2 : Int32)), .unset, .unset, .unset, .unset] [(.int (3 : Int32)), (.ref d)]))
        refine own_bipush X145 hx hby at_277 (pc' := 279) rfl (n := (62 : Int32)) (by decide) ?_
        obtain ⟨cl146, Ar146, q146, S146, M146, H146, G146⟩ := id f_V_d
        have hin146 : ¬ ((3 : Int32) < 0 ∨ cl146.slots.size ≤ ((3 : Int32)).toNatClampNeg) := inb_of S146 ⟨by decide, by decide⟩
        refine own_bastore X145 hx hZ hby e145 Ar146 hin146 at_279 (pc' := 280) rfl (fun T147 h147 X147 e147 W147 => ?_)
        have f_V_d := Arv.set Ar146 q146 S146 M146 H146 G146 (fits_nar_byte _) W147 3 rfl (Nat.le_of_ble_eq_true rfl)
        have f_V_d : Arv Z h147 d kk .byte (10 : Int32) [(.int (60 : Int32)), (.int (nb.toInt8.toInt32)), (.int (47 : Int32)), (.int ((62 : Int32).toInt8.toInt32)), w4, w5, w6, w7, w8, w9] (.int (0 : Int32)) := f_V_d
        have f_V_d : Arv Z h147 d kk .byte (10 : Int32) [(.int (60 : Int32)), (.int (nb.toInt8.toInt32)), (.int (47 : Int32)), (.int (62 : Int32)), w4, w5, w6, w7, w8, w9] (.int (0 : Int32)) := f_V_d
        have f_S_java_lang_String_COMPACT_STRINGS := f_S_java_lang_String_COMPACT_STRINGS.wr W147
        have Zn := Nat.le_trans Zn (Keep.of_wr W147).1
        have hSn := Nat.le_trans hSn (Keep.of_wr W147).1
        have N147 := Fr.snoc X147 N145 ge_d
        refine own_iload X147 hx hby at_280 (pc' := 282) rfl rfl ?_
        refine own_iconst X147 hx hby at_282 (pc' := 283) rfl (n := (2 : Int32)) (by decide) ?_
        refine own_iadd X147 hx hby at_283 (pc' := 284) rfl ?_
        show own_End p e below _ (T147.setTop (mkF m 284 #[.val (.long p0), .second, .val (.int p1), .val (.int p2), .val (.ref d), .val (.int (0 : Int32)), .val (.int (1 : Int32)), .val (.int (0 : Int32)), .val (.int sk), .val (.int lt), .val (.int nb), .val (.int sp), .val (.int (2 : Int32)), .unset, .unset, .unset, .unset] [(.int (4 : Int32))]))
        refine own_istore X147 hx hby at_284 (pc' := 286) rfl (l' := #[.val (.long p0), .second, .val (.int p1), .val (.int p2), .val (.ref d), .val (.int (0 : Int32)), .val (.int (1 : Int32)), .val (.int (0 : Int32)), .val (.int sk), .val (.int lt), .val (.int nb), .val (.int sp), .val (.int (2 : Int32)), .val (.int (4 : Int32)), .unset, .unset, .unset]) rfl ?_
        refine own_goto X147 hx hby at_286 (pc' := 302) (by decide) (by decide) ?_
        refine own_iload X147 hx hby at_302 (pc' := 304) rfl rfl ?_
        refine own_ifN X147 hx hby at_304 (pc' := 307) rfl (show ¬ (1 : Int32) = (0 : Int32) by decide) ?_
        refine own_iload X147 hx hby at_307 (pc' := 309) rfl rfl ?_
        refine own_goto X147 hx hby at_309 (pc' := 314) (by decide) (by decide) ?_
        refine own_istore X147 hx hby at_314 (pc' := 316) rfl (l' := #[.val (.long p0), .second, .val (.int p1), .val (.int p2), .val (.ref d), .val (.int (0 : Int32)), .val (.int (1 : Int32)), .val (.int (0 : Int32)), .val (.int sk), .val (.int lt), .val (.int nb), .val (.int sp), .val (.int (2 : Int32)), .val (.int (4 : Int32)), .val (.int (4 : Int32)), .unset, .unset]) rfl ?_
        refine own_new X147 hx hZ hby hown (wd_2 hw) (wd_3 hw) (wd_4 hw) e147 at_316 (pc' := 319) rfl (by decide) (by decide) (fun T148 h148 b148 g148 X148 e148 E148 A148 D148 => ?_)
        have ne_d_b148 : d ≠ b148 := Nat.ne_of_lt (by rw [g148]; exact f_V_d.lt)
        have ge_b148 : n0 ≤ b148 := by rw [g148]; exact Zn
        have f_V_d := f_V_d.ext E148
        have f_S_java_lang_String_COMPACT_STRINGS := f_S_java_lang_String_COMPACT_STRINGS.ext E148
        have Zn := Nat.le_trans Zn E148.1
        have hSn := Nat.le_trans hSn E148.1
        have f_O_b148 : own_ST Z h148 b148 (0 : Int32) (0 : Int32) (0 : Int32) (0 : Int32) .null .null .null .null := ⟨A148, D148 (Or.inr (wd_44 hw)) (ty := .int) (by decide), D148 (Or.inr (wd_46 hw)) (ty := .int) (by decide), D148 (Or.inr (wd_48 hw)) (ty := .int) (by decide), D148 (Or.inr (wd_50 hw)) (ty := .int) (by decide), D148 (Or.inr (wd_52 hw)) (ty := (.object "java/lang/String")) (by decide), D148 (Or.inr (wd_54 hw)) (ty := (.object "java/lang/String")) (by decide), D148 (Or.inr (wd_56 hw)) (ty := (.array .int)) (by decide), D148 (Or.inr (wd_58 hw)) (ty := (.object "java/util/Map")) (by decide)⟩
        refine own_dup X148 hx hby at_319 (pc' := 320) rfl rfl ?_
        refine own_iconst X148 hx hby at_320 (pc' := 321) rfl (n := (1 : Int32)) (by decide) ?_
        refine own_iload X148 hx hby at_321 (pc' := 323) rfl rfl ?_
        refine own_iload X148 hx hby at_323 (pc' := 325) rfl rfl ?_
        refine own_iconst X148 hx hby at_325 (pc' := 326) rfl (n := (2 : Int32)) (by decide) ?_
        refine own_iadd X148 hx hby at_326 (pc' := 327) rfl ?_
        show own_End p e below _ (T148.setTop (mkF m 327 #[.val (.long p0), .second, .val (.int p1), .val (.int p2), .val (.ref d), .val (.int (0 : Int32)), .val (.int (1 : Int32)), .val (.int (0 : Int32)), .val (.int sk), .val (.int lt), .val (.int nb), .val (.int sp), .val (.int (2 : Int32)), .val (.int (4 : Int32)), .val (.int (4 : Int32)), .unset, .unset] [(.int (2 : Int32)), (.int (0 : Int32)), (.int (1 : Int32)), (.ref b148), (.ref b148)]))
        refine own_iload X148 hx hby at_327 (pc' := 329) rfl rfl ?_
        obtain ⟨a149, T149, h149, k149, X149, e149, E149, hS, hSn, hZ, hown, st149⟩ := ldcS X148 hx hZ hown (wd_5 hw) (own_wS hw) e148 hS hSn (g := (mkF m 329 #[.val (.long p0), .second, .val (.int p1), .val (.int p2), .val (.ref d), .val (.int (0 : Int32)), .val (.int (1 : Int32)), .val (.int (0 : Int32)), .val (.int sk), .val (.int lt), .val (.int nb), .val (.int sp), .val (.int (2 : Int32)), .val (.int (4 : Int32)), .val (.int (4 : Int32)), .unset, .unset] [(.int (4 : Int32)), (.int (2 : Int32)), (.int (0 : Int32)), (.int (1 : Int32)), (.ref b148), (.ref b148)])) rfl (hb hby at_329) (n := 0) (by decide) (by decide) (by decide) (by decide)
        refine own_step st149 ?_
        have f_V_d := f_V_d.ext E149
        have f_S_java_lang_String_COMPACT_STRINGS := f_S_java_lang_String_COMPACT_STRINGS.ext E149
        have f_O_b148 := f_O_b148.ext E149
        have Zn := Nat.le_trans Zn E149.1
        show own_End p e below _ (T149.setTop (mkF m 331 #[.val (.long p0), .second, .val (.int p1), .val (.int p2), .val (.ref d), .val (.int (0 : Int32)), .val (.int (1 : Int32)), .val (.int (0 : Int32)), .val (.int sk), .val (.int lt), .val (.int nb), .val (.int sp), .val (.int (2 : Int32)), .val (.int (4 : Int32)), .val (.int (4 : Int32)), .unset, .unset] [(.ref a149), (.int (4 : Int32)), (.int (2 : Int32)), (.int (0 : Int32)), (.int (1 : Int32)), (.ref b148), (.ref b148)]))
        refine own_iload X149 hx hby at_331 (pc' := 333) rfl rfl ?_
        refine own_sipush X149 hx hby at_333 (pc' := 336) rfl (n := (255 : Int32)) (by decide) ?_
        refine own_iand X149 hx hby at_336 (pc' := 337) rfl ?_
        refine own_i2c X149 hx hby at_337 (pc' := 338) rfl ?_
        rw [i2c_mask]
        show own_End p e below _ (T149.setTop (mkF m 338 #[.val (.long p0), .second, .val (.int p1), .val (.int p2), .val (.ref d), .val (.int (0 : Int32)), .val (.int (1 : Int32)), .val (.int (0 : Int32)), .val (.int sk), .val (.int lt), .val (.int nb), .val (.int sp), .val (.int (2 : Int32)), .val (.int (4 : Int32)), .val (.int (4 : Int32)), .unset, .unset] [(.int (nb &&& (255 : Int32))), (.ref a149), (.int (4 : Int32)), (.int (2 : Int32)), (.int (0 : Int32)), (.int (1 : Int32)), (.ref b148), (.ref b148)]))
        refine own_lk5 hw X149 hx hZ hby (by rw [hml]; rfl) hown at_338 (pc' := 341) rfl e149 (W := 7) (Nat.le_of_eq rfl) (rm1 l Z a0 hw [] (nb &&& (255 : Int32)) cs h149 n0 Zn f_S_java_lang_String_COMPACT_STRINGS hcs (own_chr2 _)) (by decide) (by decide) (by decide) (by decide) (fun v151 T151 L151 X151 hQ151 => ?_)
        obtain ⟨w150, rfl, Nq151, K151, gw151⟩ := hQ151
        have N151 := Fr.app N147 Nq151
        have f_S_java_lang_String_COMPACT_STRINGS := own_sta0 f_S_java_lang_String_COMPACT_STRINGS K151
        have f_V_d := f_V_d.keep K151 nin0
        have f_O_b148 := f_O_b148.keep K151 nin0
        have Zn := Nat.le_trans Zn K151.1
        have hSn := Nat.le_trans hSn K151.1
        show own_End p e below _ (T151.setTop (mkF m 341 _ [(.ref w150), (.ref a149), (.int (4 : Int32)), (.int (2 : Int32)), (.int (0 : Int32)), (.int (1 : Int32)), (.ref b148), (.ref b148)]))
        refine own_iconst X151 hx hby at_341 (pc' := 342) rfl (n := (0 : Int32)) (by decide) ?_
        refine own_newP (aty := .int) X151 hx hZ hby (wd_33 hw) rfl at_342 (pc' := 344) rfl (by decide) (cap := 0) (by decide) (by decide) (by decide) (by decide) (fun T152 h152 k152 b152 g152 X152 e152 E152 A152 => ?_)
        have ne_d_b152 : d ≠ b152 := Nat.ne_of_lt (by rw [g152]; exact f_V_d.lt)
        have ne_b148_b152 : b148 ≠ b152 := Nat.ne_of_lt (by rw [g152]; exact f_O_b148.lt)
        have ge_b152 : n0 ≤ b152 := by rw [g152]; exact Zn
        have f_V_d := f_V_d.ext E152
        have f_S_java_lang_String_COMPACT_STRINGS := f_S_java_lang_String_COMPACT_STRINGS.ext E152
        have f_O_b148 := f_O_b148.ext E152
        have Zn := Nat.le_trans Zn E152.1
        have hSn := Nat.le_trans hSn E152.1
        have f_V_b152 : Arv Z h152 b152 k152 .int (0 : Int32) [] (.int (0 : Int32)) := Arv.new A152 (by decide)
        refine own_aconst_null X152 hx hby at_344 (pc' := 345) rfl ?_
        refine own_lk6 hw X152 hx hZ hby (by rw [hml]; rfl) hown at_345 (pc' := 348) rfl e152 (W := 1) (Nat.le_of_eq rfl) (rm6 l Z a0 hw [] b148 (1 : Int32) (0 : Int32) (2 : Int32) (4 : Int32) a149 w150 b152 h152 n0 Zn f_O_b148 ge_b148) (by decide) (by decide) (by decide) (by decide) (fun v153 T153 L153 X153 hQ153 => ?_)
        obtain ⟨rfl, Nq153, K153, O153⟩ := hQ153
        have N153 := Fr.app N151 Nq153
        have f_S_java_lang_String_COMPACT_STRINGS := own_sta1 f_S_java_lang_String_COMPACT_STRINGS K153 f_O_b148.1
        have f_V_d := f_V_d.keep K153 (ninS ne_d_b148 nin0)
        have f_V_b152 := f_V_b152.keep K153 (ninS (Ne.symm ne_b148_b152) nin0)
        have Zn := Nat.le_trans Zn K153.1
        have hSn := Nat.le_trans hSn K153.1
        show own_End p e below _ (T153.setTop (mkF m 348 _ [(.ref b148)]))
        refine own_astore X153 hx hby at_348 (pc' := 350) rfl rfl (l' := #[.val (.long p0), .second, .val (.int p1), .val (.int p2), .val (.ref d), .val (.int (0 : Int32)), .val (.int (1 : Int32)), .val (.int (0 : Int32)), .val (.int sk), .val (.int lt), .val (.int nb), .val (.int sp), .val (.int (2 : Int32)), .val (.int (4 : Int32)), .val (.int (4 : Int32)), .val (.ref b148), .unset]) rfl ?_
        refine own_new X153 hx hZ hby hown (wd_59 hw) (wd_60 hw) (wd_61 hw) rfl at_350 (pc' := 353) rfl (by decide) (by decide) (fun T154 h154 b154 g154 X154 e154 E154 A154 D154 => ?_)
        have ne_d_b154 : d ≠ b154 := Nat.ne_of_lt (by rw [g154]; exact f_V_d.lt)
        have ne_b152_b154 : b152 ≠ b154 := Nat.ne_of_lt (by rw [g154]; exact f_V_b152.lt)
        have ne_b148_b154 : b148 ≠ b154 := Nat.ne_of_lt (by rw [g154]; exact O153.lt)
        have ge_b154 : n0 ≤ b154 := by rw [g154]; exact Zn
        have f_V_d := f_V_d.ext E154
        have f_S_java_lang_String_COMPACT_STRINGS := f_S_java_lang_String_COMPACT_STRINGS.ext E154
        have f_V_b152 := f_V_b152.ext E154
        have O153 := O153.ext E154
        have Zn := Nat.le_trans Zn E154.1
        have hSn := Nat.le_trans hSn E154.1
        have f_O_b154 : own_XS Z h154 b154 .null .null (0 : Int32) .null .null := ⟨A154, D154 (Or.inr (wd_67 hw)) (ty := (.array .byte)) (by decide), D154 (Or.inr (wd_69 hw)) (ty := (.object "com/example/halyard/halyard/base/XmlScan$StartTag")) (by decide), D154 (Or.inr (wd_71 hw)) (ty := .int) (by decide), D154 (Or.inr (wd_73 hw)) (ty := (.object "java/util/List")) (by decide), D154 (Or.inr (wd_75 hw)) (ty := (.array .int)) (by decide)⟩
        refine own_dup X154 hx hby at_353 (pc' := 354) rfl rfl ?_
        refine own_aload X154 hx hby at_354 (pc' := 356) rfl rfl rfl ?_
        refine own_aload X154 hx hby at_356 (pc' := 358) rfl rfl rfl ?_
        refine own_iload X154 hx hby at_358 (pc' := 360) rfl rfl ?_
        refine own_aconst_null X154 hx hby at_360 (pc' := 361) rfl ?_
        refine own_iconst X154 hx hby at_361 (pc' := 362) rfl (n := (0 : Int32)) (by decide) ?_
        refine own_newP (aty := .int) X154 hx hZ hby (wd_33 hw) e154 at_362 (pc' := 364) rfl (by decide) (cap := 0) (by decide) (by decide) (by decide) (by decide) (fun T155 h155 k155 b155 g155 X155 e155 E155 A155 => ?_)
        have ne_d_b155 : d ≠ b155 := Nat.ne_of_lt (by rw [g155]; exact f_V_d.lt)
        have ne_b152_b155 : b152 ≠ b155 := Nat.ne_of_lt (by rw [g155]; exact f_V_b152.lt)
        have ne_b148_b155 : b148 ≠ b155 := Nat.ne_of_lt (by rw [g155]; exact O153.lt)
        have ne_b154_b155 : b154 ≠ b155 := Nat.ne_of_lt (by rw [g155]; exact f_O_b154.lt)
        have ge_b155 : n0 ≤ b155 := by rw [g155]; exact Zn
        have f_V_d := f_V_d.ext E155
        have f_S_java_lang_String_COMPACT_STRINGS := f_S_java_lang_String_COMPACT_STRINGS.ext E155
        have f_V_b152 := f_V_b152.ext E155
        have O153 := O153.ext E155
        have f_O_b154 := f_O_b154.ext E155
        have Zn := Nat.le_trans Zn E155.1
        have hSn := Nat.le_trans hSn E155.1
        have f_V_b155 : Arv Z h155 b155 k155 .int (0 : Int32) [] (.int (0 : Int32)) := Arv.new A155 (by decide)
        refine own_lk7 hw X155 hx hZ hby (by rw [hml]; rfl) hown at_364 (pc' := 367) rfl e155 (W := 1) (Nat.le_of_eq rfl) (rm8 l Z a0 hw [] b154 d b148 (4 : Int32) b155 h155 n0 Zn f_O_b154 ge_b154) (by decide) (by decide) (by decide) (by decide) (fun v156 T156 L156 X156 hQ156 => ?_)
        obtain ⟨rfl, Nq156, K156, O156⟩ := hQ156
        have N156 := Fr.app N153 Nq156
        have f_S_java_lang_String_COMPACT_STRINGS := own_sta1 f_S_java_lang_String_COMPACT_STRINGS K156 f_O_b154.1
        have f_V_d := f_V_d.keep K156 (ninS ne_d_b154 nin0)
        have f_V_b152 := f_V_b152.keep K156 (ninS ne_b152_b154 nin0)
        have O153 := O153.keep K156 (ninS ne_b148_b154 nin0)
        have f_V_b155 := f_V_b155.keep K156 (ninS (Ne.symm ne_b154_b155) nin0)
        have Zn := Nat.le_trans Zn K156.1
        have hSn := Nat.le_trans hSn K156.1
        show own_End p e below _ (T156.setTop (mkF m 367 _ [(.ref b154)]))
        refine own_astore X156 hx hby at_367 (pc' := 369) rfl rfl (l' := #[.val (.long p0), .second, .val (.int p1), .val (.int p2), .val (.ref d), .val (.int (0 : Int32)), .val (.int (1 : Int32)), .val (.int (0 : Int32)), .val (.int sk), .val (.int lt), .val (.int nb), .val (.int sp), .val (.int (2 : Int32)), .val (.int (4 : Int32)), .val (.int (4 : Int32)), .val (.ref b148), .val (.ref b154)]) rfl ?_
        refine own_aload X156 hx hby at_369 (pc' := 371) rfl rfl rfl ?_
        refine own_lk8 hw X156 hx hZ hby (by rw [hml]; rfl) hown at_371 (pc' := 374) rfl rfl O156.1 (W := 0) (Nat.le_of_eq rfl) (rm9a l Z a0 hw [] b154 d b148 (4 : Int32) .null rfl (.ref b155) rfl (1 : Int32) (0 : Int32) (2 : Int32) (4 : Int32) (.ref a149) rfl (.ref w150) rfl (.ref b152) rfl .null rfl kk (10 : Int32) [(.int (60 : Int32)), (.int (nb.toInt8.toInt32)), (.int (47 : Int32)), (.int (62 : Int32)), w4, w5, w6, w7, w8, w9] (47 : Int32) T156.heap n0 Zn O156 O153 f_V_d (by decide) rfl rfl) (by decide) (by decide) (by decide) (by decide) (fun v157 T157 L157 X157 hQ157 => ?_)
        obtain ⟨rfl, Nq157, e157⟩ := hQ157
        have N157 := Fr.app N156 Nq157
        show own_End p e below _ (T157.setTop (mkF m 374 _ [(.int (2 : Int32))]))
        refine own_iload X157 hx hby at_374 (pc' := 376) rfl rfl ?_
        refine own_icN X157 hx hby at_376 (pc' := 379) rfl (show (2 : Int32) = (2 : Int32) by decide) ?_
        refine own_iconst X157 hx hby at_379 (pc' := 380) rfl (n := (1 : Int32)) (by decide) ?_
        refine own_goto X157 hx hby at_380 (pc' := 384) (by decide) (by decide) ?_
        refine own_zreturn X157 hx hlk hby hret (Or.inr rfl) at_384 (own_lvS hS (by rw [e157]; exact hSn) ?_ (by decide) (by decide))
        show Q0 Z p0 p1 p2 cs  h0 n0 (some (.int (1 : Int32))) T157.heap _
        rw [e157]
        exact ⟨rfl, N157⟩
      · rw [hs139]
        show own_End p e below _ (T0.setTop (mkF m 221 #[.val (.long p0), .second, .val (.int p1), .val (.int p2), .val (.ref d), .val (.int (1 : Int32)), .val (.int (1 : Int32)), .val (.int (0 : Int32)), .val (.int sk), .val (.int lt), .val (.int nb), .val (.int sp), .unset, .unset, .unset, .unset, .unset] [(.ref d)]))
        refine own_iload X0 hx hby at_221 (pc' := 223) rfl rfl ?_
        refine own_bipush X0 hx hby at_223 (pc' := 225) rfl (n := (60 : Int32)) (by decide) ?_
        obtain ⟨cl158, Ar158, q158, S158, M158, H158, G158⟩ := id f_V_d
        have hin158 : ¬ ((1 : Int32) < 0 ∨ cl158.slots.size ≤ ((1 : Int32)).toNatClampNeg) := inb_of S158 ⟨by decide, by decide⟩
        refine own_bastore X0 hx hZ hby e1 Ar158 hin158 at_225 (pc' := 226) rfl (fun T159 h159 X159 e159 W159 => ?_)
        have f_V_d := Arv.set Ar158 q158 S158 M158 H158 G158 (fits_nar_byte _) W159 1 rfl (Nat.le_of_ble_eq_true rfl)
        have f_V_d : Arv Z h159 d kk .byte (10 : Int32) [w0, (.int ((60 : Int32).toInt8.toInt32)), w2, w3, w4, w5, w6, w7, w8, w9] (.int (0 : Int32)) := f_V_d
        have f_V_d : Arv Z h159 d kk .byte (10 : Int32) [w0, (.int (60 : Int32)), w2, w3, w4, w5, w6, w7, w8, w9] (.int (0 : Int32)) := f_V_d
        have f_S_java_lang_String_COMPACT_STRINGS := f_S_java_lang_String_COMPACT_STRINGS.wr W159
        have Zn := Nat.le_trans Z1 (Keep.of_wr W159).1
        have hSn := Nat.le_trans hSn (Keep.of_wr W159).1
        have N159 := Fr.snoc X159 N0 ge_d
        refine own_aload X159 hx hby at_226 (pc' := 228) rfl rfl rfl ?_
        refine own_iload X159 hx hby at_228 (pc' := 230) rfl rfl ?_
        refine own_iconst X159 hx hby at_230 (pc' := 231) rfl (n := (1 : Int32)) (by decide) ?_
        refine own_iadd X159 hx hby at_231 (pc' := 232) rfl ?_
        show own_End p e below _ (T159.setTop (mkF m 232 #[.val (.long p0), .second, .val (.int p1), .val (.int p2), .val (.ref d), .val (.int (1 : Int32)), .val (.int (1 : Int32)), .val (.int (0 : Int32)), .val (.int sk), .val (.int lt), .val (.int nb), .val (.int sp), .unset, .unset, .unset, .unset, .unset] [(.int (2 : Int32)), (.ref d)]))
        refine own_iload X159 hx hby at_232 (pc' := 234) rfl rfl ?_
        obtain ⟨cl160, Ar160, q160, S160, M160, H160, G160⟩ := id f_V_d
        have hin160 : ¬ ((2 : Int32) < 0 ∨ cl160.slots.size ≤ ((2 : Int32)).toNatClampNeg) := inb_of S160 ⟨by decide, by decide⟩
        refine own_bastore X159 hx hZ hby e159 Ar160 hin160 at_234 (pc' := 235) rfl (fun T161 h161 X161 e161 W161 => ?_)
        have f_V_d := Arv.set Ar160 q160 S160 M160 H160 G160 (fits_nar_byte _) W161 2 rfl (Nat.le_of_ble_eq_true rfl)
        have f_V_d : Arv Z h161 d kk .byte (10 : Int32) [w0, (.int (60 : Int32)), (.int (nb.toInt8.toInt32)), w3, w4, w5, w6, w7, w8, w9] (.int (0 : Int32)) := f_V_d
        have f_S_java_lang_String_COMPACT_STRINGS := f_S_java_lang_String_COMPACT_STRINGS.wr W161
        have Zn := Nat.le_trans Zn (Keep.of_wr W161).1
        have hSn := Nat.le_trans hSn (Keep.of_wr W161).1
        have N161 := Fr.snoc X161 N159 ge_d
        refine own_iload X161 hx hby at_235 (pc' := 237) rfl rfl ?_
        refine own_iconst X161 hx hby at_237 (pc' := 238) rfl (n := (2 : Int32)) (by decide) ?_
        refine own_iadd X161 hx hby at_238 (pc' := 239) rfl ?_
        show own_End p e below _ (T161.setTop (mkF m 239 #[.val (.long p0), .second, .val (.int p1), .val (.int p2), .val (.ref d), .val (.int (1 : Int32)), .val (.int (1 : Int32)), .val (.int (0 : Int32)), .val (.int sk), .val (.int lt), .val (.int nb), .val (.int sp), .unset, .unset, .unset, .unset, .unset] [(.int (3 : Int32))]))
        refine own_istore X161 hx hby at_239 (pc' := 241) rfl (l' := #[.val (.long p0), .second, .val (.int p1), .val (.int p2), .val (.ref d), .val (.int (1 : Int32)), .val (.int (1 : Int32)), .val (.int (0 : Int32)), .val (.int sk), .val (.int lt), .val (.int nb), .val (.int sp), .val (.int (3 : Int32)), .unset, .unset, .unset, .unset]) rfl ?_
        refine own_iload X161 hx hby at_241 (pc' := 243) rfl rfl ?_
        refine own_ifY X161 hx hby at_243 (pc' := 259) (by decide) (by decide) (show (0 : Int32) = (0 : Int32) by decide) ?_
        refine own_iload X161 hx hby at_259 (pc' := 261) rfl rfl ?_
        refine own_ifN X161 hx hby at_261 (pc' := 264) rfl (show ¬ (1 : Int32) = (0 : Int32) by decide) ?_
        refine own_aload X161 hx hby at_264 (pc' := 266) rfl rfl rfl ?_
        refine own_iload X161 hx hby at_266 (pc' := 268) rfl rfl ?_
        refine own_bipush X161 hx hby at_268 (pc' := 270) rfl (n := (47 : Int32)) (by decide) ?_
        obtain ⟨cl162, Ar162, q162, S162, M162, H162, G162⟩ := id f_V_d
        have hin162 : ¬ ((3 : Int32) < 0 ∨ cl162.slots.size ≤ ((3 : Int32)).toNatClampNeg) := inb_of S162 ⟨by decide, by decide⟩
        refine own_bastore X161 hx hZ hby e161 Ar162 hin162 at_270 (pc' := 271) rfl (fun T163 h163 X163 e163 W163 => ?_)
        have f_V_d := Arv.set Ar162 q162 S162 M162 H162 G162 (fits_nar_byte _) W163 3 rfl (Nat.le_of_ble_eq_true rfl)
        have f_V_d : Arv Z h163 d kk .byte (10 : Int32) [w0, (.int (60 : Int32)), (.int (nb.toInt8.toInt32)), (.int ((47 : Int32).toInt8.toInt32)), w4, w5, w6, w7, w8, w9] (.int (0 : Int32)) := f_V_d
        have f_V_d : Arv Z h163 d kk .byte (10 : Int32) [w0, (.int (60 : Int32)), (.int (nb.toInt8.toInt32)), (.int (47 : Int32)), w4, w5, w6, w7, w8, w9] (.int (0 : Int32)) := f_V_d
        have f_S_java_lang_String_COMPACT_STRINGS := f_S_java_lang_String_COMPACT_STRINGS.wr W163
        have Zn := Nat.le_trans Zn (Keep.of_wr W163).1
        have hSn := Nat.le_trans hSn (Keep.of_wr W163).1
        have N163 := Fr.snoc X163 N161 ge_d
        refine own_aload X163 hx hby at_271 (pc' := 273) rfl rfl rfl ?_
        refine own_iload X163 hx hby at_273 (pc' := 275) rfl rfl ?_
        refine own_iconst X163 hx hby at_275 (pc' := 276) rfl (n := (1 : Int32)) (by decide) ?_
        refine own_iadd X163 hx hby at_276 (pc' := 277) rfl ?_
        show own_End p e below _ (T163.setTop (mkF m 277 #[.val (.long p0), .second, .val (.int p1), .val (.int p2), .val (.ref d), .val (.int (1 : Int32)), .val (.int (1 : Int32)), .val (.int (0 : Int32)), .val (.int sk), .val (.int lt), .val (.int nb), .val (.int sp), .val (.int (3 : Int32)), .unset, .unset, .unset, .unset] [(.int (4 : Int32)), (.ref d)]))
        refine own_bipush X163 hx hby at_277 (pc' := 279) rfl (n := (62 : Int32)) (by decide) ?_
        obtain ⟨cl164, Ar164, q164, S164, M164, H164, G164⟩ := id f_V_d
        have hin164 : ¬ ((4 : Int32) < 0 ∨ cl164.slots.size ≤ ((4 : Int32)).toNatClampNeg) := inb_of S164 ⟨by decide, by decide⟩
        refine own_bastore X163 hx hZ hby e163 Ar164 hin164 at_279 (pc' := 280) rfl (fun T165 h165 X165 e165 W165 => ?_)
        have f_V_d := Arv.set Ar164 q164 S164 M164 H164 G164 (fits_nar_byte _) W165 4 rfl (Nat.le_of_ble_eq_true rfl)
        have f_V_d : Arv Z h165 d kk .byte (10 : Int32) [w0, (.int (60 : Int32)), (.int (nb.toInt8.toInt32)), (.int (47 : Int32)), (.int ((62 : Int32).toInt8.toInt32)), w5, w6, w7, w8, w9] (.int (0 : Int32)) := f_V_d
        have f_V_d : Arv Z h165 d kk .byte (10 : Int32) [w0, (.int (60 : Int32)), (.int (nb.toInt8.toInt32)), (.int (47 : Int32)), (.int (62 : Int32)), w5, w6, w7, w8, w9] (.int (0 : Int32)) := f_V_d
        have f_S_java_lang_String_COMPACT_STRINGS := f_S_java_lang_String_COMPACT_STRINGS.wr W165
        have Zn := Nat.le_trans Zn (Keep.of_wr W165).1
        have hSn := Nat.le_trans hSn (Keep.of_wr W165).1
        have N165 := Fr.snoc X165 N163 ge_d
        refine own_iload X165 hx hby at_280 (pc' := 282) rfl rfl ?_
        refine own_iconst X165 hx hby at_282 (pc' := 283) rfl (n := (2 : Int32)) (by decide) ?_
        refine own_iadd X165 hx hby at_283 (pc' := 284) rfl ?_
        show own_End p e below _ (T165.setTop (mkF m 284 #[.val (.long p0), .second, .val (.int p1), .val (.int p2), .val (.ref d), .val (.int (1 : Int32)), .val (.int (1 : Int32)), .val (.int (0 : Int32)), .val (.int sk), .val (.int lt), .val (.int nb), .val (.int sp), .val (.int (3 : Int32)), .unset, .unset, .unset, .unset] [(.int (5 : Int32))]))
        refine own_istore X165 hx hby at_284 (pc' := 286) rfl (l' := #[.val (.long p0), .second, .val (.int p1), .val (.int p2), .val (.ref d), .val (.int (1 : Int32)), .val (.int (1 : Int32)), .val (.int (0 : Int32)), .val (.int sk), .val (.int lt), .val (.int nb), .val (.int sp), .val (.int (3 : Int32)), .val (.int (5 : Int32)), .unset, .unset, .unset]) rfl ?_
        refine own_goto X165 hx hby at_286 (pc' := 302) (by decide) (by decide) ?_
        refine own_iload X165 hx hby at_302 (pc' := 304) rfl rfl ?_
        refine own_ifN X165 hx hby at_304 (pc' := 307) rfl (show ¬ (1 : Int32) = (0 : Int32) by decide) ?_
        refine own_iload X165 hx hby at_307 (pc' := 309) rfl rfl ?_
        refine own_goto X165 hx hby at_309 (pc' := 314) (by decide) (by decide) ?_
        refine own_istore X165 hx hby at_314 (pc' := 316) rfl (l' := #[.val (.long p0), .second, .val (.int p1), .val (.int p2), .val (.ref d), .val (.int (1 : Int32)), .val (.int (1 : Int32)), .val (.int (0 : Int32)), .val (.int sk), .val (.int lt), .val (.int nb), .val (.int sp), .val (.int (3 : Int32)), .val (.int (5 : Int32)), .val (.int (5 : Int32)), .unset, .unset]) rfl ?_
        refine own_new X165 hx hZ hby hown (wd_2 hw) (wd_3 hw) (wd_4 hw) e165 at_316 (pc' := 319) rfl (by decide) (by decide) (fun T166 h166 b166 g166 X166 e166 E166 A166 D166 => ?_)
        have ne_d_b166 : d ≠ b166 := Nat.ne_of_lt (by rw [g166]; exact f_V_d.lt)
        have ge_b166 : n0 ≤ b166 := by rw [g166]; exact Zn
        have f_V_d := f_V_d.ext E166
        have f_S_java_lang_String_COMPACT_STRINGS := f_S_java_lang_String_COMPACT_STRINGS.ext E166
        have Zn := Nat.le_trans Zn E166.1
        have hSn := Nat.le_trans hSn E166.1
        have f_O_b166 : own_ST Z h166 b166 (0 : Int32) (0 : Int32) (0 : Int32) (0 : Int32) .null .null .null .null := ⟨A166, D166 (Or.inr (wd_44 hw)) (ty := .int) (by decide), D166 (Or.inr (wd_46 hw)) (ty := .int) (by decide), D166 (Or.inr (wd_48 hw)) (ty := .int) (by decide), D166 (Or.inr (wd_50 hw)) (ty := .int) (by decide), D166 (Or.inr (wd_52 hw)) (ty := (.object "java/lang/String")) (by decide), D166 (Or.inr (wd_54 hw)) (ty := (.object "java/lang/String")) (by decide), D166 (Or.inr (wd_56 hw)) (ty := (.array .int)) (by decide), D166 (Or.inr (wd_58 hw)) (ty := (.object "java/util/Map")) (by decide)⟩
        refine own_dup X166 hx hby at_319 (pc' := 320) rfl rfl ?_
        refine own_iconst X166 hx hby at_320 (pc' := 321) rfl (n := (1 : Int32)) (by decide) ?_
        refine own_iload X166 hx hby at_321 (pc' := 323) rfl rfl ?_
        refine own_iload X166 hx hby at_323 (pc' := 325) rfl rfl ?_
        refine own_iconst X166 hx hby at_325 (pc' := 326) rfl (n := (2 : Int32)) (by decide) ?_
        refine own_iadd X166 hx hby at_326 (pc' := 327) rfl ?_
        show own_End p e below _ (T166.setTop (mkF m 327 #[.val (.long p0), .second, .val (.int p1), .val (.int p2), .val (.ref d), .val (.int (1 : Int32)), .val (.int (1 : Int32)), .val (.int (0 : Int32)), .val (.int sk), .val (.int lt), .val (.int nb), .val (.int sp), .val (.int (3 : Int32)), .val (.int (5 : Int32)), .val (.int (5 : Int32)), .unset, .unset] [(.int (3 : Int32)), (.int (1 : Int32)), (.int (1 : Int32)), (.ref b166), (.ref b166)]))
        refine own_iload X166 hx hby at_327 (pc' := 329) rfl rfl ?_
        obtain ⟨a167, T167, h167, k167, X167, e167, E167, hS, hSn, hZ, hown, st167⟩ := ldcS X166 hx hZ hown (wd_5 hw) (own_wS hw) e166 hS hSn (g := (mkF m 329 #[.val (.long p0), .second, .val (.int p1), .val (.int p2), .val (.ref d), .val (.int (1 : Int32)), .val (.int (1 : Int32)), .val (.int (0 : Int32)), .val (.int sk), .val (.int lt), .val (.int nb), .val (.int sp), .val (.int (3 : Int32)), .val (.int (5 : Int32)), .val (.int (5 : Int32)), .unset, .unset] [(.int (5 : Int32)), (.int (3 : Int32)), (.int (1 : Int32)), (.int (1 : Int32)), (.ref b166), (.ref b166)])) rfl (hb hby at_329) (n := 0) (by decide) (by decide) (by decide) (by decide)
        refine own_step st167 ?_
        have f_V_d := f_V_d.ext E167
        have f_S_java_lang_String_COMPACT_STRINGS := f_S_java_lang_String_COMPACT_STRINGS.ext E167
        have f_O_b166 := f_O_b166.ext E167
        have Zn := Nat.le_trans Zn E167.1
        show own_End p e below _ (T167.setTop (mkF m 331 #[.val (.long p0), .second, .val (.int p1), .val (.int p2), .val (.ref d), .val (.int (1 : Int32)), .val (.int (1 : Int32)), .val (.int (0 : Int32)), .val (.int sk), .val (.int lt), .val (.int nb), .val (.int sp), .val (.int (3 : Int32)), .val (.int (5 : Int32)), .val (.int (5 : Int32)), .unset, .unset] [(.ref a167), (.int (5 : Int32)), (.int (3 : Int32)), (.int (1 : Int32)), (.int (1 : Int32)), (.ref b166), (.ref b166)]))
        refine own_iload X167 hx hby at_331 (pc' := 333) rfl rfl ?_
        refine own_sipush X167 hx hby at_333 (pc' := 336) rfl (n := (255 : Int32)) (by decide) ?_
        refine own_iand X167 hx hby at_336 (pc' := 337) rfl ?_
        refine own_i2c X167 hx hby at_337 (pc' := 338) rfl ?_
        rw [i2c_mask]
        show own_End p e below _ (T167.setTop (mkF m 338 #[.val (.long p0), .second, .val (.int p1), .val (.int p2), .val (.ref d), .val (.int (1 : Int32)), .val (.int (1 : Int32)), .val (.int (0 : Int32)), .val (.int sk), .val (.int lt), .val (.int nb), .val (.int sp), .val (.int (3 : Int32)), .val (.int (5 : Int32)), .val (.int (5 : Int32)), .unset, .unset] [(.int (nb &&& (255 : Int32))), (.ref a167), (.int (5 : Int32)), (.int (3 : Int32)), (.int (1 : Int32)), (.int (1 : Int32)), (.ref b166), (.ref b166)]))
        refine own_lk5 hw X167 hx hZ hby (by rw [hml]; rfl) hown at_338 (pc' := 341) rfl e167 (W := 7) (Nat.le_of_eq rfl) (rm1 l Z a0 hw [] (nb &&& (255 : Int32)) cs h167 n0 Zn f_S_java_lang_String_COMPACT_STRINGS hcs (own_chr2 _)) (by decide) (by decide) (by decide) (by decide) (fun v169 T169 L169 X169 hQ169 => ?_)
        obtain ⟨w168, rfl, Nq169, K169, gw169⟩ := hQ169
        have N169 := Fr.app N165 Nq169
        have f_S_java_lang_String_COMPACT_STRINGS := own_sta0 f_S_java_lang_String_COMPACT_STRINGS K169
        have f_V_d := f_V_d.keep K169 nin0
        have f_O_b166 := f_O_b166.keep K169 nin0
        have Zn := Nat.le_trans Zn K169.1
        have hSn := Nat.le_trans hSn K169.1
        show own_End p e below _ (T169.setTop (mkF m 341 _ [(.ref w168), (.ref a167), (.int (5 : Int32)), (.int (3 : Int32)), (.int (1 : Int32)), (.int (1 : Int32)), (.ref b166), (.ref b166)]))
        refine own_iconst X169 hx hby at_341 (pc' := 342) rfl (n := (0 : Int32)) (by decide) ?_
        refine own_newP (aty := .int) X169 hx hZ hby (wd_33 hw) rfl at_342 (pc' := 344) rfl (by decide) (cap := 0) (by decide) (by decide) (by decide) (by decide) (fun T170 h170 k170 b170 g170 X170 e170 E170 A170 => ?_)
        have ne_d_b170 : d ≠ b170 := Nat.ne_of_lt (by rw [g170]; exact f_V_d.lt)
        have ne_b166_b170 : b166 ≠ b170 := Nat.ne_of_lt (by rw [g170]; exact f_O_b166.lt)
        have ge_b170 : n0 ≤ b170 := by rw [g170]; exact Zn
        have f_V_d := f_V_d.ext E170
        have f_S_java_lang_String_COMPACT_STRINGS := f_S_java_lang_String_COMPACT_STRINGS.ext E170
        have f_O_b166 := f_O_b166.ext E170
        have Zn := Nat.le_trans Zn E170.1
        have hSn := Nat.le_trans hSn E170.1
        have f_V_b170 : Arv Z h170 b170 k170 .int (0 : Int32) [] (.int (0 : Int32)) := Arv.new A170 (by decide)
        refine own_aconst_null X170 hx hby at_344 (pc' := 345) rfl ?_
        refine own_lk6 hw X170 hx hZ hby (by rw [hml]; rfl) hown at_345 (pc' := 348) rfl e170 (W := 1) (Nat.le_of_eq rfl) (rm6 l Z a0 hw [] b166 (1 : Int32) (1 : Int32) (3 : Int32) (5 : Int32) a167 w168 b170 h170 n0 Zn f_O_b166 ge_b166) (by decide) (by decide) (by decide) (by decide) (fun v171 T171 L171 X171 hQ171 => ?_)
        obtain ⟨rfl, Nq171, K171, O171⟩ := hQ171
        have N171 := Fr.app N169 Nq171
        have f_S_java_lang_String_COMPACT_STRINGS := own_sta1 f_S_java_lang_String_COMPACT_STRINGS K171 f_O_b166.1
        have f_V_d := f_V_d.keep K171 (ninS ne_d_b166 nin0)
        have f_V_b170 := f_V_b170.keep K171 (ninS (Ne.symm ne_b166_b170) nin0)
        have Zn := Nat.le_trans Zn K171.1
        have hSn := Nat.le_trans hSn K171.1
        show own_End p e below _ (T171.setTop (mkF m 348 _ [(.ref b166)]))
        refine own_astore X171 hx hby at_348 (pc' := 350) rfl rfl (l' := #[.val (.long p0), .second, .val (.int p1), .val (.int p2), .val (.ref d), .val (.int (1 : Int32)), .val (.int (1 : Int32)), .val (.int (0 : Int32)), .val (.int sk), .val (.int lt), .val (.int nb), .val (.int sp), .val (.int (3 : Int32)), .val (.int (5 : Int32)), .val (.int (5 : Int32)), .val (.ref b166), .unset]) rfl ?_
        refine own_new X171 hx hZ hby hown (wd_59 hw) (wd_60 hw) (wd_61 hw) rfl at_350 (pc' := 353) rfl (by decide) (by decide) (fun T172 h172 b172 g172 X172 e172 E172 A172 D172 => ?_)
        have ne_d_b172 : d ≠ b172 := Nat.ne_of_lt (by rw [g172]; exact f_V_d.lt)
        have ne_b170_b172 : b170 ≠ b172 := Nat.ne_of_lt (by rw [g172]; exact f_V_b170.lt)
        have ne_b166_b172 : b166 ≠ b172 := Nat.ne_of_lt (by rw [g172]; exact O171.lt)
        have ge_b172 : n0 ≤ b172 := by rw [g172]; exact Zn
        have f_V_d := f_V_d.ext E172
        have f_S_java_lang_String_COMPACT_STRINGS := f_S_java_lang_String_COMPACT_STRINGS.ext E172
        have f_V_b170 := f_V_b170.ext E172
        have O171 := O171.ext E172
        have Zn := Nat.le_trans Zn E172.1
        have hSn := Nat.le_trans hSn E172.1
        have f_O_b172 : own_XS Z h172 b172 .null .null (0 : Int32) .null .null := ⟨A172, D172 (Or.inr (wd_67 hw)) (ty := (.array .byte)) (by decide), D172 (Or.inr (wd_69 hw)) (ty := (.object "com/example/halyard/halyard/base/XmlScan$StartTag")) (by decide), D172 (Or.inr (wd_71 hw)) (ty := .int) (by decide), D172 (Or.inr (wd_73 hw)) (ty := (.object "java/util/List")) (by decide), D172 (Or.inr (wd_75 hw)) (ty := (.array .int)) (by decide)⟩
        refine own_dup X172 hx hby at_353 (pc' := 354) rfl rfl ?_
        refine own_aload X172 hx hby at_354 (pc' := 356) rfl rfl rfl ?_
        refine own_aload X172 hx hby at_356 (pc' := 358) rfl rfl rfl ?_
        refine own_iload X172 hx hby at_358 (pc' := 360) rfl rfl ?_
        refine own_aconst_null X172 hx hby at_360 (pc' := 361) rfl ?_
        refine own_iconst X172 hx hby at_361 (pc' := 362) rfl (n := (0 : Int32)) (by decide) ?_
        refine own_newP (aty := .int) X172 hx hZ hby (wd_33 hw) e172 at_362 (pc' := 364) rfl (by decide) (cap := 0) (by decide) (by decide) (by decide) (by decide) (fun T173 h173 k173 b173 g173 X173 e173 E173 A173 => ?_)
        have ne_d_b173 : d ≠ b173 := Nat.ne_of_lt (by rw [g173]; exact f_V_d.lt)
        have ne_b170_b173 : b170 ≠ b173 := Nat.ne_of_lt (by rw [g173]; exact f_V_b170.lt)
        have ne_b166_b173 : b166 ≠ b173 := Nat.ne_of_lt (by rw [g173]; exact O171.lt)
        have ne_b172_b173 : b172 ≠ b173 := Nat.ne_of_lt (by rw [g173]; exact f_O_b172.lt)
        have ge_b173 : n0 ≤ b173 := by rw [g173]; exact Zn
        have f_V_d := f_V_d.ext E173
        have f_S_java_lang_String_COMPACT_STRINGS := f_S_java_lang_String_COMPACT_STRINGS.ext E173
        have f_V_b170 := f_V_b170.ext E173
        have O171 := O171.ext E173
        have f_O_b172 := f_O_b172.ext E173
        have Zn := Nat.le_trans Zn E173.1
        have hSn := Nat.le_trans hSn E173.1
        have f_V_b173 : Arv Z h173 b173 k173 .int (0 : Int32) [] (.int (0 : Int32)) := Arv.new A173 (by decide)
        refine own_lk7 hw X173 hx hZ hby (by rw [hml]; rfl) hown at_364 (pc' := 367) rfl e173 (W := 1) (Nat.le_of_eq rfl) (rm8 l Z a0 hw [] b172 d b166 (5 : Int32) b173 h173 n0 Zn f_O_b172 ge_b172) (by decide) (by decide) (by decide) (by decide) (fun v174 T174 L174 X174 hQ174 => ?_)
        obtain ⟨rfl, Nq174, K174, O174⟩ := hQ174
        have N174 := Fr.app N171 Nq174
        have f_S_java_lang_String_COMPACT_STRINGS := own_sta1 f_S_java_lang_String_COMPACT_STRINGS K174 f_O_b172.1
        have f_V_d := f_V_d.keep K174 (ninS ne_d_b172 nin0)
        have f_V_b170 := f_V_b170.keep K174 (ninS ne_b170_b172 nin0)
        have O171 := O171.keep K174 (ninS ne_b166_b172 nin0)
        have f_V_b173 := f_V_b173.keep K174 (ninS (Ne.symm ne_b172_b173) nin0)
        have Zn := Nat.le_trans Zn K174.1
        have hSn := Nat.le_trans hSn K174.1
        show own_End p e below _ (T174.setTop (mkF m 367 _ [(.ref b172)]))
        refine own_astore X174 hx hby at_367 (pc' := 369) rfl rfl (l' := #[.val (.long p0), .second, .val (.int p1), .val (.int p2), .val (.ref d), .val (.int (1 : Int32)), .val (.int (1 : Int32)), .val (.int (0 : Int32)), .val (.int sk), .val (.int lt), .val (.int nb), .val (.int sp), .val (.int (3 : Int32)), .val (.int (5 : Int32)), .val (.int (5 : Int32)), .val (.ref b166), .val (.ref b172)]) rfl ?_
        refine own_aload X174 hx hby at_369 (pc' := 371) rfl rfl rfl ?_
        refine own_lk8 hw X174 hx hZ hby (by rw [hml]; rfl) hown at_371 (pc' := 374) rfl rfl O174.1 (W := 0) (Nat.le_of_eq rfl) (rm9a l Z a0 hw [] b172 d b166 (5 : Int32) .null rfl (.ref b173) rfl (1 : Int32) (1 : Int32) (3 : Int32) (5 : Int32) (.ref a167) rfl (.ref w168) rfl (.ref b170) rfl .null rfl kk (10 : Int32) [w0, (.int (60 : Int32)), (.int (nb.toInt8.toInt32)), (.int (47 : Int32)), (.int (62 : Int32)), w5, w6, w7, w8, w9] (47 : Int32) T174.heap n0 Zn O174 O171 f_V_d (by decide) rfl rfl) (by decide) (by decide) (by decide) (by decide) (fun v175 T175 L175 X175 hQ175 => ?_)
        obtain ⟨rfl, Nq175, e175⟩ := hQ175
        have N175 := Fr.app N174 Nq175
        show own_End p e below _ (T175.setTop (mkF m 374 _ [(.int (3 : Int32))]))
        refine own_iload X175 hx hby at_374 (pc' := 376) rfl rfl ?_
        refine own_icN X175 hx hby at_376 (pc' := 379) rfl (show (3 : Int32) = (3 : Int32) by decide) ?_
        refine own_iconst X175 hx hby at_379 (pc' := 380) rfl (n := (1 : Int32)) (by decide) ?_
        refine own_goto X175 hx hby at_380 (pc' := 384) (by decide) (by decide) ?_
        refine own_zreturn X175 hx hlk hby hret (Or.inr rfl) at_384 (own_lvS hS (by rw [e175]; exact hSn) ?_ (by decide) (by decide))
        show Q0 Z p0 p1 p2 cs  h0 n0 (some (.int (1 : Int32))) T175.heap _
        rw [e175]
        exact ⟨rfl, N175⟩
      · rw [hs139]
        show own_End p e below _ (T0.setTop (mkF m 221 #[.val (.long p0), .second, .val (.int p1), .val (.int p2), .val (.ref d), .val (.int (2 : Int32)), .val (.int (1 : Int32)), .val (.int (0 : Int32)), .val (.int sk), .val (.int lt), .val (.int nb), .val (.int sp), .unset, .unset, .unset, .unset, .unset] [(.ref d)]))
        refine own_iload X0 hx hby at_221 (pc' := 223) rfl rfl ?_
        refine own_bipush X0 hx hby at_223 (pc' := 225) rfl (n := (60 : Int32)) (by decide) ?_
        obtain ⟨cl176, Ar176, q176, S176, M176, H176, G176⟩ := id f_V_d
        have hin176 : ¬ ((2 : Int32) < 0 ∨ cl176.slots.size ≤ ((2 : Int32)).toNatClampNeg) := inb_of S176 ⟨by decide, by decide⟩
        refine own_bastore X0 hx hZ hby e1 Ar176 hin176 at_225 (pc' := 226) rfl (fun T177 h177 X177 e177 W177 => ?_)
        have f_V_d := Arv.set Ar176 q176 S176 M176 H176 G176 (fits_nar_byte _) W177 2 rfl (Nat.le_of_ble_eq_true rfl)
        have f_V_d : Arv Z h177 d kk .byte (10 : Int32) [w0, w1, (.int ((60 : Int32).toInt8.toInt32)), w3, w4, w5, w6, w7, w8, w9] (.int (0 : Int32)) := f_V_d
        have f_V_d : Arv Z h177 d kk .byte (10 : Int32) [w0, w1, (.int (60 : Int32)), w3, w4, w5, w6, w7, w8, w9] (.int (0 : Int32)) := f_V_d
        have f_S_java_lang_String_COMPACT_STRINGS := f_S_java_lang_String_COMPACT_STRINGS.wr W177
        have Zn := Nat.le_trans Z1 (Keep.of_wr W177).1
        have hSn := Nat.le_trans hSn (Keep.of_wr W177).1
        have N177 := Fr.snoc X177 N0 ge_d
        refine own_aload X177 hx hby at_226 (pc' := 228) rfl rfl rfl ?_
        refine own_iload X177 hx hby at_228 (pc' := 230) rfl rfl ?_
        refine own_iconst X177 hx hby at_230 (pc' := 231) rfl (n := (1 : Int32)) (by decide) ?_
        refine own_iadd X177 hx hby at_231 (pc' := 232) rfl ?_
        show own_End p e below _ (T177.setTop (mkF m 232 #[.val (.long p0), .second, .val (.int p1), .val (.int p2), .val (.ref d), .val (.int (2 : Int32)), .val (.int (1 : Int32)), .val (.int (0 : Int32)), .val (.int sk), .val (.int lt), .val (.int nb), .val (.int sp), .unset, .unset, .unset, .unset, .unset] [(.int (3 : Int32)), (.ref d)]))
        refine own_iload X177 hx hby at_232 (pc' := 234) rfl rfl ?_
        obtain ⟨cl178, Ar178, q178, S178, M178, H178, G178⟩ := id f_V_d
        have hin178 : ¬ ((3 : Int32) < 0 ∨ cl178.slots.size ≤ ((3 : Int32)).toNatClampNeg) := inb_of S178 ⟨by decide, by decide⟩
        refine own_bastore X177 hx hZ hby e177 Ar178 hin178 at_234 (pc' := 235) rfl (fun T179 h179 X179 e179 W179 => ?_)
        have f_V_d := Arv.set Ar178 q178 S178 M178 H178 G178 (fits_nar_byte _) W179 3 rfl (Nat.le_of_ble_eq_true rfl)
        have f_V_d : Arv Z h179 d kk .byte (10 : Int32) [w0, w1, (.int (60 : Int32)), (.int (nb.toInt8.toInt32)), w4, w5, w6, w7, w8, w9] (.int (0 : Int32)) := f_V_d
        have f_S_java_lang_String_COMPACT_STRINGS := f_S_java_lang_String_COMPACT_STRINGS.wr W179
        have Zn := Nat.le_trans Zn (Keep.of_wr W179).1
        have hSn := Nat.le_trans hSn (Keep.of_wr W179).1
        have N179 := Fr.snoc X179 N177 ge_d
        refine own_iload X179 hx hby at_235 (pc' := 237) rfl rfl ?_
        refine own_iconst X179 hx hby at_237 (pc' := 238) rfl (n := (2 : Int32)) (by decide) ?_
        refine own_iadd X179 hx hby at_238 (pc' := 239) rfl ?_
        show own_End p e below _ (T179.setTop (mkF m 239 #[.val (.long p0), .second, .val (.int p1), .val (.int p2), .val (.ref d), .val (.int (2 : Int32)), .val (.int (1 : Int32)), .val (.int (0 : Int32)), .val (.int sk), .val (.int lt), .val (.int nb), .val (.int sp), .unset, .unset, .unset, .unset, .unset] [(.int (4 : Int32))]))
        refine own_istore X179 hx hby at_239 (pc' := 241) rfl (l' := #[.val (.long p0), .second, .val (.int p1), .val (.int p2), .val (.ref d), .val (.int (2 : Int32)), .val (.int (1 : Int32)), .val (.int (0 : Int32)), .val (.int sk), .val (.int lt), .val (.int nb), .val (.int sp), .val (.int (4 : Int32)), .unset, .unset, .unset, .unset]) rfl ?_
        refine own_iload X179 hx hby at_241 (pc' := 243) rfl rfl ?_
        refine own_ifY X179 hx hby at_243 (pc' := 259) (by decide) (by decide) (show (0 : Int32) = (0 : Int32) by decide) ?_
        refine own_iload X179 hx hby at_259 (pc' := 261) rfl rfl ?_
        refine own_ifN X179 hx hby at_261 (pc' := 264) rfl (show ¬ (1 : Int32) = (0 : Int32) by decide) ?_
        refine own_aload X179 hx hby at_264 (pc' := 266) rfl rfl rfl ?_
        refine own_iload X179 hx hby at_266 (pc' := 268) rfl rfl ?_
        refine own_bipush X179 hx hby at_268 (pc' := 270) rfl (n := (47 : Int32)) (by decide) ?_
        obtain ⟨cl180, Ar180, q180, S180, M180, H180, G180⟩ := id f_V_d
        have hin180 : ¬ ((4 : Int32) < 0 ∨ cl180.slots.size ≤ ((4 : Int32)).toNatClampNeg) := inb_of S180 ⟨by decide, by decide⟩
        refine own_bastore X179 hx hZ hby e179 Ar180 hin180 at_270 (pc' := 271) rfl (fun T181 h181 X181 e181 W181 => ?_)
        have f_V_d := Arv.set Ar180 q180 S180 M180 H180 G180 (fits_nar_byte _) W181 4 rfl (Nat.le_of_ble_eq_true rfl)
        have f_V_d : Arv Z h181 d kk .byte (10 : Int32) [w0, w1, (.int (60 : Int32)), (.int (nb.toInt8.toInt32)), (.int ((47 : Int32).toInt8.toInt32)), w5, w6, w7, w8, w9] (.int (0 : Int32)) := f_V_d
        have f_V_d : Arv Z h181 d kk .byte (10 : Int32) [w0, w1, (.int (60 : Int32)), (.int (nb.toInt8.toInt32)), (.int (47 : Int32)), w5, w6, w7, w8, w9] (.int (0 : Int32)) := f_V_d
        have f_S_java_lang_String_COMPACT_STRINGS := f_S_java_lang_String_COMPACT_STRINGS.wr W181
        have Zn := Nat.le_trans Zn (Keep.of_wr W181).1
        have hSn := Nat.le_trans hSn (Keep.of_wr W181).1
        have N181 := Fr.snoc X181 N179 ge_d
        refine own_aload X181 hx hby at_271 (pc' := 273) rfl rfl rfl ?_
        refine own_iload X181 hx hby at_273 (pc' := 275) rfl rfl ?_
        refine own_iconst X181 hx hby at_275 (pc' := 276) rfl (n := (1 : Int32)) (by decide) ?_
        refine own_iadd X181 hx hby at_276 (pc' := 277) rfl ?_
        show own_End p e below _ (T181.setTop (mkF m 277 #[.val (.long p0), .second, .val (.int p1), .val (.int p2), .val (.ref d), .val (.int (2 : Int32)), .val (.int (1 : Int32)), .val (.int (0 : Int32)), .val (.int sk), .val (.int lt), .val (.int nb), .val (.int sp), .val (.int (4 : Int32)), .unset, .unset, .unset, .unset] [(.int (5 : Int32)), (.ref d)]))
        refine own_bipush X181 hx hby at_277 (pc' := 279) rfl (n := (62 : Int32)) (by decide) ?_
        obtain ⟨cl182, Ar182, q182, S182, M182, H182, G182⟩ := id f_V_d
        have hin182 : ¬ ((5 : Int32) < 0 ∨ cl182.slots.size ≤ ((5 : Int32)).toNatClampNeg) := inb_of S182 ⟨by decide, by decide⟩
        refine own_bastore X181 hx hZ hby e181 Ar182 hin182 at_279 (pc' := 280) rfl (fun T183 h183 X183 e183 W183 => ?_)
        have f_V_d := Arv.set Ar182 q182 S182 M182 H182 G182 (fits_nar_byte _) W183 5 rfl (Nat.le_of_ble_eq_true rfl)
        have f_V_d : Arv Z h183 d kk .byte (10 : Int32) [w0, w1, (.int (60 : Int32)), (.int (nb.toInt8.toInt32)), (.int (47 : Int32)), (.int ((62 : Int32).toInt8.toInt32)), w6, w7, w8, w9] (.int (0 : Int32)) := f_V_d
        have f_V_d : Arv Z h183 d kk .byte (10 : Int32) [w0, w1, (.int (60 : Int32)), (.int (nb.toInt8.toInt32)), (.int (47 : Int32)), (.int (62 : Int32)), w6, w7, w8, w9] (.int (0 : Int32)) := f_V_d
        have f_S_java_lang_String_COMPACT_STRINGS := f_S_java_lang_String_COMPACT_STRINGS.wr W183
        have Zn := Nat.le_trans Zn (Keep.of_wr W183).1
        have hSn := Nat.le_trans hSn (Keep.of_wr W183).1
        have N183 := Fr.snoc X183 N181 ge_d
        refine own_iload X183 hx hby at_280 (pc' := 282) rfl rfl ?_
        refine own_iconst X183 hx hby at_282 (pc' := 283) rfl (n := (2 : Int32)) (by decide) ?_
        refine own_iadd X183 hx hby at_283 (pc' := 284) rfl ?_
        show own_End p e below _ (T183.setTop (mkF m 284 #[.val (.long p0), .second, .val (.int p1), .val (.int p2), .val (.ref d), .val (.int (2 : Int32)), .val (.int (1 : Int32)), .val (.int (0 : Int32)), .val (.int sk), .val (.int lt), .val (.int nb), .val (.int sp), .val (.int (4 : Int32)), .unset, .unset, .unset, .unset] [(.int (6 : Int32))]))
        refine own_istore X183 hx hby at_284 (pc' := 286) rfl (l' := #[.val (.long p0), .second, .val (.int p1), .val (.int p2), .val (.ref d), .val (.int (2 : Int32)), .val (.int (1 : Int32)), .val (.int (0 : Int32)), .val (.int sk), .val (.int lt), .val (.int nb), .val (.int sp), .val (.int (4 : Int32)), .val (.int (6 : Int32)), .unset, .unset, .unset]) rfl ?_
        refine own_goto X183 hx hby at_286 (pc' := 302) (by decide) (by decide) ?_
        refine own_iload X183 hx hby at_302 (pc' := 304) rfl rfl ?_
        refine own_ifN X183 hx hby at_304 (pc' := 307) rfl (show ¬ (1 : Int32) = (0 : Int32) by decide) ?_
        refine own_iload X183 hx hby at_307 (pc' := 309) rfl rfl ?_
        refine own_goto X183 hx hby at_309 (pc' := 314) (by decide) (by decide) ?_
        refine own_istore X183 hx hby at_314 (pc' := 316) rfl (l' := #[.val (.long p0), .second, .val (.int p1), .val (.int p2), .val (.ref d), .val (.int (2 : Int32)), .val (.int (1 : Int32)), .val (.int (0 : Int32)), .val (.int sk), .val (.int lt), .val (.int nb), .val (.int sp), .val (.int (4 : Int32)), .val (.int (6 : Int32)), .val (.int (6 : Int32)), .unset, .unset]) rfl ?_
        refine own_new X183 hx hZ hby hown (wd_2 hw) (wd_3 hw) (wd_4 hw) e183 at_316 (pc' := 319) rfl (by decide) (by decide) (fun T184 h184 b184 g184 X184 e184 E184 A184 D184 => ?_)
        have ne_d_b184 : d ≠ b184 := Nat.ne_of_lt (by rw [g184]; exact f_V_d.lt)
        have ge_b184 : n0 ≤ b184 := by rw [g184]; exact Zn
        have f_V_d := f_V_d.ext E184
        have f_S_java_lang_String_COMPACT_STRINGS := f_S_java_lang_String_COMPACT_STRINGS.ext E184
        have Zn := Nat.le_trans Zn E184.1
        have hSn := Nat.le_trans hSn E184.1
        have f_O_b184 : own_ST Z h184 b184 (0 : Int32) (0 : Int32) (0 : Int32) (0 : Int32) .null .null .null .null := ⟨A184, D184 (Or.inr (wd_44 hw)) (ty := .int) (by decide), D184 (Or.inr (wd_46 hw)) (ty := .int) (by decide), D184 (Or.inr (wd_48 hw)) (ty := .int) (by decide), D184 (Or.inr (wd_50 hw)) (ty := .int) (by decide), D184 (Or.inr (wd_52 hw)) (ty := (.object "java/lang/String")) (by decide), D184 (Or.inr (wd_54 hw)) (ty := (.object "java/lang/String")) (by decide), D184 (Or.inr (wd_56 hw)) (ty := (.array .int)) (by decide), D184 (Or.inr (wd_58 hw)) (ty := (.object "java/util/Map")) (by decide)⟩
        refine own_dup X184 hx hby at_319 (pc' := 320) rfl rfl ?_
        refine own_iconst X184 hx hby at_320 (pc' := 321) rfl (n := (1 : Int32)) (by decide) ?_
        refine own_iload X184 hx hby at_321 (pc' := 323) rfl rfl ?_
        refine own_iload X184 hx hby at_323 (pc' := 325) rfl rfl ?_
        refine own_iconst X184 hx hby at_325 (pc' := 326) rfl (n := (2 : Int32)) (by decide) ?_
        refine own_iadd X184 hx hby at_326 (pc' := 327) rfl ?_
        show own_End p e below _ (T184.setTop (mkF m 327 #[.val (.long p0), .second, .val (.int p1), .val (.int p2), .val (.ref d), .val (.int (2 : Int32)), .val (.int (1 : Int32)), .val (.int (0 : Int32)), .val (.int sk), .val (.int lt), .val (.int nb), .val (.int sp), .val (.int (4 : Int32)), .val (.int (6 : Int32)), .val (.int (6 : Int32)), .unset, .unset] [(.int (4 : Int32)), (.int (2 : Int32)), (.int (1 : Int32)), (.ref b184), (.ref b184)]))
        refine own_iload X184 hx hby at_327 (pc' := 329) rfl rfl ?_
        obtain ⟨a185, T185, h185, k185, X185, e185, E185, hS, hSn, hZ, hown, st185⟩ := ldcS X184 hx hZ hown (wd_5 hw) (own_wS hw) e184 hS hSn (g := (mkF m 329 #[.val (.long p0), .second, .val (.int p1), .val (.int p2), .val (.ref d), .val (.int (2 : Int32)), .val (.int (1 : Int32)), .val (.int (0 : Int32)), .val (.int sk), .val (.int lt), .val (.int nb), .val (.int sp), .val (.int (4 : Int32)), .val (.int (6 : Int32)), .val (.int (6 : Int32)), .unset, .unset] [(.int (6 : Int32)), (.int (4 : Int32)), (.int (2 : Int32)), (.int (1 : Int32)), (.ref b184), (.ref b184)])) rfl (hb hby at_329) (n := 0) (by decide) (by decide) (by decide) (by decide)
        refine own_step st185 ?_
        have f_V_d := f_V_d.ext E185
        have f_S_java_lang_String_COMPACT_STRINGS := f_S_java_lang_String_COMPACT_STRINGS.ext E185
        have f_O_b184 := f_O_b184.ext E185
        have Zn := Nat.le_trans Zn E185.1
        show own_End p e below _ (T185.setTop (mkF m 331 #[.val (.long p0), .second, .val (.int p1), .val (.int p2), .val (.ref d), .val (.int (2 : Int32)), .val (.int (1 : Int32)), .val (.int (0 : Int32)), .val (.int sk), .val (.int lt), .val (.int nb), .val (.int sp), .val (.int (4 : Int32)), .val (.int (6 : Int32)), .val (.int (6 : Int32)), .unset, .unset] [(.ref a185), (.int (6 : Int32)), (.int (4 : Int32)), (.int (2 : Int32)), (.int (1 : Int32)), (.ref b184), (.ref b184)]))
        refine own_iload X185 hx hby at_331 (pc' := 333) rfl rfl ?_
        refine own_sipush X185 hx hby at_333 (pc' := 336) rfl (n := (255 : Int32)) (by decide) ?_
        refine own_iand X185 hx hby at_336 (pc' := 337) rfl ?_
        refine own_i2c X185 hx hby at_337 (pc' := 338) rfl ?_
        rw [i2c_mask]
        show own_End p e below _ (T185.setTop (mkF m 338 #[.val (.long p0), .second, .val (.int p1), .val (.int p2), .val (.ref d), .val (.int (2 : Int32)), .val (.int (1 : Int32)), .val (.int (0 : Int32)), .val (.int sk), .val (.int lt), .val (.int nb), .val (.int sp), .val (.int (4 : Int32)), .val (.int (6 : Int32)), .val (.int (6 : Int32)), .unset, .unset] [(.int (nb &&& (255 : Int32))), (.ref a185), (.int (6 : Int32)), (.int (4 : Int32)), (.int (2 : Int32)), (.int (1 : Int32)), (.ref b184), (.ref b184)]))
        refine own_lk5 hw X185 hx hZ hby (by rw [hml]; rfl) hown at_338 (pc' := 341) rfl e185 (W := 7) (Nat.le_of_eq rfl) (rm1 l Z a0 hw [] (nb &&& (255 : Int32)) cs h185 n0 Zn f_S_java_lang_String_COMPACT_STRINGS hcs (own_chr2 _)) (by decide) (by decide) (by decide) (by decide) (fun v187 T187 L187 X187 hQ187 => ?_)
        obtain ⟨w186, rfl, Nq187, K187, gw187⟩ := hQ187
        have N187 := Fr.app N183 Nq187
        have f_S_java_lang_String_COMPACT_STRINGS := own_sta0 f_S_java_lang_String_COMPACT_STRINGS K187
        have f_V_d := f_V_d.keep K187 nin0
        have f_O_b184 := f_O_b184.keep K187 nin0
        have Zn := Nat.le_trans Zn K187.1
        have hSn := Nat.le_trans hSn K187.1
        show own_End p e below _ (T187.setTop (mkF m 341 _ [(.ref w186), (.ref a185), (.int (6 : Int32)), (.int (4 : Int32)), (.int (2 : Int32)), (.int (1 : Int32)), (.ref b184), (.ref b184)]))
        refine own_iconst X187 hx hby at_341 (pc' := 342) rfl (n := (0 : Int32)) (by decide) ?_
        refine own_newP (aty := .int) X187 hx hZ hby (wd_33 hw) rfl at_342 (pc' := 344) rfl (by decide) (cap := 0) (by decide) (by decide) (by decide) (by decide) (fun T188 h188 k188 b188 g188 X188 e188 E188 A188 => ?_)
        have ne_d_b188 : d ≠ b188 := Nat.ne_of_lt (by rw [g188]; exact f_V_d.lt)
        have ne_b184_b188 : b184 ≠ b188 := Nat.ne_of_lt (by rw [g188]; exact f_O_b184.lt)
        have ge_b188 : n0 ≤ b188 := by rw [g188]; exact Zn
        have f_V_d := f_V_d.ext E188
        have f_S_java_lang_String_COMPACT_STRINGS := f_S_java_lang_String_COMPACT_STRINGS.ext E188
        have f_O_b184 := f_O_b184.ext E188
        have Zn := Nat.le_trans Zn E188.1
        have hSn := Nat.le_trans hSn E188.1
        have f_V_b188 : Arv Z h188 b188 k188 .int (0 : Int32) [] (.int (0 : Int32)) := Arv.new A188 (by decide)
        refine own_aconst_null X188 hx hby at_344 (pc' := 345) rfl ?_
        refine own_lk6 hw X188 hx hZ hby (by rw [hml]; rfl) hown at_345 (pc' := 348) rfl e188 (W := 1) (Nat.le_of_eq rfl) (rm6 l Z a0 hw [] b184 (1 : Int32) (2 : Int32) (4 : Int32) (6 : Int32) a185 w186 b188 h188 n0 Zn f_O_b184 ge_b184) (by decide) (by decide) (by decide) (by decide) (fun v189 T189 L189 X189 hQ189 => ?_)
        obtain ⟨rfl, Nq189, K189, O189⟩ := hQ189
        have N189 := Fr.app N187 Nq189
        have f_S_java_lang_String_COMPACT_STRINGS := own_sta1 f_S_java_lang_String_COMPACT_STRINGS K189 f_O_b184.1
        have f_V_d := f_V_d.keep K189 (ninS ne_d_b184 nin0)
        have f_V_b188 := f_V_b188.keep K189 (ninS (Ne.symm ne_b184_b188) nin0)
        have Zn := Nat.le_trans Zn K189.1
        have hSn := Nat.le_trans hSn K189.1
        show own_End p e below _ (T189.setTop (mkF m 348 _ [(.ref b184)]))
        refine own_astore X189 hx hby at_348 (pc' := 350) rfl rfl (l' := #[.val (.long p0), .second, .val (.int p1), .val (.int p2), .val (.ref d), .val (.int (2 : Int32)), .val (.int (1 : Int32)), .val (.int (0 : Int32)), .val (.int sk), .val (.int lt), .val (.int nb), .val (.int sp), .val (.int (4 : Int32)), .val (.int (6 : Int32)), .val (.int (6 : Int32)), .val (.ref b184), .unset]) rfl ?_
        refine own_new X189 hx hZ hby hown (wd_59 hw) (wd_60 hw) (wd_61 hw) rfl at_350 (pc' := 353) rfl (by decide) (by decide) (fun T190 h190 b190 g190 X190 e190 E190 A190 D190 => ?_)
        have ne_d_b190 : d ≠ b190 := Nat.ne_of_lt (by rw [g190]; exact f_V_d.lt)
        have ne_b188_b190 : b188 ≠ b190 := Nat.ne_of_lt (by rw [g190]; exact f_V_b188.lt)
        have ne_b184_b190 : b184 ≠ b190 := Nat.ne_of_lt (by rw [g190]; exact O189.lt)
        have ge_b190 : n0 ≤ b190 := by rw [g190]; exact Zn
        have f_V_d := f_V_d.ext E190
        have f_S_java_lang_String_COMPACT_STRINGS := f_S_java_lang_String_COMPACT_STRINGS.ext E190
        have f_V_b188 := f_V_b188.ext E190
        have O189 := O189.ext E190
        have Zn := Nat.le_trans Zn E190.1
        have hSn := Nat.le_trans hSn E190.1
        have f_O_b190 : own_XS Z h190 b190 .null .null (0 : Int32) .null .null := ⟨A190, D190 (Or.inr (wd_67 hw)) (ty := (.array .byte)) (by decide), D190 (Or.inr (wd_69 hw)) (ty := (.object "com/example/halyard/halyard/base/XmlScan$StartTag")) (by decide), D190 (Or.inr (wd_71 hw)) (ty := .int) (by decide), D190 (Or.inr (wd_73 hw)) (ty := (.object "java/util/List")) (by decide), D190 (Or.inr (wd_75 hw)) (ty := (.array .int)) (by decide)⟩
        refine own_dup X190 hx hby at_353 (pc' := 354) rfl rfl ?_
        refine own_aload X190 hx hby at_354 (pc' := 356) rfl rfl rfl ?_
        refine own_aload X190 hx hby at_356 (pc' := 358) rfl rfl rfl ?_
        refine own_iload X190 hx hby at_358 (pc' := 360) rfl rfl ?_
        refine own_aconst_null X190 hx hby at_360 (pc' := 361) rfl ?_
        refine own_iconst X190 hx hby at_361 (pc' := 362) rfl (n := (0 : Int32)) (by decide) ?_
        refine own_newP (aty := .int) X190 hx hZ hby (wd_33 hw) e190 at_362 (pc' := 364) rfl (by decide) (cap := 0) (by decide) (by decide) (by decide) (by decide) (fun T191 h191 k191 b191 g191 X191 e191 E191 A191 => ?_)
        have ne_d_b191 : d ≠ b191 := Nat.ne_of_lt (by rw [g191]; exact f_V_d.lt)
        have ne_b188_b191 : b188 ≠ b191 := Nat.ne_of_lt (by rw [g191]; exact f_V_b188.lt)
        have ne_b184_b191 : b184 ≠ b191 := Nat.ne_of_lt (by rw [g191]; exact O189.lt)
        have ne_b190_b191 : b190 ≠ b191 := Nat.ne_of_lt (by rw [g191]; exact f_O_b190.lt)
        have ge_b191 : n0 ≤ b191 := by rw [g191]; exact Zn
        have f_V_d := f_V_d.ext E191
        have f_S_java_lang_String_COMPACT_STRINGS := f_S_java_lang_String_COMPACT_STRINGS.ext E191
        have f_V_b188 := f_V_b188.ext E191
        have O189 := O189.ext E191
        have f_O_b190 := f_O_b190.ext E191
        have Zn := Nat.le_trans Zn E191.1
        have hSn := Nat.le_trans hSn E191.1
        have f_V_b191 : Arv Z h191 b191 k191 .int (0 : Int32) [] (.int (0 : Int32)) := Arv.new A191 (by decide)
        refine own_lk7 hw X191 hx hZ hby (by rw [hml]; rfl) hown at_364 (pc' := 367) rfl e191 (W := 1) (Nat.le_of_eq rfl) (rm8 l Z a0 hw [] b190 d b184 (6 : Int32) b191 h191 n0 Zn f_O_b190 ge_b190) (by decide) (by decide) (by decide) (by decide) (fun v192 T192 L192 X192 hQ192 => ?_)
        obtain ⟨rfl, Nq192, K192, O192⟩ := hQ192
        have N192 := Fr.app N189 Nq192
        have f_S_java_lang_String_COMPACT_STRINGS := own_sta1 f_S_java_lang_String_COMPACT_STRINGS K192 f_O_b190.1
        have f_V_d := f_V_d.keep K192 (ninS ne_d_b190 nin0)
        have f_V_b188 := f_V_b188.keep K192 (ninS ne_b188_b190 nin0)
        have O189 := O189.keep K192 (ninS ne_b184_b190 nin0)
        have f_V_b191 := f_V_b191.keep K192 (ninS (Ne.symm ne_b190_b191) nin0)
        have Zn := Nat.le_trans Zn K192.1
        have hSn := Nat.le_trans hSn K192.1
        show own_End p e below _ (T192.setTop (mkF m 367 _ [(.ref b190)]))
        refine own_astore X192 hx hby at_367 (pc' := 369) rfl rfl (l' := #[.val (.long p0), .second, .val (.int p1), .val (.int p2), .val (.ref d), .val (.int (2 : Int32)), .val (.int (1 : Int32)), .val (.int (0 : Int32)), .val (.int sk), .val (.int lt), .val (.int nb), .val (.int sp), .val (.int (4 : Int32)), .val (.int (6 : Int32)), .val (.int (6 : Int32)), .val (.ref b184), .val (.ref b190)]) rfl ?_
        refine own_aload X192 hx hby at_369 (pc' := 371) rfl rfl rfl ?_
        refine own_lk8 hw X192 hx hZ hby (by rw [hml]; rfl) hown at_371 (pc' := 374) rfl rfl O192.1 (W := 0) (Nat.le_of_eq rfl) (rm9a l Z a0 hw [] b190 d b184 (6 : Int32) .null rfl (.ref b191) rfl (1 : Int32) (2 : Int32) (4 : Int32) (6 : Int32) (.ref a185) rfl (.ref w186) rfl (.ref b188) rfl .null rfl kk (10 : Int32) [w0, w1, (.int (60 : Int32)), (.int (nb.toInt8.toInt32)), (.int (47 : Int32)), (.int (62 : Int32)), w6, w7, w8, w9] (47 : Int32) T192.heap n0 Zn O192 O189 f_V_d (by decide) rfl rfl) (by decide) (by decide) (by decide) (by decide) (fun v193 T193 L193 X193 hQ193 => ?_)
        obtain ⟨rfl, Nq193, e193⟩ := hQ193
        have N193 := Fr.app N192 Nq193
        show own_End p e below _ (T193.setTop (mkF m 374 _ [(.int (4 : Int32))]))
        refine own_iload X193 hx hby at_374 (pc' := 376) rfl rfl ?_
        refine own_icN X193 hx hby at_376 (pc' := 379) rfl (show (4 : Int32) = (4 : Int32) by decide) ?_
        refine own_iconst X193 hx hby at_379 (pc' := 380) rfl (n := (1 : Int32)) (by decide) ?_
        refine own_goto X193 hx hby at_380 (pc' := 384) (by decide) (by decide) ?_
        refine own_zreturn X193 hx hlk hby hret (Or.inr rfl) at_384 (own_lvS hS (by rw [e193]; exact hSn) ?_ (by decide) (by decide))
        show Q0 Z p0 p1 p2 cs  h0 n0 (some (.int (1 : Int32))) T193.heap _
        rw [e193]
        exact ⟨rfl, N193⟩
      · rw [hs139]
        show own_End p e below _ (T0.setTop (mkF m 221 #[.val (.long p0), .second, .val (.int p1), .val (.int p2), .val (.ref d), .val (.int (3 : Int32)), .val (.int (1 : Int32)), .val (.int (0 : Int32)), .val (.int sk), .val (.int lt), .val (.int nb), .val (.int sp), .unset, .unset, .unset, .unset, .unset] [(.ref d)]))
        refine own_iload X0 hx hby at_221 (pc' := 223) rfl rfl ?_
        refine own_bipush X0 hx hby at_223 (pc' := 225) rfl (n := (60 : Int32)) (by decide) ?_
        obtain ⟨cl194, Ar194, q194, S194, M194, H194, G194⟩ := id f_V_d
        have hin194 : ¬ ((3 : Int32) < 0 ∨ cl194.slots.size ≤ ((3 : Int32)).toNatClampNeg) := inb_of S194 ⟨by decide, by decide⟩
        refine own_bastore X0 hx hZ hby e1 Ar194 hin194 at_225 (pc' := 226) rfl (fun T195 h195 X195 e195 W195 => ?_)
        have f_V_d := Arv.set Ar194 q194 S194 M194 H194 G194 (fits_nar_byte _) W195 3 rfl (Nat.le_of_ble_eq_true rfl)
        have f_V_d : Arv Z h195 d kk .byte (10 : Int32) [w0, w1, w2, (.int ((60 : Int32).toInt8.toInt32)), w4, w5, w6, w7, w8, w9] (.int (0 : Int32)) := f_V_d
        have f_V_d : Arv Z h195 d kk .byte (10 : Int32) [w0, w1, w2, (.int (60 : Int32)), w4, w5, w6, w7, w8, w9] (.int (0 : Int32)) := f_V_d
        have f_S_java_lang_String_COMPACT_STRINGS := f_S_java_lang_String_COMPACT_STRINGS.wr W195
        have Zn := Nat.le_trans Z1 (Keep.of_wr W195).1
        have hSn := Nat.le_trans hSn (Keep.of_wr W195).1
        have N195 := Fr.snoc X195 N0 ge_d
        refine own_aload X195 hx hby at_226 (pc' := 228) rfl rfl rfl ?_
        refine own_iload X195 hx hby at_228 (pc' := 230) rfl rfl ?_
        refine own_iconst X195 hx hby at_230 (pc' := 231) rfl (n := (1 : Int32)) (by decide) ?_
        refine own_iadd X195 hx hby at_231 (pc' := 232) rfl ?_
        show own_End p e below _ (T195.setTop (mkF m 232 #[.val (.long p0), .second, .val (.int p1), .val (.int p2), .val (.ref d), .val (.int (3 : Int32)), .val (.int (1 : Int32)), .val (.int (0 : Int32)), .val (.int sk), .val (.int lt), .val (.int nb), .val (.int sp), .unset, .unset, .unset, .unset, .unset] [(.int (4 : Int32)), (.ref d)]))
        refine own_iload X195 hx hby at_232 (pc' := 234) rfl rfl ?_
        obtain ⟨cl196, Ar196, q196, S196, M196, H196, G196⟩ := id f_V_d
        have hin196 : ¬ ((4 : Int32) < 0 ∨ cl196.slots.size ≤ ((4 : Int32)).toNatClampNeg) := inb_of S196 ⟨by decide, by decide⟩
        refine own_bastore X195 hx hZ hby e195 Ar196 hin196 at_234 (pc' := 235) rfl (fun T197 h197 X197 e197 W197 => ?_)
        have f_V_d := Arv.set Ar196 q196 S196 M196 H196 G196 (fits_nar_byte _) W197 4 rfl (Nat.le_of_ble_eq_true rfl)
        have f_V_d : Arv Z h197 d kk .byte (10 : Int32) [w0, w1, w2, (.int (60 : Int32)), (.int (nb.toInt8.toInt32)), w5, w6, w7, w8, w9] (.int (0 : Int32)) := f_V_d
        have f_S_java_lang_String_COMPACT_STRINGS := f_S_java_lang_String_COMPACT_STRINGS.wr W197
        have Zn := Nat.le_trans Zn (Keep.of_wr W197).1
        have hSn := Nat.le_trans hSn (Keep.of_wr W197).1
        have N197 := Fr.snoc X197 N195 ge_d
        refine own_iload X197 hx hby at_235 (pc' := 237) rfl rfl ?_
        refine own_iconst X197 hx hby at_237 (pc' := 238) rfl (n := (2 : Int32)) (by decide) ?_
        refine own_iadd X197 hx hby at_238 (pc' := 239) rfl ?_
        show own_End p e below _ (T197.setTop (mkF m 239 #[.val (.long p0), .second, .val (.int p1), .val (.int p2), .val (.ref d), .val (.int (3 : Int32)), .val (.int (1 : Int32)), .val (.int (0 : Int32)), .val (.int sk), .val (.int lt), .val (.int nb), .val (.int sp), .unset, .unset, .unset, .unset, .unset] [(.int (5 : Int32))]))
        refine own_istore X197 hx hby at_239 (pc' := 241) rfl (l' := #[.val (.long p0), .second, .val (.int p1), .val (.int p2), .val (.ref d), .val (.int (3 : Int32)), .val (.int (1 : Int32)), .val (.int (0 : Int32)), .val (.int sk), .val (.int lt), .val (.int nb), .val (.int sp), .val (.int (5 : Int32)), .unset, .unset, .unset, .unset]) rfl ?_
        refine own_iload X197 hx hby at_241 (pc' := 243) rfl rfl ?_
        refine own_ifY X197 hx hby at_243 (pc' := 259) (by decide) (by decide) (show (0 : Int32) = (0 : Int32) by decide) ?_
        refine own_iload X197 hx hby at_259 (pc' := 261) rfl rfl ?_
        refine own_ifN X197 hx hby at_261 (pc' := 264) rfl (show ¬ (1 : Int32) = (0 : Int32) by decide) ?_
        refine own_aload X197 hx hby at_264 (pc' := 266) rfl rfl rfl ?_
        refine own_iload X197 hx hby at_266 (pc' := 268) rfl rfl ?_
        refine own_bipush X197 hx hby at_268 (pc' := 270) rfl (n := (47 : Int32)) (by decide) ?_
        obtain ⟨cl198, Ar198, q198, S198, M198, H198, G198⟩ := id f_V_d
        have hin198 : ¬ ((5 : Int32) < 0 ∨ cl198.slots.size ≤ ((5 : Int32)).toNatClampNeg) := inb_of S198 ⟨by decide, by decide⟩
        refine own_bastore X197 hx hZ hby e197 Ar198 hin198 at_270 (pc' := 271) rfl (fun T199 h199 X199 e199 W199 => ?_)
        have f_V_d := Arv.set Ar198 q198 S198 M198 H198 G198 (fits_nar_byte _) W199 5 rfl (Nat.le_of_ble_eq_true rfl)
        have f_V_d : Arv Z h199 d kk .byte (10 : Int32) [w0, w1, w2, (.int (60 : Int32)), (.int (nb.toInt8.toInt32)), (.int ((47 : Int32).toInt8.toInt32)), w6, w7, w8, w9] (.int (0 : Int32)) := f_V_d
        have f_V_d : Arv Z h199 d kk .byte (10 : Int32) [w0, w1, w2, (.int (60 : Int32)), (.int (nb.toInt8.toInt32)), (.int (47 : Int32)), w6, w7, w8, w9] (.int (0 : Int32)) := f_V_d
        have f_S_java_lang_String_COMPACT_STRINGS := f_S_java_lang_String_COMPACT_STRINGS.wr W199
        have Zn := Nat.le_trans Zn (Keep.of_wr W199).1
        have hSn := Nat.le_trans hSn (Keep.of_wr W199).1
        have N199 := Fr.snoc X199 N197 ge_d
        refine own_aload X199 hx hby at_271 (pc' := 273) rfl rfl rfl ?_
        refine own_iload X199 hx hby at_273 (pc' := 275) rfl rfl ?_
        refine own_iconst X199 hx hby at_275 (pc' := 276) rfl (n := (1 : Int32)) (by decide) ?_
        refine own_iadd X199 hx hby at_276 (pc' := 277) rfl ?_
        show own_End p e below _ (T199.setTop (mkF m 277 #[.val (.long p0), .second, .val (.int p1), .val (.int p2), .val (.ref d), .val (.int (3 : Int32)), .val (.int (1 : Int32)), .val (.int (0 : Int32)), .val (.int sk), .val (.int lt), .val (.int nb), .val (.int sp), .val (.int (5 : Int32)), .unset, .unset, .unset, .unset] [(.int (6 : Int32)), (.ref d)]))
        refine own_bipush X199 hx hby at_277 (pc' := 279) rfl (n := (62 : Int32)) (by decide) ?_
        obtain ⟨cl200, Ar200, q200, S200, M200, H200, G200⟩ := id f_V_d
        have hin200 : ¬ ((6 : Int32) < 0 ∨ cl200.slots.size ≤ ((6 : Int32)).toNatClampNeg) := inb_of S200 ⟨by decide, by decide⟩
        refine own_bastore X199 hx hZ hby e199 Ar200 hin200 at_279 (pc' := 280) rfl (fun T201 h201 X201 e201 W201 => ?_)
        have f_V_d := Arv.set Ar200 q200 S200 M200 H200 G200 (fits_nar_byte _) W201 6 rfl (Nat.le_of_ble_eq_true rfl)
        have f_V_d : Arv Z h201 d kk .byte (10 : Int32) [w0, w1, w2, (.int (60 : Int32)), (.int (nb.toInt8.toInt32)), (.int (47 : Int32)), (.int ((62 : Int32).toInt8.toInt32)), w7, w8, w9] (.int (0 : Int32)) := f_V_d
        have f_V_d : Arv Z h201 d kk .byte (10 : Int32) [w0, w1, w2, (.int (60 : Int32)), (.int (nb.toInt8.toInt32)), (.int (47 : Int32)), (.int (62 : Int32)), w7, w8, w9] (.int (0 : Int32)) := f_V_d
        have f_S_java_lang_String_COMPACT_STRINGS := f_S_java_lang_String_COMPACT_STRINGS.wr W201
        have Zn := Nat.le_trans Zn (Keep.of_wr W201).1
        have hSn := Nat.le_trans hSn (Keep.of_wr W201).1
        have N201 := Fr.snoc X201 N199 ge_d
        refine own_iload X201 hx hby at_280 (pc' := 282) rfl rfl ?_
        refine own_iconst X201 hx hby at_282 (pc' := 283) rfl (n := (2 : Int32)) (by decide) ?_
        refine own_iadd X201 hx hby at_283 (pc' := 284) rfl ?_
        show own_End p e below _ (T201.setTop (mkF m 284 #[.val (.long p0), .second, .val (.int p1), .val (.int p2), .val (.ref d), .val (.int (3 : Int32)), .val (.int (1 : Int32)), .val (.int (0 : Int32)), .val (.int sk), .val (.int lt), .val (.int nb), .val (.int sp), .val (.int (5 : Int32)), .unset, .unset, .unset, .unset] [(.int (7 : Int32))]))
        refine own_istore X201 hx hby at_284 (pc' := 286) rfl (l' := #[.val (.long p0), .second, .val (.int p1), .val (.int p2), .val (.ref d), .val (.int (3 : Int32)), .val (.int (1 : Int32)), .val (.int (0 : Int32)), .val (.int sk), .val (.int lt), .val (.int nb), .val (.int sp), .val (.int (5 : Int32)), .val (.int (7 : Int32)), .unset, .unset, .unset]) rfl ?_
        refine own_goto X201 hx hby at_286 (pc' := 302) (by decide) (by decide) ?_
        refine own_iload X201 hx hby at_302 (pc' := 304) rfl rfl ?_
        refine own_ifN X201 hx hby at_304 (pc' := 307) rfl (show ¬ (1 : Int32) = (0 : Int32) by decide) ?_
        refine own_iload X201 hx hby at_307 (pc' := 309) rfl rfl ?_
        refine own_goto X201 hx hby at_309 (pc' := 314) (by decide) (by decide) ?_
        refine own_istore X201 hx hby at_314 (pc' := 316) rfl (l' := #[.val (.long p0), .second, .val (.int p1), .val (.int p2), .val (.ref d), .val (.int (3 : Int32)), .val (.int (1 : Int32)), .val (.int (0 : Int32)), .val (.int sk), .val (.int lt), .val (.int nb), .val (.int sp), .val (.int (5 : Int32)), .val (.int (7 : Int32)), .val (.int (7 : Int32)), .unset, .unset]) rfl ?_
        refine own_new X201 hx hZ hby hown (wd_2 hw) (wd_3 hw) (wd_4 hw) e201 at_316 (pc' := 319) rfl (by decide) (by decide) (fun T202 h202 b202 g202 X202 e202 E202 A202 D202 => ?_)
        have ne_d_b202 : d ≠ b202 := Nat.ne_of_lt (by rw [g202]; exact f_V_d.lt)
        have ge_b202 : n0 ≤ b202 := by rw [g202]; exact Zn
        have f_V_d := f_V_d.ext E202
        have f_S_java_lang_String_COMPACT_STRINGS := f_S_java_lang_String_COMPACT_STRINGS.ext E202
        have Zn := Nat.le_trans Zn E202.1
        have hSn := Nat.le_trans hSn E202.1
        have f_O_b202 : own_ST Z h202 b202 (0 : Int32) (0 : Int32) (0 : Int32) (0 : Int32) .null .null .null .null := ⟨A202, D202 (Or.inr (wd_44 hw)) (ty := .int) (by decide), D202 (Or.inr (wd_46 hw)) (ty := .int) (by decide), D202 (Or.inr (wd_48 hw)) (ty := .int) (by decide), D202 (Or.inr (wd_50 hw)) (ty := .int) (by decide), D202 (Or.inr (wd_52 hw)) (ty := (.object "java/lang/String")) (by decide), D202 (Or.inr (wd_54 hw)) (ty := (.object "java/lang/String")) (by decide), D202 (Or.inr (wd_56 hw)) (ty := (.array .int)) (by decide), D202 (Or.inr (wd_58 hw)) (ty := (.object "java/util/Map")) (by decide)⟩
        refine own_dup X202 hx hby at_319 (pc' := 320) rfl rfl ?_
        refine own_iconst X202 hx hby at_320 (pc' := 321) rfl (n := (1 : Int32)) (by decide) ?_
        refine own_iload X202 hx hby at_321 (pc' := 323) rfl rfl ?_
        refine own_iload X202 hx hby at_323 (pc' := 325) rfl rfl ?_
        refine own_iconst X202 hx hby at_325 (pc' := 326) rfl (n := (2 : Int32)) (by decide) ?_
        refine own_iadd X202 hx hby at_326 (pc' := 327) rfl ?_
        show own_End p e below _ (T202.setTop (mkF m 327 #[.val (.long p0), .second, .val (.int p1), .val (.int p2), .val (.ref d), .val (.int (3 : Int32)), .val (.int (1 : Int32)), .val (.int (0 : Int32)), .val (.int sk), .val (.int lt), .val (.int nb), .val (.int sp), .val (.int (5 : Int32)), .val (.int (7 : Int32)), .val (.int (7 : Int32)), .unset, .unset] [(.int (5 : Int32)), (.int (3 : Int32)), (.int (1 : Int32)), (.ref b202), (.ref b202)]))
        refine own_iload X202 hx hby at_327 (pc' := 329) rfl rfl ?_
        obtain ⟨a203, T203, h203, k203, X203, e203, E203, hS, hSn, hZ, hown, st203⟩ := ldcS X202 hx hZ hown (wd_5 hw) (own_wS hw) e202 hS hSn (g := (mkF m 329 #[.val (.long p0), .second, .val (.int p1), .val (.int p2), .val (.ref d), .val (.int (3 : Int32)), .val (.int (1 : Int32)), .val (.int (0 : Int32)), .val (.int sk), .val (.int lt), .val (.int nb), .val (.int sp), .val (.int (5 : Int32)), .val (.int (7 : Int32)), .val (.int (7 : Int32)), .unset, .unset] [(.int (7 : Int32)), (.int (5 : Int32)), (.int (3 : Int32)), (.int (1 : Int32)), (.ref b202), (.ref b202)])) rfl (hb hby at_329) (n := 0) (by decide) (by decide) (by decide) (by decide)
        refine own_step st203 ?_
        have f_V_d := f_V_d.ext E203
        have f_S_java_lang_String_COMPACT_STRINGS := f_S_java_lang_String_COMPACT_STRINGS.ext E203
        have f_O_b202 := f_O_b202.ext E203
        have Zn := Nat.le_trans Zn E203.1
        show own_End p e below _ (T203.setTop (mkF m 331 #[.val (.long p0), .second, .val (.int p1), .val (.int p2), .val (.ref d), .val (.int (3 : Int32)), .val (.int (1 : Int32)), .val (.int (0 : Int32)), .val (.int sk), .val (.int lt), .val (.int nb), .val (.int sp), .val (.int (5 : Int32)), .val (.int (7 : Int32)), .val (.int (7 : Int32)), .unset, .unset] [(.ref a203), (.int (7 : Int32)), (.int (5 : Int32)), (.int (3 : Int32)), (.int (1 : Int32)), (.ref b202), (.ref b202)]))
        refine own_iload X203 hx hby at_331 (pc' := 333) rfl rfl ?_
        refine own_sipush X203 hx hby at_333 (pc' := 336) rfl (n := (255 : Int32)) (by decide) ?_
        refine own_iand X203 hx hby at_336 (pc' := 337) rfl ?_
        refine own_i2c X203 hx hby at_337 (pc' := 338) rfl ?_
        rw [i2c_mask]
        show own_End p e below _ (T203.setTop (mkF m 338 #[.val (.long p0), .second, .val (.int p1), .val (.int p2), .val (.ref d), .val (.int (3 : Int32)), .val (.int (1 : Int32)), .val (.int (0 : Int32)), .val (.int sk), .val (.int lt), .val (.int nb), .val (.int sp), .val (.int (5 : Int32)), .val (.int (7 : Int32)), .val (.int (7 : Int32)), .unset, .unset] [(.int (nb &&& (255 : Int32))), (.ref a203), (.int (7 : Int32)), (.int (5 : Int32)), (.int (3 : Int32)), (.int (1 : Int32)), (.ref b202), (.ref b202)]))
        refine own_lk5 hw X203 hx hZ hby (by rw [hml]; rfl) hown at_338 (pc' := 341) rfl e203 (W := 7) (Nat.le_of_eq rfl) (rm1 l Z a0 hw [] (nb &&& (255 : Int32)) cs h203 n0 Zn f_S_java_lang_String_COMPACT_STRINGS hcs (own_chr2 _)) (by decide) (by decide) (by decide) (by decide) (fun v205 T205 L205 X205 hQ205 => ?_)
        obtain ⟨w204, rfl, Nq205, K205, gw205⟩ := hQ205
        have N205 := Fr.app N201 Nq205
        have f_S_java_lang_String_COMPACT_STRINGS := own_sta0 f_S_java_lang_String_COMPACT_STRINGS K205
        have f_V_d := f_V_d.keep K205 nin0
        have f_O_b202 := f_O_b202.keep K205 nin0
        have Zn := Nat.le_trans Zn K205.1
        have hSn := Nat.le_trans hSn K205.1
        show own_End p e below _ (T205.setTop (mkF m 341 _ [(.ref w204), (.ref a203), (.int (7 : Int32)), (.int (5 : Int32)), (.int (3 : Int32)), (.int (1 : Int32)), (.ref b202), (.ref b202)]))
        refine own_iconst X205 hx hby at_341 (pc' := 342) rfl (n := (0 : Int32)) (by decide) ?_
        refine own_newP (aty := .int) X205 hx hZ hby (wd_33 hw) rfl at_342 (pc' := 344) rfl (by decide) (cap := 0) (by decide) (by decide) (by decide) (by decide) (fun T206 h206 k206 b206 g206 X206 e206 E206 A206 => ?_)
        have ne_d_b206 : d ≠ b206 := Nat.ne_of_lt (by rw [g206]; exact f_V_d.lt)
        have ne_b202_b206 : b202 ≠ b206 := Nat.ne_of_lt (by rw [g206]; exact f_O_b202.lt)
        have ge_b206 : n0 ≤ b206 := by rw [g206]; exact Zn
        have f_V_d := f_V_d.ext E206
        have f_S_java_lang_String_COMPACT_STRINGS := f_S_java_lang_String_COMPACT_STRINGS.ext E206
        have f_O_b202 := f_O_b202.ext E206
        have Zn := Nat.le_trans Zn E206.1
        have hSn := Nat.le_trans hSn E206.1
        have f_V_b206 : Arv Z h206 b206 k206 .int (0 : Int32) [] (.int (0 : Int32)) := Arv.new A206 (by decide)
        refine own_aconst_null X206 hx hby at_344 (pc' := 345) rfl ?_
        refine own_lk6 hw X206 hx hZ hby (by rw [hml]; rfl) hown at_345 (pc' := 348) rfl e206 (W := 1) (Nat.le_of_eq rfl) (rm6 l Z a0 hw [] b202 (1 : Int32) (3 : Int32) (5 : Int32) (7 : Int32) a203 w204 b206 h206 n0 Zn f_O_b202 ge_b202) (by decide) (by decide) (by decide) (by decide) (fun v207 T207 L207 X207 hQ207 => ?_)
        obtain ⟨rfl, Nq207, K207, O207⟩ := hQ207
        have N207 := Fr.app N205 Nq207
        have f_S_java_lang_String_COMPACT_STRINGS := own_sta1 f_S_java_lang_String_COMPACT_STRINGS K207 f_O_b202.1
        have f_V_d := f_V_d.keep K207 (ninS ne_d_b202 nin0)
        have f_V_b206 := f_V_b206.keep K207 (ninS (Ne.symm ne_b202_b206) nin0)
        have Zn := Nat.le_trans Zn K207.1
        have hSn := Nat.le_trans hSn K207.1
        show own_End p e below _ (T207.setTop (mkF m 348 _ [(.ref b202)]))
        refine own_astore X207 hx hby at_348 (pc' := 350) rfl rfl (l' := #[.val (.long p0), .second, .val (.int p1), .val (.int p2), .val (.ref d), .val (.int (3 : Int32)), .val (.int (1 : Int32)), .val (.int (0 : Int32)), .val (.int sk), .val (.int lt), .val (.int nb), .val (.int sp), .val (.int (5 : Int32)), .val (.int (7 : Int32)), .val (.int (7 : Int32)), .val (.ref b202), .unset]) rfl ?_
        refine own_new X207 hx hZ hby hown (wd_59 hw) (wd_60 hw) (wd_61 hw) rfl at_350 (pc' := 353) rfl (by decide) (by decide) (fun T208 h208 b208 g208 X208 e208 E208 A208 D208 => ?_)
        have ne_d_b208 : d ≠ b208 := Nat.ne_of_lt (by rw [g208]; exact f_V_d.lt)
        have ne_b206_b208 : b206 ≠ b208 := Nat.ne_of_lt (by rw [g208]; exact f_V_b206.lt)
        have ne_b202_b208 : b202 ≠ b208 := Nat.ne_of_lt (by rw [g208]; exact O207.lt)
        have ge_b208 : n0 ≤ b208 := by rw [g208]; exact Zn
        have f_V_d := f_V_d.ext E208
        have f_S_java_lang_String_COMPACT_STRINGS := f_S_java_lang_String_COMPACT_STRINGS.ext E208
        have f_V_b206 := f_V_b206.ext E208
        have O207 := O207.ext E208
        have Zn := Nat.le_trans Zn E208.1
        have hSn := Nat.le_trans hSn E208.1
        have f_O_b208 : own_XS Z h208 b208 .null .null (0 : Int32) .null .null := ⟨A208, D208 (Or.inr (wd_67 hw)) (ty := (.array .byte)) (by decide), D208 (Or.inr (wd_69 hw)) (ty := (.object "com/example/halyard/halyard/base/XmlScan$StartTag")) (by decide), D208 (Or.inr (wd_71 hw)) (ty := .int) (by decide), D208 (Or.inr (wd_73 hw)) (ty := (.object "java/util/List")) (by decide), D208 (Or.inr (wd_75 hw)) (ty := (.array .int)) (by decide)⟩
        refine own_dup X208 hx hby at_353 (pc' := 354) rfl rfl ?_
        refine own_aload X208 hx hby at_354 (pc' := 356) rfl rfl rfl ?_
        refine own_aload X208 hx hby at_356 (pc' := 358) rfl rfl rfl ?_
        refine own_iload X208 hx hby at_358 (pc' := 360) rfl rfl ?_
        refine own_aconst_null X208 hx hby at_360 (pc' := 361) rfl ?_
        refine own_iconst X208 hx hby at_361 (pc' := 362) rfl (n := (0 : Int32)) (by decide) ?_
        refine own_newP (aty := .int) X208 hx hZ hby (wd_33 hw) e208 at_362 (pc' := 364) rfl (by decide) (cap := 0) (by decide) (by decide) (by decide) (by decide) (fun T209 h209 k209 b209 g209 X209 e209 E209 A209 => ?_)
        have ne_d_b209 : d ≠ b209 := Nat.ne_of_lt (by rw [g209]; exact f_V_d.lt)
        have ne_b206_b209 : b206 ≠ b209 := Nat.ne_of_lt (by rw [g209]; exact f_V_b206.lt)
        have ne_b202_b209 : b202 ≠ b209 := Nat.ne_of_lt (by rw [g209]; exact O207.lt)
        have ne_b208_b209 : b208 ≠ b209 := Nat.ne_of_lt (by rw [g209]; exact f_O_b208.lt)
        have ge_b209 : n0 ≤ b209 := by rw [g209]; exact Zn
        have f_V_d := f_V_d.ext E209
        have f_S_java_lang_String_COMPACT_STRINGS := f_S_java_lang_String_COMPACT_STRINGS.ext E209
        have f_V_b206 := f_V_b206.ext E209
        have O207 := O207.ext E209
        have f_O_b208 := f_O_b208.ext E209
        have Zn := Nat.le_trans Zn E209.1
        have hSn := Nat.le_trans hSn E209.1
        have f_V_b209 : Arv Z h209 b209 k209 .int (0 : Int32) [] (.int (0 : Int32)) := Arv.new A209 (by decide)
        refine own_lk7 hw X209 hx hZ hby (by rw [hml]; rfl) hown at_364 (pc' := 367) rfl e209 (W := 1) (Nat.le_of_eq rfl) (rm8 l Z a0 hw [] b208 d b202 (7 : Int32) b209 h209 n0 Zn f_O_b208 ge_b208) (by decide) (by decide) (by decide) (by decide) (fun v210 T210 L210 X210 hQ210 => ?_)
        obtain ⟨rfl, Nq210, K210, O210⟩ := hQ210
        have N210 := Fr.app N207 Nq210
        have f_S_java_lang_String_COMPACT_STRINGS := own_sta1 f_S_java_lang_String_COMPACT_STRINGS K210 f_O_b208.1
        have f_V_d := f_V_d.keep K210 (ninS ne_d_b208 nin0)
        have f_V_b206 := f_V_b206.keep K210 (ninS ne_b206_b208 nin0)
        have O207 := O207.keep K210 (ninS ne_b202_b208 nin0)
        have f_V_b209 := f_V_b209.keep K210 (ninS (Ne.symm ne_b208_b209) nin0)
        have Zn := Nat.le_trans Zn K210.1
        have hSn := Nat.le_trans hSn K210.1
        show own_End p e below _ (T210.setTop (mkF m 367 _ [(.ref b208)]))
        refine own_astore X210 hx hby at_367 (pc' := 369) rfl rfl (l' := #[.val (.long p0), .second, .val (.int p1), .val (.int p2), .val (.ref d), .val (.int (3 : Int32)), .val (.int (1 : Int32)), .val (.int (0 : Int32)), .val (.int sk), .val (.int lt), .val (.int nb), .val (.int sp), .val (.int (5 : Int32)), .val (.int (7 : Int32)), .val (.int (7 : Int32)), .val (.ref b202), .val (.ref b208)]) rfl ?_
        refine own_aload X210 hx hby at_369 (pc' := 371) rfl rfl rfl ?_
        refine own_lk8 hw X210 hx hZ hby (by rw [hml]; rfl) hown at_371 (pc' := 374) rfl rfl O210.1 (W := 0) (Nat.le_of_eq rfl) (rm9a l Z a0 hw [] b208 d b202 (7 : Int32) .null rfl (.ref b209) rfl (1 : Int32) (3 : Int32) (5 : Int32) (7 : Int32) (.ref a203) rfl (.ref w204) rfl (.ref b206) rfl .null rfl kk (10 : Int32) [w0, w1, w2, (.int (60 : Int32)), (.int (nb.toInt8.toInt32)), (.int (47 : Int32)), (.int (62 : Int32)), w7, w8, w9] (47 : Int32) T210.heap n0 Zn O210 O207 f_V_d (by decide) rfl rfl) (by decide) (by decide) (by decide) (by decide) (fun v211 T211 L211 X211 hQ211 => ?_)
        obtain ⟨rfl, Nq211, e211⟩ := hQ211
        have N211 := Fr.app N210 Nq211
        show own_End p e below _ (T211.setTop (mkF m 374 _ [(.int (5 : Int32))]))
        refine own_iload X211 hx hby at_374 (pc' := 376) rfl rfl ?_
        refine own_icN X211 hx hby at_376 (pc' := 379) rfl (show (5 : Int32) = (5 : Int32) by decide) ?_
        refine own_iconst X211 hx hby at_379 (pc' := 380) rfl (n := (1 : Int32)) (by decide) ?_
        refine own_goto X211 hx hby at_380 (pc' := 384) (by decide) (by decide) ?_
        refine own_zreturn X211 hx hlk hby hret (Or.inr rfl) at_384 (own_lvS hS (by rw [e211]; exact hSn) ?_ (by decide) (by decide))
        show Q0 Z p0 p1 p2 cs  h0 n0 (some (.int (1 : Int32))) T211.heap _
        rw [e211]
        exact ⟨rfl, N211⟩
    · rcases own_and3 p2 with hs212 | hs212 | hs212 | hs212
      · rw [hs212]
        show own_End p e below _ (T0.setTop (mkF m 221 #[.val (.long p0), .second, .val (.int p1), .val (.int p2), .val (.ref d), .val (.int (0 : Int32)), .val (.int (1 : Int32)), .val (.int (1 : Int32)), .val (.int sk), .val (.int lt), .val (.int nb), .val (.int sp), .unset, .unset, .unset, .unset, .unset] [(.ref d)]))
        refine own_iload X0 hx hby at_221 (pc' := 223) rfl rfl ?_
        refine own_bipush X0 hx hby at_223 (pc' := 225) rfl (n := (60 : Int32)) (by decide) ?_
        obtain ⟨cl213, Ar213, q213, S213, M213, H213, G213⟩ := id f_V_d
        have hin213 : ¬ ((0 : Int32) < 0 ∨ cl213.slots.size ≤ ((0 : Int32)).toNatClampNeg) := inb_of S213 ⟨by decide, by decide⟩
        refine own_bastore X0 hx hZ hby e1 Ar213 hin213 at_225 (pc' := 226) rfl (fun T214 h214 X214 e214 W214 => ?_)
        have f_V_d := Arv.set Ar213 q213 S213 M213 H213 G213 (fits_nar_byte _) W214 0 rfl (Nat.le_of_ble_eq_true rfl)
        have f_V_d : Arv Z h214 d kk .byte (10 : Int32) [(.int ((60 : Int32).toInt8.toInt32)), w1, w2, w3, w4, w5, w6, w7, w8, w9] (.int (0 : Int32)) := f_V_d
        have f_V_d : Arv Z h214 d kk .byte (10 : Int32) [(.int (60 : Int32)), w1, w2, w3, w4, w5, w6, w7, w8, w9] (.int (0 : Int32)) := f_V_d
        have f_S_java_lang_String_COMPACT_STRINGS := f_S_java_lang_String_COMPACT_STRINGS.wr W214
        have Zn := Nat.le_trans Z1 (Keep.of_wr W214).1
        have hSn := Nat.le_trans hSn (Keep.of_wr W214).1
        have N214 := Fr.snoc X214 N0 ge_d
        refine own_aload X214 hx hby at_226 (pc' := 228) rfl rfl rfl ?_
        refine own_iload X214 hx hby at_228 (pc' := 230) rfl rfl ?_
        refine own_iconst X214 hx hby at_230 (pc' := 231) rfl (n := (1 : Int32)) (by decide) ?_
        refine own_iadd X214 hx hby at_231 (pc' := 232) rfl ?_
        show own_End p e below _ (T214.setTop (mkF m 232 #[.val (.long p0), .second, .val (.int p1), .val (.int p2), .val (.ref d), .val (.int (0 : Int32)), .val (.int (1 : Int32)), .val (.int (1 : Int32)), .val (.int sk), .val (.int lt), .val (.int nb), .val (.int sp), .unset, .unset, .unset, .unset, .unset] [(.int (1 : Int32)), (.ref d)]))
        refine own_iload X214 hx hby at_232 (pc' := 234) rfl rfl ?_
        obtain ⟨cl215, Ar215, q215, S215, M215, H215, G215⟩ := id f_V_d
        have hin215 : ¬ ((1 : Int32) < 0 ∨ cl215.slots.size ≤ ((1 : Int32)).toNatClampNeg) := inb_of S215 ⟨by decide, by decide⟩
        refine own_bastore X214 hx hZ hby e214 Ar215 hin215 at_234 (pc' := 235) rfl (fun T216 h216 X216 e216 W216 => ?_)
        have f_V_d := Arv.set Ar215 q215 S215 M215 H215 G215 (fits_nar_byte _) W216 1 rfl (Nat.le_of_ble_eq_true rfl)
        have f_V_d : Arv Z h216 d kk .byte (10 : Int32) [(.int (60 : Int32)), (.int (nb.toInt8.toInt32)), w2, w3, w4, w5, w6, w7, w8, w9] (.int (0 : Int32)) := f_V_d
        have f_S_java_lang_String_COMPACT_STRINGS := f_S_java_lang_String_COMPACT_STRINGS.wr W216
        have Zn := Nat.le_trans Zn (Keep.of_wr W216).1
        have hSn := Nat.le_trans hSn (Keep.of_wr W216).1
        have N216 := Fr.snoc X216 N214 ge_d
        refine own_iload X216 hx hby at_235 (pc' := 237) rfl rfl ?_
        refine own_iconst X216 hx hby at_237 (pc' := 238) rfl (n := (2 : Int32)) (by decide) ?_
        refine own_iadd X216 hx hby at_238 (pc' := 239) rfl ?_
        show own_End p e below _ (T216.setTop (mkF m 239 #[.val (.long p0), .second, .val (.int p1), .val (.int p2), .val (.ref d), .val (.int (0 : Int32)), .val (.int (1 : Int32)), .val (.int (1 : Int32)), .val (.int sk), .val (.int lt), .val (.int nb), .val (.int sp), .unset, .unset, .unset, .unset, .unset] [(.int (2 : Int32))]))
        refine own_istore X216 hx hby at_239 (pc' := 241) rfl (l' := #[.val (.long p0), .second, .val (.int p1), .val (.int p2), .val (.ref d), .val (.int (0 : Int32)), .val (.int (1 : Int32)), .val (.int (1 : Int32)), .val (.int sk), .val (.int lt), .val (.int nb), .val (.int sp), .val (.int (2 : Int32)), .unset, .unset, .unset, .unset]) rfl ?_
        refine own_iload X216 hx hby at_241 (pc' := 243) rfl rfl ?_
        refine own_ifN X216 hx hby at_243 (pc' := 246) rfl (show ¬ (1 : Int32) = (0 : Int32) by decide) ?_
        refine own_aload X216 hx hby at_246 (pc' := 248) rfl rfl rfl ?_
        refine own_iload X216 hx hby at_248 (pc' := 250) rfl rfl ?_
        refine own_iload X216 hx hby at_250 (pc' := 252) rfl rfl ?_
        obtain ⟨cl217, Ar217, q217, S217, M217, H217, G217⟩ := id f_V_d
        have hin217 : ¬ ((2 : Int32) < 0 ∨ cl217.slots.size ≤ ((2 : Int32)).toNatClampNeg) := inb_of S217 ⟨by decide, by decide⟩
        refine own_bastore X216 hx hZ hby e216 Ar217 hin217 at_252 (pc' := 253) rfl (fun T218 h218 X218 e218 W218 => ?_)
        have f_V_d := Arv.set Ar217 q217 S217 M217 H217 G217 (fits_nar_byte _) W218 2 rfl (Nat.le_of_ble_eq_true rfl)
        have f_V_d : Arv Z h218 d kk .byte (10 : Int32) [(.int (60 : Int32)), (.int (nb.toInt8.toInt32)), (.int (sp.toInt8.toInt32)), w3, w4, w5, w6, w7, w8, w9] (.int (0 : Int32)) := f_V_d
        have f_S_java_lang_String_COMPACT_STRINGS := f_S_java_lang_String_COMPACT_STRINGS.wr W218
        have Zn := Nat.le_trans Zn (Keep.of_wr W218).1
        have hSn := Nat.le_trans hSn (Keep.of_wr W218).1
        have N218 := Fr.snoc X218 N216 ge_d
        refine own_iload X218 hx hby at_253 (pc' := 255) rfl rfl ?_
        refine own_iconst X218 hx hby at_255 (pc' := 256) rfl (n := (1 : Int32)) (by decide) ?_
        refine own_iadd X218 hx hby at_256 (pc' := 257) rfl ?_
        show own_End p e below _ (T218.setTop (mkF m 257 #[.val (.long p0), .second, .val (.int p1), .val (.int p2), .val (.ref d), .val (.int (0 : Int32)), .val (.int (1 : Int32)), .val (.int (1 : Int32)), .val (.int sk), .val (.int lt), .val (.int nb), .val (.int sp), .val (.int (2 : Int32)), .unset, .unset, .unset, .unset] [(.int (3 : Int32))]))
        refine own_istore X218 hx hby at_257 (pc' := 259) rfl (l' := #[.val (.long p0), .second, .val (.int p1), .val (.int p2), .val (.ref d), .val (.int (0 : Int32)), .val (.int (1 : Int32)), .val (.int (1 : Int32)), .val (.int sk), .val (.int lt), .val (.int nb), .val (.int sp), .val (.int (3 : Int32)), .unset, .unset, .unset, .unset]) rfl ?_
        refine own_iload X218 hx hby at_259 (pc' := 261) rfl rfl ?_
        refine own_ifN X218 hx hby at_261 (pc' := 264) rfl (show ¬ (1 : Int32) = (0 : Int32) by decide) ?_
        refine own_aload X218 hx hby at_264 (pc' := 266) rfl rfl rfl ?_
        refine own_iload X218 hx hby at_266 (pc' := 268) rfl rfl ?_
        refine own_bipush X218 hx hby at_268 (pc' := 270) rfl (n := (47 : Int32)) (by decide) ?_
        obtain ⟨cl219, Ar219, q219, S219, M219, H219, G219⟩ := id f_V_d
        have hin219 : ¬ ((3 : Int32) < 0 ∨ cl219.slots.size ≤ ((3 : Int32)).toNatClampNeg) := inb_of S219 ⟨by decide, by decide⟩
        refine own_bastore X218 hx hZ hby e218 Ar219 hin219 at_270 (pc' := 271) rfl (fun T220 h220 X220 e220 W220 => ?_)
        have f_V_d := Arv.set Ar219 q219 S219 M219 H219 G219 (fits_nar_byte _) W220 3 rfl (Nat.le_of_ble_eq_true rfl)
        have f_V_d : Arv Z h220 d kk .byte (10 : Int32) [(.int (60 : Int32)), (.int (nb.toInt8.toInt32)), (.int (sp.toInt8.toInt32)), (.int ((47 : Int32).toInt8.toInt32)), w4, w5, w6, w7, w8, w9] (.int (0 : Int32)) := f_V_d
        have f_V_d : Arv Z h220 d kk .byte (10 : Int32) [(.int (60 : Int32)), (.int (nb.toInt8.toInt32)), (.int (sp.toInt8.toInt32)), (.int (47 : Int32)), w4, w5, w6, w7, w8, w9] (.int (0 : Int32)) := f_V_d
        have f_S_java_lang_String_COMPACT_STRINGS := f_S_java_lang_String_COMPACT_STRINGS.wr W220
        have Zn := Nat.le_trans Zn (Keep.of_wr W220).1
        have hSn := Nat.le_trans hSn (Keep.of_wr W220).1
        have N220 := Fr.snoc X220 N218 ge_d
        refine own_aload X220 hx hby at_271 (pc' := 273) rfl rfl rfl ?_
        refine own_iload X220 hx hby at_273 (pc' := 275) rfl rfl ?_
        refine own_iconst X220 hx hby at_275 (pc' := 276) rfl (n := (1 : Int32)) (by decide) ?_
        refine own_iadd X220 hx hby at_276 (pc' := 277) rfl ?_
        show own_End p e below _ (T220.setTop (mkF m 277 #[.val (.long p0), .second, .val (.int p1), .val (.int p2), .val (.ref d), .val (.int (0 : Int32)), .val (.int (1 : Int32)), .val (.int (1 : Int32)), .val (.int sk), .val (.int lt), .val (.int nb), .val (.int sp), .val (.int (3 : Int32)), .unset, .unset, .unset, .unset] [(.int (4 : Int32)), (.ref d)]))
        refine own_bipush X220 hx hby at_277 (pc' := 279) rfl (n := (62 : Int32)) (by decide) ?_
        obtain ⟨cl221, Ar221, q221, S221, M221, H221, G221⟩ := id f_V_d
        have hin221 : ¬ ((4 : Int32) < 0 ∨ cl221.slots.size ≤ ((4 : Int32)).toNatClampNeg) := inb_of S221 ⟨by decide, by decide⟩
        refine own_bastore X220 hx hZ hby e220 Ar221 hin221 at_279 (pc' := 280) rfl (fun T222 h222 X222 e222 W222 => ?_)
        have f_V_d := Arv.set Ar221 q221 S221 M221 H221 G221 (fits_nar_byte _) W222 4 rfl (Nat.le_of_ble_eq_true rfl)
        have f_V_d : Arv Z h222 d kk .byte (10 : Int32) [(.int (60 : Int32)), (.int (nb.toInt8.toInt32)), (.int (sp.toInt8.toInt32)), (.int (47 : Int32)), (.int ((62 : Int32).toInt8.toInt32)), w5, w6, w7, w8, w9] (.int (0 : Int32)) := f_V_d
        have f_V_d : Arv Z h222 d kk .byte (10 : Int32) [(.int (60 : Int32)), (.int (nb.toInt8.toInt32)), (.int (sp.toInt8.toInt32)), (.int (47 : Int32)), (.int (62 : Int32)), w5, w6, w7, w8, w9] (.int (0 : Int32)) := f_V_d
        have f_S_java_lang_String_COMPACT_STRINGS := f_S_java_lang_String_COMPACT_STRINGS.wr W222
        have Zn := Nat.le_trans Zn (Keep.of_wr W222).1
        have hSn := Nat.le_trans hSn (Keep.of_wr W222).1
        have N222 := Fr.snoc X222 N220 ge_d
        refine own_iload X222 hx hby at_280 (pc' := 282) rfl rfl ?_
        refine own_iconst X222 hx hby at_282 (pc' := 283) rfl (n := (2 : Int32)) (by decide) ?_
        refine own_iadd X222 hx hby at_283 (pc' := 284) rfl ?_
        show own_End p e below _ (T222.setTop (mkF m 284 #[.val (.long p0), .second, .val (.int p1), .val (.int p2), .val (.ref d), .val (.int (0 : Int32)), .val (.int (1 : Int32)), .val (.int (1 : Int32)), .val (.int sk), .val (.int lt), .val (.int nb), .val (.int sp), .val (.int (3 : Int32)), .unset, .unset, .unset, .unset] [(.int (5 : Int32))]))
        refine own_istore X222 hx hby at_284 (pc' := 286) rfl (l' := #[.val (.long p0), .second, .val (.int p1), .val (.int p2), .val (.ref d), .val (.int (0 : Int32)), .val (.int (1 : Int32)), .val (.int (1 : Int32)), .val (.int sk), .val (.int lt), .val (.int nb), .val (.int sp), .val (.int (3 : Int32)), .val (.int (5 : Int32)), .unset, .unset, .unset]) rfl ?_
        refine own_goto X222 hx hby at_286 (pc' := 302) (by decide) (by decide) ?_
        refine own_iload X222 hx hby at_302 (pc' := 304) rfl rfl ?_
        refine own_ifN X222 hx hby at_304 (pc' := 307) rfl (show ¬ (1 : Int32) = (0 : Int32) by decide) ?_
        refine own_iload X222 hx hby at_307 (pc' := 309) rfl rfl ?_
        refine own_goto X222 hx hby at_309 (pc' := 314) (by decide) (by decide) ?_
        refine own_istore X222 hx hby at_314 (pc' := 316) rfl (l' := #[.val (.long p0), .second, .val (.int p1), .val (.int p2), .val (.ref d), .val (.int (0 : Int32)), .val (.int (1 : Int32)), .val (.int (1 : Int32)), .val (.int sk), .val (.int lt), .val (.int nb), .val (.int sp), .val (.int (3 : Int32)), .val (.int (5 : Int32)), .val (.int (5 : Int32)), .unset, .unset]) rfl ?_
        refine own_new X222 hx hZ hby hown (wd_2 hw) (wd_3 hw) (wd_4 hw) e222 at_316 (pc' := 319) rfl (by decide) (by decide) (fun T223 h223 b223 g223 X223 e223 E223 A223 D223 => ?_)
        have ne_d_b223 : d ≠ b223 := Nat.ne_of_lt (by rw [g223]; exact f_V_d.lt)
        have ge_b223 : n0 ≤ b223 := by rw [g223]; exact Zn
        have f_V_d := f_V_d.ext E223
        have f_S_java_lang_String_COMPACT_STRINGS := f_S_java_lang_String_COMPACT_STRINGS.ext E223
        have Zn := Nat.le_trans Zn E223.1
        have hSn := Nat.le_trans hSn E223.1
        have f_O_b223 : own_ST Z h223 b223 (0 : Int32) (0 : Int32) (0 : Int32) (0 : Int32) .null .null .null .null := ⟨A223, D223 (Or.inr (wd_44 hw)) (ty := .int) (by decide), D223 (Or.inr (wd_46 hw)) (ty := .int) (by decide), D223 (Or.inr (wd_48 hw)) (ty := .int) (by decide), D223 (Or.inr (wd_50 hw)) (ty := .int) (by decide), D223 (Or.inr (wd_52 hw)) (ty := (.object "java/lang/String")) (by decide), D223 (Or.inr (wd_54 hw)) (ty := (.object "java/lang/String")) (by decide), D223 (Or.inr (wd_56 hw)) (ty := (.array .int)) (by decide), D223 (Or.inr (wd_58 hw)) (ty := (.object "java/util/Map")) (by decide)⟩
        refine own_dup X223 hx hby at_319 (pc' := 320) rfl rfl ?_
        refine own_iconst X223 hx hby at_320 (pc' := 321) rfl (n := (1 : Int32)) (by decide) ?_
        refine own_iload X223 hx hby at_321 (pc' := 323) rfl rfl ?_
        refine own_iload X223 hx hby at_323 (pc' := 325) rfl rfl ?_
        refine own_iconst X223 hx hby at_325 (pc' := 326) rfl (n := (2 : Int32)) (by decide) ?_
        refine own_iadd X223 hx hby at_326 (pc' := 327) rfl ?_
        show own_End p e below _ (T223.setTop (mkF m 327 #[.val (.long p0), .second, .val (.int p1), .val (.int p2), .val (.ref d), .val (.int (0 : Int32)), .val (.int (1 : Int32)), .val (.int (1 : Int32)), .val (.int sk), .val (.int lt), .val (.int nb), .val (.int sp), .val (.int (3 : Int32)), .val (.int (5 : Int32)), .val (.int (5 : Int32)), .unset, .unset] [(.int (2 : Int32)), (.int (0 : Int32)), (.int (1 : Int32)), (.ref b223), (.ref b223)]))
        refine own_iload X223 hx hby at_327 (pc' := 329) rfl rfl ?_
        obtain ⟨a224, T224, h224, k224, X224, e224, E224, hS, hSn, hZ, hown, st224⟩ := ldcS X223 hx hZ hown (wd_5 hw) (own_wS hw) e223 hS hSn (g := (mkF m 329 #[.val (.long p0), .second, .val (.int p1), .val (.int p2), .val (.ref d), .val (.int (0 : Int32)), .val (.int (1 : Int32)), .val (.int (1 : Int32)), .val (.int sk), .val (.int lt), .val (.int nb), .val (.int sp), .val (.int (3 : Int32)), .val (.int (5 : Int32)), .val (.int (5 : Int32)), .unset, .unset] [(.int (5 : Int32)), (.int (2 : Int32)), (.int (0 : Int32)), (.int (1 : Int32)), (.ref b223), (.ref b223)])) rfl (hb hby at_329) (n := 0) (by decide) (by decide) (by decide) (by decide)
        refine own_step st224 ?_
        have f_V_d := f_V_d.ext E224
        have f_S_java_lang_String_COMPACT_STRINGS := f_S_java_lang_String_COMPACT_STRINGS.ext E224
        have f_O_b223 := f_O_b223.ext E224
        have Zn := Nat.le_trans Zn E224.1
        show own_End p e below _ (T224.setTop (mkF m 331 #[.val (.long p0), .second, .val (.int p1), .val (.int p2), .val (.ref d), .val (.int (0 : Int32)), .val (.int (1 : Int32)), .val (.int (1 : Int32)), .val (.int sk), .val (.int lt), .val (.int nb), .val (.int sp), .val (.int (3 : Int32)), .val (.int (5 : Int32)), .val (.int (5 : Int32)), .unset, .unset] [(.ref a224), (.int (5 : Int32)), (.int (2 : Int32)), (.int (0 : Int32)), (.int (1 : Int32)), (.ref b223), (.ref b223)]))
        refine own_iload X224 hx hby at_331 (pc' := 333) rfl rfl ?_
        refine own_sipush X224 hx hby at_333 (pc' := 336) rfl (n := (255 : Int32)) (by decide) ?_
        refine own_iand X224 hx hby at_336 (pc' := 337) rfl ?_
        refine own_i2c X224 hx hby at_337 (pc' := 338) rfl ?_
        rw [i2c_mask]
        show own_End p e below _ (T224.setTop (mkF m 338 #[.val (.long p0), .second, .val (.int p1), .val (.int p2), .val (.ref d), .val (.int (0 : Int32)), .val (.int (1 : Int32)), .val (.int (1 : Int32)), .val (.int sk), .val (.int lt), .val (.int nb), .val (.int sp), .val (.int (3 : Int32)), .val (.int (5 : Int32)), .val (.int (5 : Int32)), .unset, .unset] [(.int (nb &&& (255 : Int32))), (.ref a224), (.int (5 : Int32)), (.int (2 : Int32)), (.int (0 : Int32)), (.int (1 : Int32)), (.ref b223), (.ref b223)]))
        refine own_lk5 hw X224 hx hZ hby (by rw [hml]; rfl) hown at_338 (pc' := 341) rfl e224 (W := 7) (Nat.le_of_eq rfl) (rm1 l Z a0 hw [] (nb &&& (255 : Int32)) cs h224 n0 Zn f_S_java_lang_String_COMPACT_STRINGS hcs (own_chr2 _)) (by decide) (by decide) (by decide) (by decide) (fun v226 T226 L226 X226 hQ226 => ?_)
        obtain ⟨w225, rfl, Nq226, K226, gw226⟩ := hQ226
        have N226 := Fr.app N222 Nq226
        have f_S_java_lang_String_COMPACT_STRINGS := own_sta0 f_S_java_lang_String_COMPACT_STRINGS K226
        have f_V_d := f_V_d.keep K226 nin0
        have f_O_b223 := f_O_b223.keep K226 nin0
        have Zn := Nat.le_trans Zn K226.1
        have hSn := Nat.le_trans hSn K226.1
        show own_End p e below _ (T226.setTop (mkF m 341 _ [(.ref w225), (.ref a224), (.int (5 : Int32)), (.int (2 : Int32)), (.int (0 : Int32)), (.int (1 : Int32)), (.ref b223), (.ref b223)]))
        refine own_iconst X226 hx hby at_341 (pc' := 342) rfl (n := (0 : Int32)) (by decide) ?_
        refine own_newP (aty := .int) X226 hx hZ hby (wd_33 hw) rfl at_342 (pc' := 344) rfl (by decide) (cap := 0) (by decide) (by decide) (by decide) (by decide) (fun T227 h227 k227 b227 g227 X227 e227 E227 A227 => ?_)
        have ne_d_b227 : d ≠ b227 := Nat.ne_of_lt (by rw [g227]; exact f_V_d.lt)
        have ne_b223_b227 : b223 ≠ b227 := Nat.ne_of_lt (by rw [g227]; exact f_O_b223.lt)
        have ge_b227 : n0 ≤ b227 := by rw [g227]; exact Zn
        have f_V_d := f_V_d.ext E227
        have f_S_java_lang_String_COMPACT_STRINGS := f_S_java_lang_String_COMPACT_STRINGS.ext E227
        have f_O_b223 := f_O_b223.ext E227
        have Zn := Nat.le_trans Zn E227.1
        have hSn := Nat.le_trans hSn E227.1
        have f_V_b227 : Arv Z h227 b227 k227 .int (0 : Int32) [] (.int (0 : Int32)) := Arv.new A227 (by decide)
        refine own_aconst_null X227 hx hby at_344 (pc' := 345) rfl ?_
        refine own_lk6 hw X227 hx hZ hby (by rw [hml]; rfl) hown at_345 (pc' := 348) rfl e227 (W := 1) (Nat.le_of_eq rfl) (rm6 l Z a0 hw [] b223 (1 : Int32) (0 : Int32) (2 : Int32) (5 : Int32) a224 w225 b227 h227 n0 Zn f_O_b223 ge_b223) (by decide) (by decide) (by decide) (by decide) (fun v228 T228 L228 X228 hQ228 => ?_)
        obtain ⟨rfl, Nq228, K228, O228⟩ := hQ228
        have N228 := Fr.app N226 Nq228
        have f_S_java_lang_String_COMPACT_STRINGS := own_sta1 f_S_java_lang_String_COMPACT_STRINGS K228 f_O_b223.1
        have f_V_d := f_V_d.keep K228 (ninS ne_d_b223 nin0)
        have f_V_b227 := f_V_b227.keep K228 (ninS (Ne.symm ne_b223_b227) nin0)
        have Zn := Nat.le_trans Zn K228.1
        have hSn := Nat.le_trans hSn K228.1
        show own_End p e below _ (T228.setTop (mkF m 348 _ [(.ref b223)]))
        refine own_astore X228 hx hby at_348 (pc' := 350) rfl rfl (l' := #[.val (.long p0), .second, .val (.int p1), .val (.int p2), .val (.ref d), .val (.int (0 : Int32)), .val (.int (1 : Int32)), .val (.int (1 : Int32)), .val (.int sk), .val (.int lt), .val (.int nb), .val (.int sp), .val (.int (3 : Int32)), .val (.int (5 : Int32)), .val (.int (5 : Int32)), .val (.ref b223), .unset]) rfl ?_
        refine own_new X228 hx hZ hby hown (wd_59 hw) (wd_60 hw) (wd_61 hw) rfl at_350 (pc' := 353) rfl (by decide) (by decide) (fun T229 h229 b229 g229 X229 e229 E229 A229 D229 => ?_)
        have ne_d_b229 : d ≠ b229 := Nat.ne_of_lt (by rw [g229]; exact f_V_d.lt)
        have ne_b227_b229 : b227 ≠ b229 := Nat.ne_of_lt (by rw [g229]; exact f_V_b227.lt)
        have ne_b223_b229 : b223 ≠ b229 := Nat.ne_of_lt (by rw [g229]; exact O228.lt)
        have ge_b229 : n0 ≤ b229 := by rw [g229]; exact Zn
        have f_V_d := f_V_d.ext E229
        have f_S_java_lang_String_COMPACT_STRINGS := f_S_java_lang_String_COMPACT_STRINGS.ext E229
        have f_V_b227 := f_V_b227.ext E229
        have O228 := O228.ext E229
        have Zn := Nat.le_trans Zn E229.1
        have hSn := Nat.le_trans hSn E229.1
        have f_O_b229 : own_XS Z h229 b229 .null .null (0 : Int32) .null .null := ⟨A229, D229 (Or.inr (wd_67 hw)) (ty := (.array .byte)) (by decide), D229 (Or.inr (wd_69 hw)) (ty := (.object "com/example/halyard/halyard/base/XmlScan$StartTag")) (by decide), D229 (Or.inr (wd_71 hw)) (ty := .int) (by decide), D229 (Or.inr (wd_73 hw)) (ty := (.object "java/util/List")) (by decide), D229 (Or.inr (wd_75 hw)) (ty := (.array .int)) (by decide)⟩
        refine own_dup X229 hx hby at_353 (pc' := 354) rfl rfl ?_
        refine own_aload X229 hx hby at_354 (pc' := 356) rfl rfl rfl ?_
        refine own_aload X229 hx hby at_356 (pc' := 358) rfl rfl rfl ?_
        refine own_iload X229 hx hby at_358 (pc' := 360) rfl rfl ?_
        refine own_aconst_null X229 hx hby at_360 (pc' := 361) rfl ?_
        refine own_iconst X229 hx hby at_361 (pc' := 362) rfl (n := (0 : Int32)) (by decide) ?_
        refine own_newP (aty := .int) X229 hx hZ hby (wd_33 hw) e229 at_362 (pc' := 364) rfl (by decide) (cap := 0) (by decide) (by decide) (by decide) (by decide) (fun T230 h230 k230 b230 g230 X230 e230 E230 A230 => ?_)
        have ne_d_b230 : d ≠ b230 := Nat.ne_of_lt (by rw [g230]; exact f_V_d.lt)
        have ne_b227_b230 : b227 ≠ b230 := Nat.ne_of_lt (by rw [g230]; exact f_V_b227.lt)
        have ne_b223_b230 : b223 ≠ b230 := Nat.ne_of_lt (by rw [g230]; exact O228.lt)
        have ne_b229_b230 : b229 ≠ b230 := Nat.ne_of_lt (by rw [g230]; exact f_O_b229.lt)
        have ge_b230 : n0 ≤ b230 := by rw [g230]; exact Zn
        have f_V_d := f_V_d.ext E230
        have f_S_java_lang_String_COMPACT_STRINGS := f_S_java_lang_String_COMPACT_STRINGS.ext E230
        have f_V_b227 := f_V_b227.ext E230
        have O228 := O228.ext E230
        have f_O_b229 := f_O_b229.ext E230
        have Zn := Nat.le_trans Zn E230.1
        have hSn := Nat.le_trans hSn E230.1
        have f_V_b230 : Arv Z h230 b230 k230 .int (0 : Int32) [] (.int (0 : Int32)) := Arv.new A230 (by decide)
        refine own_lk7 hw X230 hx hZ hby (by rw [hml]; rfl) hown at_364 (pc' := 367) rfl e230 (W := 1) (Nat.le_of_eq rfl) (rm8 l Z a0 hw [] b229 d b223 (5 : Int32) b230 h230 n0 Zn f_O_b229 ge_b229) (by decide) (by decide) (by decide) (by decide) (fun v231 T231 L231 X231 hQ231 => ?_)
        obtain ⟨rfl, Nq231, K231, O231⟩ := hQ231
        have N231 := Fr.app N228 Nq231
        have f_S_java_lang_String_COMPACT_STRINGS := own_sta1 f_S_java_lang_String_COMPACT_STRINGS K231 f_O_b229.1
        have f_V_d := f_V_d.keep K231 (ninS ne_d_b229 nin0)
        have f_V_b227 := f_V_b227.keep K231 (ninS ne_b227_b229 nin0)
        have O228 := O228.keep K231 (ninS ne_b223_b229 nin0)
        have f_V_b230 := f_V_b230.keep K231 (ninS (Ne.symm ne_b229_b230) nin0)
        have Zn := Nat.le_trans Zn K231.1
        have hSn := Nat.le_trans hSn K231.1
        show own_End p e below _ (T231.setTop (mkF m 367 _ [(.ref b229)]))
        refine own_astore X231 hx hby at_367 (pc' := 369) rfl rfl (l' := #[.val (.long p0), .second, .val (.int p1), .val (.int p2), .val (.ref d), .val (.int (0 : Int32)), .val (.int (1 : Int32)), .val (.int (1 : Int32)), .val (.int sk), .val (.int lt), .val (.int nb), .val (.int sp), .val (.int (3 : Int32)), .val (.int (5 : Int32)), .val (.int (5 : Int32)), .val (.ref b223), .val (.ref b229)]) rfl ?_
        refine own_aload X231 hx hby at_369 (pc' := 371) rfl rfl rfl ?_
        refine own_lk8 hw X231 hx hZ hby (by rw [hml]; rfl) hown at_371 (pc' := 374) rfl rfl O231.1 (W := 0) (Nat.le_of_eq rfl) (rm9a l Z a0 hw [] b229 d b223 (5 : Int32) .null rfl (.ref b230) rfl (1 : Int32) (0 : Int32) (2 : Int32) (5 : Int32) (.ref a224) rfl (.ref w225) rfl (.ref b227) rfl .null rfl kk (10 : Int32) [(.int (60 : Int32)), (.int (nb.toInt8.toInt32)), (.int (sp.toInt8.toInt32)), (.int (47 : Int32)), (.int (62 : Int32)), w5, w6, w7, w8, w9] (47 : Int32) T231.heap n0 Zn O231 O228 f_V_d (by decide) rfl rfl) (by decide) (by decide) (by decide) (by decide) (fun v232 T232 L232 X232 hQ232 => ?_)
        obtain ⟨rfl, Nq232, e232⟩ := hQ232
        have N232 := Fr.app N231 Nq232
        show own_End p e below _ (T232.setTop (mkF m 374 _ [(.int (3 : Int32))]))
        refine own_iload X232 hx hby at_374 (pc' := 376) rfl rfl ?_
        refine own_icN X232 hx hby at_376 (pc' := 379) rfl (show (3 : Int32) = (3 : Int32) by decide) ?_
        refine own_iconst X232 hx hby at_379 (pc' := 380) rfl (n := (1 : Int32)) (by decide) ?_
        refine own_goto X232 hx hby at_380 (pc' := 384) (by decide) (by decide) ?_
        refine own_zreturn X232 hx hlk hby hret (Or.inr rfl) at_384 (own_lvS hS (by rw [e232]; exact hSn) ?_ (by decide) (by decide))
        show Q0 Z p0 p1 p2 cs  h0 n0 (some (.int (1 : Int32))) T232.heap _
        rw [e232]
        exact ⟨rfl, N232⟩
      · rw [hs212]
        show own_End p e below _ (T0.setTop (mkF m 221 #[.val (.long p0), .second, .val (.int p1), .val (.int p2), .val (.ref d), .val (.int (1 : Int32)), .val (.int (1 : Int32)), .val (.int (1 : Int32)), .val (.int sk), .val (.int lt), .val (.int nb), .val (.int sp), .unset, .unset, .unset, .unset, .unset] [(.ref d)]))
        refine own_iload X0 hx hby at_221 (pc' := 223) rfl rfl ?_
        refine own_bipush X0 hx hby at_223 (pc' := 225) rfl (n := (60 : Int32)) (by decide) ?_
        obtain ⟨cl233, Ar233, q233, S233, M233, H233, G233⟩ := id f_V_d
        have hin233 : ¬ ((1 : Int32) < 0 ∨ cl233.slots.size ≤ ((1 : Int32)).toNatClampNeg) := inb_of S233 ⟨by decide, by decide⟩
        refine own_bastore X0 hx hZ hby e1 Ar233 hin233 at_225 (pc' := 226) rfl (fun T234 h234 X234 e234 W234 => ?_)
        have f_V_d := Arv.set Ar233 q233 S233 M233 H233 G233 (fits_nar_byte _) W234 1 rfl (Nat.le_of_ble_eq_true rfl)
        have f_V_d : Arv Z h234 d kk .byte (10 : Int32) [w0, (.int ((60 : Int32).toInt8.toInt32)), w2, w3, w4, w5, w6, w7, w8, w9] (.int (0 : Int32)) := f_V_d
        have f_V_d : Arv Z h234 d kk .byte (10 : Int32) [w0, (.int (60 : Int32)), w2, w3, w4, w5, w6, w7, w8, w9] (.int (0 : Int32)) := f_V_d
        have f_S_java_lang_String_COMPACT_STRINGS := f_S_java_lang_String_COMPACT_STRINGS.wr W234
        have Zn := Nat.le_trans Z1 (Keep.of_wr W234).1
        have hSn := Nat.le_trans hSn (Keep.of_wr W234).1
        have N234 := Fr.snoc X234 N0 ge_d
        refine own_aload X234 hx hby at_226 (pc' := 228) rfl rfl rfl ?_
        refine own_iload X234 hx hby at_228 (pc' := 230) rfl rfl ?_
        refine own_iconst X234 hx hby at_230 (pc' := 231) rfl (n := (1 : Int32)) (by decide) ?_
        refine own_iadd X234 hx hby at_231 (pc' := 232) rfl ?_
        show own_End p e below _ (T234.setTop (mkF m 232 #[.val (.long p0), .second, .val (.int p1), .val (.int p2), .val (.ref d), .val (.int (1 : Int32)), .val (.int (1 : Int32)), .val (.int (1 : Int32)), .val (.int sk), .val (.int lt), .val (.int nb), .val (.int sp), .unset, .unset, .unset, .unset, .unset] [(.int (2 : Int32)), (.ref d)]))
        refine own_iload X234 hx hby at_232 (pc' := 234) rfl rfl ?_
        obtain ⟨cl235, Ar235, q235, S235, M235, H235, G235⟩ := id f_V_d
        have hin235 : ¬ ((2 : Int32) < 0 ∨ cl235.slots.size ≤ ((2 : Int32)).toNatClampNeg) := inb_of S235 ⟨by decide, by decide⟩
        refine own_bastore X234 hx hZ hby e234 Ar235 hin235 at_234 (pc' := 235) rfl (fun T236 h236 X236 e236 W236 => ?_)
        have f_V_d := Arv.set Ar235 q235 S235 M235 H235 G235 (fits_nar_byte _) W236 2 rfl (Nat.le_of_ble_eq_true rfl)
        have f_V_d : Arv Z h236 d kk .byte (10 : Int32) [w0, (.int (60 : Int32)), (.int (nb.toInt8.toInt32)), w3, w4, w5, w6, w7, w8, w9] (.int (0 : Int32)) := f_V_d
        have f_S_java_lang_String_COMPACT_STRINGS := f_S_java_lang_String_COMPACT_STRINGS.wr W236
        have Zn := Nat.le_trans Zn (Keep.of_wr W236).1
        have hSn := Nat.le_trans hSn (Keep.of_wr W236).1
        have N236 := Fr.snoc X236 N234 ge_d
        refine own_iload X236 hx hby at_235 (pc' := 237) rfl rfl ?_
        refine own_iconst X236 hx hby at_237 (pc' := 238) rfl (n := (2 : Int32)) (by decide) ?_
        refine own_iadd X236 hx hby at_238 (pc' := 239) rfl ?_
        show own_End p e below _ (T236.setTop (mkF m 239 #[.val (.long p0), .second, .val (.int p1), .val (.int p2), .val (.ref d), .val (.int (1 : Int32)), .val (.int (1 : Int32)), .val (.int (1 : Int32)), .val (.int sk), .val (.int lt), .val (.int nb), .val (.int sp), .unset, .unset, .unset, .unset, .unset] [(.int (3 : Int32))]))
        refine own_istore X236 hx hby at_239 (pc' := 241) rfl (l' := #[.val (.long p0), .second, .val (.int p1), .val (.int p2), .val (.ref d), .val (.int (1 : Int32)), .val (.int (1 : Int32)), .val (.int (1 : Int32)), .val (.int sk), .val (.int lt), .val (.int nb), .val (.int sp), .val (.int (3 : Int32)), .unset, .unset, .unset, .unset]) rfl ?_
        refine own_iload X236 hx hby at_241 (pc' := 243) rfl rfl ?_
        refine own_ifN X236 hx hby at_243 (pc' := 246) rfl (show ¬ (1 : Int32) = (0 : Int32) by decide) ?_
        refine own_aload X236 hx hby at_246 (pc' := 248) rfl rfl rfl ?_
        refine own_iload X236 hx hby at_248 (pc' := 250) rfl rfl ?_
        refine own_iload X236 hx hby at_250 (pc' := 252) rfl rfl ?_
        obtain ⟨cl237, Ar237, q237, S237, M237, H237, G237⟩ := id f_V_d
        have hin237 : ¬ ((3 : Int32) < 0 ∨ cl237.slots.size ≤ ((3 : Int32)).toNatClampNeg) := inb_of S237 ⟨by decide, by decide⟩
        refine own_bastore X236 hx hZ hby e236 Ar237 hin237 at_252 (pc' := 253) rfl (fun T238 h238 X238 e238 W238 => ?_)
        have f_V_d := Arv.set Ar237 q237 S237 M237 H237 G237 (fits_nar_byte _) W238 3 rfl (Nat.le_of_ble_eq_true rfl)
        have f_V_d : Arv Z h238 d kk .byte (10 : Int32) [w0, (.int (60 : Int32)), (.int (nb.toInt8.toInt32)), (.int (sp.toInt8.toInt32)), w4, w5, w6, w7, w8, w9] (.int (0 : Int32)) := f_V_d
        have f_S_java_lang_String_COMPACT_STRINGS := f_S_java_lang_String_COMPACT_STRINGS.wr W238
        have Zn := Nat.le_trans Zn (Keep.of_wr W238).1
        have hSn := Nat.le_trans hSn (Keep.of_wr W238).1
        have N238 := Fr.snoc X238 N236 ge_d
        refine own_iload X238 hx hby at_253 (pc' := 255) rfl rfl ?_
        refine own_iconst X238 hx hby at_255 (pc' := 256) rfl (n := (1 : Int32)) (by decide) ?_
        refine own_iadd X238 hx hby at_256 (pc' := 257) rfl ?_
        show own_End p e below _ (T238.setTop (mkF m 257 #[.val (.long p0), .second, .val (.int p1), .val (.int p2), .val (.ref d), .val (.int (1 : Int32)), .val (.int (1 : Int32)), .val (.int (1 : Int32)), .val (.int sk), .val (.int lt), .val (.int nb), .val (.int sp), .val (.int (3 : Int32)), .unset, .unset, .unset, .unset] [(.int (4 : Int32))]))
        refine own_istore X238 hx hby at_257 (pc' := 259) rfl (l' := #[.val (.long p0), .second, .val (.int p1), .val (.int p2), .val (.ref d), .val (.int (1 : Int32)), .val (.int (1 : Int32)), .val (.int (1 : Int32)), .val (.int sk), .val (.int lt), .val (.int nb), .val (.int sp), .val (.int (4 : Int32)), .unset, .unset, .unset, .unset]) rfl ?_
        refine own_iload X238 hx hby at_259 (pc' := 261) rfl rfl ?_
        refine own_ifN X238 hx hby at_261 (pc' := 264) rfl (show ¬ (1 : Int32) = (0 : Int32) by decide) ?_
        refine own_aload X238 hx hby at_264 (pc' := 266) rfl rfl rfl ?_
        refine own_iload X238 hx hby at_266 (pc' := 268) rfl rfl ?_
        refine own_bipush X238 hx hby at_268 (pc' := 270) rfl (n := (47 : Int32)) (by decide) ?_
        obtain ⟨cl239, Ar239, q239, S239, M239, H239, G239⟩ := id f_V_d
        have hin239 : ¬ ((4 : Int32) < 0 ∨ cl239.slots.size ≤ ((4 : Int32)).toNatClampNeg) := inb_of S239 ⟨by decide, by decide⟩
        refine own_bastore X238 hx hZ hby e238 Ar239 hin239 at_270 (pc' := 271) rfl (fun T240 h240 X240 e240 W240 => ?_)
        have f_V_d := Arv.set Ar239 q239 S239 M239 H239 G239 (fits_nar_byte _) W240 4 rfl (Nat.le_of_ble_eq_true rfl)
        have f_V_d : Arv Z h240 d kk .byte (10 : Int32) [w0, (.int (60 : Int32)), (.int (nb.toInt8.toInt32)), (.int (sp.toInt8.toInt32)), (.int ((47 : Int32).toInt8.toInt32)), w5, w6, w7, w8, w9] (.int (0 : Int32)) := f_V_d
        have f_V_d : Arv Z h240 d kk .byte (10 : Int32) [w0, (.int (60 : Int32)), (.int (nb.toInt8.toInt32)), (.int (sp.toInt8.toInt32)), (.int (47 : Int32)), w5, w6, w7, w8, w9] (.int (0 : Int32)) := f_V_d
        have f_S_java_lang_String_COMPACT_STRINGS := f_S_java_lang_String_COMPACT_STRINGS.wr W240
        have Zn := Nat.le_trans Zn (Keep.of_wr W240).1
        have hSn := Nat.le_trans hSn (Keep.of_wr W240).1
        have N240 := Fr.snoc X240 N238 ge_d
        refine own_aload X240 hx hby at_271 (pc' := 273) rfl rfl rfl ?_
        refine own_iload X240 hx hby at_273 (pc' := 275) rfl rfl ?_
        refine own_iconst X240 hx hby at_275 (pc' := 276) rfl (n := (1 : Int32)) (by decide) ?_
        refine own_iadd X240 hx hby at_276 (pc' := 277) rfl ?_
        show own_End p e below _ (T240.setTop (mkF m 277 #[.val (.long p0), .second, .val (.int p1), .val (.int p2), .val (.ref d), .val (.int (1 : Int32)), .val (.int (1 : Int32)), .val (.int (1 : Int32)), .val (.int sk), .val (.int lt), .val (.int nb), .val (.int sp), .val (.int (4 : Int32)), .unset, .unset, .unset, .unset] [(.int (5 : Int32)), (.ref d)]))
        refine own_bipush X240 hx hby at_277 (pc' := 279) rfl (n := (62 : Int32)) (by decide) ?_
        obtain ⟨cl241, Ar241, q241, S241, M241, H241, G241⟩ := id f_V_d
        have hin241 : ¬ ((5 : Int32) < 0 ∨ cl241.slots.size ≤ ((5 : Int32)).toNatClampNeg) := inb_of S241 ⟨by decide, by decide⟩
        refine own_bastore X240 hx hZ hby e240 Ar241 hin241 at_279 (pc' := 280) rfl (fun T242 h242 X242 e242 W242 => ?_)
        have f_V_d := Arv.set Ar241 q241 S241 M241 H241 G241 (fits_nar_byte _) W242 5 rfl (Nat.le_of_ble_eq_true rfl)
        have f_V_d : Arv Z h242 d kk .byte (10 : Int32) [w0, (.int (60 : Int32)), (.int (nb.toInt8.toInt32)), (.int (sp.toInt8.toInt32)), (.int (47 : Int32)), (.int ((62 : Int32).toInt8.toInt32)), w6, w7, w8, w9] (.int (0 : Int32)) := f_V_d
        have f_V_d : Arv Z h242 d kk .byte (10 : Int32) [w0, (.int (60 : Int32)), (.int (nb.toInt8.toInt32)), (.int (sp.toInt8.toInt32)), (.int (47 : Int32)), (.int (62 : Int32)), w6, w7, w8, w9] (.int (0 : Int32)) := f_V_d
        have f_S_java_lang_String_COMPACT_STRINGS := f_S_java_lang_String_COMPACT_STRINGS.wr W242
        have Zn := Nat.le_trans Zn (Keep.of_wr W242).1
        have hSn := Nat.le_trans hSn (Keep.of_wr W242).1
        have N242 := Fr.snoc X242 N240 ge_d
        refine own_iload X242 hx hby at_280 (pc' := 282) rfl rfl ?_
        refine own_iconst X242 hx hby at_282 (pc' := 283) rfl (n := (2 : Int32)) (by decide) ?_
        refine own_iadd X242 hx hby at_283 (pc' := 284) rfl ?_
        show own_End p e below _ (T242.setTop (mkF m 284 #[.val (.long p0), .second, .val (.int p1), .val (.int p2), .val (.ref d), .val (.int (1 : Int32)), .val (.int (1 : Int32)), .val (.int (1 : Int32)), .val (.int sk), .val (.int lt), .val (.int nb), .val (.int sp), .val (.int (4 : Int32)), .unset, .unset, .unset, .unset] [(.int (6 : Int32))]))
        refine own_istore X242 hx hby at_284 (pc' := 286) rfl (l' := #[.val (.long p0), .second, .val (.int p1), .val (.int p2), .val (.ref d), .val (.int (1 : Int32)), .val (.int (1 : Int32)), .val (.int (1 : Int32)), .val (.int sk), .val (.int lt), .val (.int nb), .val (.int sp), .val (.int (4 : Int32)), .val (.int (6 : Int32)), .unset, .unset, .unset]) rfl ?_
        refine own_goto X242 hx hby at_286 (pc' := 302) (by decide) (by decide) ?_
        refine own_iload X242 hx hby at_302 (pc' := 304) rfl rfl ?_
        refine own_ifN X242 hx hby at_304 (pc' := 307) rfl (show ¬ (1 : Int32) = (0 : Int32) by decide) ?_
        refine own_iload X242 hx hby at_307 (pc' := 309) rfl rfl ?_
        refine own_goto X242 hx hby at_309 (pc' := 314) (by decide) (by decide) ?_
        refine own_istore X242 hx hby at_314 (pc' := 316) rfl (l' := #[.val (.long p0), .second, .val (.int p1), .val (.int p2), .val (.ref d), .val (.int (1 : Int32)), .val (.int (1 : Int32)), .val (.int (1 : Int32)), .val (.int sk), .val (.int lt), .val (.int nb), .val (.int sp), .val (.int (4 : Int32)), .val (.int (6 : Int32)), .val (.int (6 : Int32)), .unset, .unset]) rfl ?_
        refine own_new X242 hx hZ hby hown (wd_2 hw) (wd_3 hw) (wd_4 hw) e242 at_316 (pc' := 319) rfl (by decide) (by decide) (fun T243 h243 b243 g243 X243 e243 E243 A243 D243 => ?_)
        have ne_d_b243 : d ≠ b243 := Nat.ne_of_lt (by rw [g243]; exact f_V_d.lt)
        have ge_b243 : n0 ≤ b243 := by rw [g243]; exact Zn
        have f_V_d := f_V_d.ext E243
        have f_S_java_lang_String_COMPACT_STRINGS := f_S_java_lang_String_COMPACT_STRINGS.ext E243
        have Zn := Nat.le_trans Zn E243.1
        have hSn := Nat.le_trans hSn E243.1
        have f_O_b243 : own_ST Z h243 b243 (0 : Int32) (0 : Int32) (0 : Int32) (0 : Int32) .null .null .null .null := ⟨A243, D243 (Or.inr (wd_44 hw)) (ty := .int) (by decide), D243 (Or.inr (wd_46 hw)) (ty := .int) (by decide), D243 (Or.inr (wd_48 hw)) (ty := .int) (by decide), D243 (Or.inr (wd_50 hw)) (ty := .int) (by decide), D243 (Or.inr (wd_52 hw)) (ty := (.object "java/lang/String")) (by decide), D243 (Or.inr (wd_54 hw)) (ty := (.object "java/lang/String")) (by decide), D243 (Or.inr (wd_56 hw)) (ty := (.array .int)) (by decide), D243 (Or.inr (wd_58 hw)) (ty := (.object "java/util/Map")) (by decide)⟩
        refine own_dup X243 hx hby at_319 (pc' := 320) rfl rfl ?_
        refine own_iconst X243 hx hby at_320 (pc' := 321) rfl (n := (1 : Int32)) (by decide) ?_
        refine own_iload X243 hx hby at_321 (pc' := 323) rfl rfl ?_
        refine own_iload X243 hx hby at_323 (pc' := 325) rfl rfl ?_
        refine own_iconst X243 hx hby at_325 (pc' := 326) rfl (n := (2 : Int32)) (by decide) ?_
        refine own_iadd X243 hx hby at_326 (pc' := 327) rfl ?_
        show own_End p e below _ (T243.setTop (mkF m 327 #[.val (.long p0), .second, .val (.int p1), .val (.int p2), .val (.ref d), .val (.int (1 : Int32)), .val (.int (1 : Int32)), .val (.int (1 : Int32)), .val (.int sk), .val (.int lt), .val (.int nb), .val (.int sp), .val (.int (4 : Int32)), .val (.int (6 : Int32)), .val (.int (6 : Int32)), .unset, .unset] [(.int (3 : Int32)), (.int (1 : Int32)), (.int (1 : Int32)), (.ref b243), (.ref b243)]))
        refine own_iload X243 hx hby at_327 (pc' := 329) rfl rfl ?_
        obtain ⟨a244, T244, h244, k244, X244, e244, E244, hS, hSn, hZ, hown, st244⟩ := ldcS X243 hx hZ hown (wd_5 hw) (own_wS hw) e243 hS hSn (g := (mkF m 329 #[.val (.long p0), .second, .val (.int p1), .val (.int p2), .val (.ref d), .val (.int (1 : Int32)), .val (.int (1 : Int32)), .val (.int (1 : Int32)), .val (.int sk), .val (.int lt), .val (.int nb), .val (.int sp), .val (.int (4 : Int32)), .val (.int (6 : Int32)), .val (.int (6 : Int32)), .unset, .unset] [(.int (6 : Int32)), (.int (3 : Int32)), (.int (1 : Int32)), (.int (1 : Int32)), (.ref b243), (.ref b243)])) rfl (hb hby at_329) (n := 0) (by decide) (by decide) (by decide) (by decide)
        refine own_step st244 ?_
        have f_V_d := f_V_d.ext E244
        have f_S_java_lang_String_COMPACT_STRINGS := f_S_java_lang_String_COMPACT_STRINGS.ext E244
        have f_O_b243 := f_O_b243.ext E244
        have Zn := Nat.le_trans Zn E244.1
        show own_End p e below _ (T244.setTop (mkF m 331 #[.val (.long p0), .second, .val (.int p1), .val (.int p2), .val (.ref d), .val (.int (1 : Int32)), .val (.int (1 : Int32)), .val (.int (1 : Int32)), .val (.int sk), .val (.int lt), .val (.int nb), .val (.int sp), .val (.int (4 : Int32)), .val (.int (6 : Int32)), .val (.int (6 : Int32)), .unset, .unset] [(.ref a244), (.int (6 : Int32)), (.int (3 : Int32)), (.int (1 : Int32)), (.int (1 : Int32)), (.ref b243), (.ref b243)]))
        refine own_iload X244 hx hby at_331 (pc' := 333) rfl rfl ?_
        refine own_sipush X244 hx hby at_333 (pc' := 336) rfl (n := (255 : Int32)) (by decide) ?_
        refine own_iand X244 hx hby at_336 (pc' := 337) rfl ?_
        refine own_i2c X244 hx hby at_337 (pc' := 338) rfl ?_
        rw [i2c_mask]
        show own_End p e below _ (T244.setTop (mkF m 338 #[.val (.long p0), .second, .val (.int p1), .val (.int p2), .val (.ref d), .val (.int (1 : Int32)), .val (.int (1 : Int32)), .val (.int (1 : Int32)), .val (.int sk), .val (.int lt), .val (.int nb), .val (.int sp), .val (.int (4 : Int32)), .val (.int (6 : Int32)), .val (.int (6 : Int32)), .unset, .unset] [(.int (nb &&& (255 : Int32))), (.ref a244), (.int (6 : Int32)), (.int (3 : Int32)), (.int (1 : Int32)), (.int (1 : Int32)), (.ref b243), (.ref b243)]))
        refine own_lk5 hw X244 hx hZ hby (by rw [hml]; rfl) hown at_338 (pc' := 341) rfl e244 (W := 7) (Nat.le_of_eq rfl) (rm1 l Z a0 hw [] (nb &&& (255 : Int32)) cs h244 n0 Zn f_S_java_lang_String_COMPACT_STRINGS hcs (own_chr2 _)) (by decide) (by decide) (by decide) (by decide) (fun v246 T246 L246 X246 hQ246 => ?_)
        obtain ⟨w245, rfl, Nq246, K246, gw246⟩ := hQ246
        have N246 := Fr.app N242 Nq246
        have f_S_java_lang_String_COMPACT_STRINGS := own_sta0 f_S_java_lang_String_COMPACT_STRINGS K246
        have f_V_d := f_V_d.keep K246 nin0
        have f_O_b243 := f_O_b243.keep K246 nin0
        have Zn := Nat.le_trans Zn K246.1
        have hSn := Nat.le_trans hSn K246.1
        show own_End p e below _ (T246.setTop (mkF m 341 _ [(.ref w245), (.ref a244), (.int (6 : Int32)), (.int (3 : Int32)), (.int (1 : Int32)), (.int (1 : Int32)), (.ref b243), (.ref b243)]))
        refine own_iconst X246 hx hby at_341 (pc' := 342) rfl (n := (0 : Int32)) (by decide) ?_
        refine own_newP (aty := .int) X246 hx hZ hby (wd_33 hw) rfl at_342 (pc' := 344) rfl (by decide) (cap := 0) (by decide) (by decide) (by decide) (by decide) (fun T247 h247 k247 b247 g247 X247 e247 E247 A247 => ?_)
        have ne_d_b247 : d ≠ b247 := Nat.ne_of_lt (by rw [g247]; exact f_V_d.lt)
        have ne_b243_b247 : b243 ≠ b247 := Nat.ne_of_lt (by rw [g247]; exact f_O_b243.lt)
        have ge_b247 : n0 ≤ b247 := by rw [g247]; exact Zn
        have f_V_d := f_V_d.ext E247
        have f_S_java_lang_String_COMPACT_STRINGS := f_S_java_lang_String_COMPACT_STRINGS.ext E247
        have f_O_b243 := f_O_b243.ext E247
        have Zn := Nat.le_trans Zn E247.1
        have hSn := Nat.le_trans hSn E247.1
        have f_V_b247 : Arv Z h247 b247 k247 .int (0 : Int32) [] (.int (0 : Int32)) := Arv.new A247 (by decide)
        refine own_aconst_null X247 hx hby at_344 (pc' := 345) rfl ?_
        refine own_lk6 hw X247 hx hZ hby (by rw [hml]; rfl) hown at_345 (pc' := 348) rfl e247 (W := 1) (Nat.le_of_eq rfl) (rm6 l Z a0 hw [] b243 (1 : Int32) (1 : Int32) (3 : Int32) (6 : Int32) a244 w245 b247 h247 n0 Zn f_O_b243 ge_b243) (by decide) (by decide) (by decide) (by decide) (fun v248 T248 L248 X248 hQ248 => ?_)
        obtain ⟨rfl, Nq248, K248, O248⟩ := hQ248
        have N248 := Fr.app N246 Nq248
        have f_S_java_lang_String_COMPACT_STRINGS := own_sta1 f_S_java_lang_String_COMPACT_STRINGS K248 f_O_b243.1
        have f_V_d := f_V_d.keep K248 (ninS ne_d_b243 nin0)
        have f_V_b247 := f_V_b247.keep K248 (ninS (Ne.symm ne_b243_b247) nin0)
        have Zn := Nat.le_trans Zn K248.1
        have hSn := Nat.le_trans hSn K248.1
        show own_End p e below _ (T248.setTop (mkF m 348 _ [(.ref b243)]))
        refine own_astore X248 hx hby at_348 (pc' := 350) rfl rfl (l' := #[.val (.long p0), .second, .val (.int p1), .val (.int p2), .val (.ref d), .val (.int (1 : Int32)), .val (.int (1 : Int32)), .val (.int (1 : Int32)), .val (.int sk), .val (.int lt), .val (.int nb), .val (.int sp), .val (.int (4 : Int32)), .val (.int (6 : Int32)), .val (.int (6 : Int32)), .val (.ref b243), .unset]) rfl ?_
        refine own_new X248 hx hZ hby hown (wd_59 hw) (wd_60 hw) (wd_61 hw) rfl at_350 (pc' := 353) rfl (by decide) (by decide) (fun T249 h249 b249 g249 X249 e249 E249 A249 D249 => ?_)
        have ne_d_b249 : d ≠ b249 := Nat.ne_of_lt (by rw [g249]; exact f_V_d.lt)
        have ne_b247_b249 : b247 ≠ b249 := Nat.ne_of_lt (by rw [g249]; exact f_V_b247.lt)
        have ne_b243_b249 : b243 ≠ b249 := Nat.ne_of_lt (by rw [g249]; exact O248.lt)
        have ge_b249 : n0 ≤ b249 := by rw [g249]; exact Zn
        have f_V_d := f_V_d.ext E249
        have f_S_java_lang_String_COMPACT_STRINGS := f_S_java_lang_String_COMPACT_STRINGS.ext E249
        have f_V_b247 := f_V_b247.ext E249
        have O248 := O248.ext E249
        have Zn := Nat.le_trans Zn E249.1
        have hSn := Nat.le_trans hSn E249.1
        have f_O_b249 : own_XS Z h249 b249 .null .null (0 : Int32) .null .null := ⟨A249, D249 (Or.inr (wd_67 hw)) (ty := (.array .byte)) (by decide), D249 (Or.inr (wd_69 hw)) (ty := (.object "com/example/halyard/halyard/base/XmlScan$StartTag")) (by decide), D249 (Or.inr (wd_71 hw)) (ty := .int) (by decide), D249 (Or.inr (wd_73 hw)) (ty := (.object "java/util/List")) (by decide), D249 (Or.inr (wd_75 hw)) (ty := (.array .int)) (by decide)⟩
        refine own_dup X249 hx hby at_353 (pc' := 354) rfl rfl ?_
        refine own_aload X249 hx hby at_354 (pc' := 356) rfl rfl rfl ?_
        refine own_aload X249 hx hby at_356 (pc' := 358) rfl rfl rfl ?_
        refine own_iload X249 hx hby at_358 (pc' := 360) rfl rfl ?_
        refine own_aconst_null X249 hx hby at_360 (pc' := 361) rfl ?_
        refine own_iconst X249 hx hby at_361 (pc' := 362) rfl (n := (0 : Int32)) (by decide) ?_
        refine own_newP (aty := .int) X249 hx hZ hby (wd_33 hw) e249 at_362 (pc' := 364) rfl (by decide) (cap := 0) (by decide) (by decide) (by decide) (by decide) (fun T250 h250 k250 b250 g250 X250 e250 E250 A250 => ?_)
        have ne_d_b250 : d ≠ b250 := Nat.ne_of_lt (by rw [g250]; exact f_V_d.lt)
        have ne_b247_b250 : b247 ≠ b250 := Nat.ne_of_lt (by rw [g250]; exact f_V_b247.lt)
        have ne_b243_b250 : b243 ≠ b250 := Nat.ne_of_lt (by rw [g250]; exact O248.lt)
        have ne_b249_b250 : b249 ≠ b250 := Nat.ne_of_lt (by rw [g250]; exact f_O_b249.lt)
        have ge_b250 : n0 ≤ b250 := by rw [g250]; exact Zn
        have f_V_d := f_V_d.ext E250
        have f_S_java_lang_String_COMPACT_STRINGS := f_S_java_lang_String_COMPACT_STRINGS.ext E250
        have f_V_b247 := f_V_b247.ext E250
        have O248 := O248.ext E250
        have f_O_b249 := f_O_b249.ext E250
        have Zn := Nat.le_trans Zn E250.1
        have hSn := Nat.le_trans hSn E250.1
        have f_V_b250 : Arv Z h250 b250 k250 .int (0 : Int32) [] (.int (0 : Int32)) := Arv.new A250 (by decide)
        refine own_lk7 hw X250 hx hZ hby (by rw [hml]; rfl) hown at_364 (pc' := 367) rfl e250 (W := 1) (Nat.le_of_eq rfl) (rm8 l Z a0 hw [] b249 d b243 (6 : Int32) b250 h250 n0 Zn f_O_b249 ge_b249) (by decide) (by decide) (by decide) (by decide) (fun v251 T251 L251 X251 hQ251 => ?_)
        obtain ⟨rfl, Nq251, K251, O251⟩ := hQ251
        have N251 := Fr.app N248 Nq251
        have f_S_java_lang_String_COMPACT_STRINGS := own_sta1 f_S_java_lang_String_COMPACT_STRINGS K251 f_O_b249.1
        have f_V_d := f_V_d.keep K251 (ninS ne_d_b249 nin0)
        have f_V_b247 := f_V_b247.keep K251 (ninS ne_b247_b249 nin0)
        have O248 := O248.keep K251 (ninS ne_b243_b249 nin0)
        have f_V_b250 := f_V_b250.keep K251 (ninS (Ne.symm ne_b249_b250) nin0)
        have Zn := Nat.le_trans Zn K251.1
        have hSn := Nat.le_trans hSn K251.1
        show own_End p e below _ (T251.setTop (mkF m 367 _ [(.ref b249)]))
        refine own_astore X251 hx hby at_367 (pc' := 369) rfl rfl (l' := #[.val (.long p0), .second, .val (.int p1), .val (.int p2), .val (.ref d), .val (.int (1 : Int32)), .val (.int (1 : Int32)), .val (.int (1 : Int32)), .val (.int sk), .val (.int lt), .val (.int nb), .val (.int sp), .val (.int (4 : Int32)), .val (.int (6 : Int32)), .val (.int (6 : Int32)), .val (.ref b243), .val (.ref b249)]) rfl ?_
        refine own_aload X251 hx hby at_369 (pc' := 371) rfl rfl rfl ?_
        refine own_lk8 hw X251 hx hZ hby (by rw [hml]; rfl) hown at_371 (pc' := 374) rfl rfl O251.1 (W := 0) (Nat.le_of_eq rfl) (rm9a l Z a0 hw [] b249 d b243 (6 : Int32) .null rfl (.ref b250) rfl (1 : Int32) (1 : Int32) (3 : Int32) (6 : Int32) (.ref a244) rfl (.ref w245) rfl (.ref b247) rfl .null rfl kk (10 : Int32) [w0, (.int (60 : Int32)), (.int (nb.toInt8.toInt32)), (.int (sp.toInt8.toInt32)), (.int (47 : Int32)), (.int (62 : Int32)), w6, w7, w8, w9] (47 : Int32) T251.heap n0 Zn O251 O248 f_V_d (by decide) rfl rfl) (by decide) (by decide) (by decide) (by decide) (fun v252 T252 L252 X252 hQ252 => ?_)
        obtain ⟨rfl, Nq252, e252⟩ := hQ252
        have N252 := Fr.app N251 Nq252
        show own_End p e below _ (T252.setTop (mkF m 374 _ [(.int (4 : Int32))]))
        refine own_iload X252 hx hby at_374 (pc' := 376) rfl rfl ?_
        refine own_icN X252 hx hby at_376 (pc' := 379) rfl (show (4 : Int32) = (4 : Int32) by decide) ?_
        refine own_iconst X252 hx hby at_379 (pc' := 380) rfl (n := (1 : Int32)) (by decide) ?_
        refine own_goto X252 hx hby at_380 (pc' := 384) (by decide) (by decide) ?_
        refine own_zreturn X252 hx hlk hby hret (Or.inr rfl) at_384 (own_lvS hS (by rw [e252]; exact hSn) ?_ (by decide) (by decide))
        show Q0 Z p0 p1 p2 cs  h0 n0 (some (.int (1 : Int32))) T252.heap _
        rw [e252]
        exact ⟨rfl, N252⟩
      · rw [hs212]
        show own_End p e below _ (T0.setTop (mkF m 221 #[.val (.long p0), .second, .val (.int p1), .val (.int p2), .val (.ref d), .val (.int (2 : Int32)), .val (.int (1 : Int32)), .val (.int (1 : Int32)), .val (.int sk), .val (.int lt), .val (.int nb), .val (.int sp), .unset, .unset, .unset, .unset, .unset] [(.ref d)]))
        refine own_iload X0 hx hby at_221 (pc' := 223) rfl rfl ?_
        refine own_bipush X0 hx hby at_223 (pc' := 225) rfl (n := (60 : Int32)) (by decide) ?_
        obtain ⟨cl253, Ar253, q253, S253, M253, H253, G253⟩ := id f_V_d
        have hin253 : ¬ ((2 : Int32) < 0 ∨ cl253.slots.size ≤ ((2 : Int32)).toNatClampNeg) := inb_of S253 ⟨by decide, by decide⟩
        refine own_bastore X0 hx hZ hby e1 Ar253 hin253 at_225 (pc' := 226) rfl (fun T254 h254 X254 e254 W254 => ?_)
        have f_V_d := Arv.set Ar253 q253 S253 M253 H253 G253 (fits_nar_byte _) W254 2 rfl (Nat.le_of_ble_eq_true rfl)
        have f_V_d : Arv Z h254 d kk .byte (10 : Int32) [w0, w1, (.int ((60 : Int32).toInt8.toInt32)), w3, w4, w5, w6, w7, w8, w9] (.int (0 : Int32)) := f_V_d
        have f_V_d : Arv Z h254 d kk .byte (10 : Int32) [w0, w1, (.int (60 : Int32)), w3, w4, w5, w6, w7, w8, w9] (.int (0 : Int32)) := f_V_d
        have f_S_java_lang_String_COMPACT_STRINGS := f_S_java_lang_String_COMPACT_STRINGS.wr W254
        have Zn := Nat.le_trans Z1 (Keep.of_wr W254).1
        have hSn := Nat.le_trans hSn (Keep.of_wr W254).1
        have N254 := Fr.snoc X254 N0 ge_d
        refine own_aload X254 hx hby at_226 (pc' := 228) rfl rfl rfl ?_
        refine own_iload X254 hx hby at_228 (pc' := 230) rfl rfl ?_
        refine own_iconst X254 hx hby at_230 (pc' := 231) rfl (n := (1 : Int32)) (by decide) ?_
        refine own_iadd X254 hx hby at_231 (pc' := 232) rfl ?_
        show own_End p e below _ (T254.setTop (mkF m 232 #[.val (.long p0), .second, .val (.int p1), .val (.int p2), .val (.ref d), .val (.int (2 : Int32)), .val (.int (1 : Int32)), .val (.int (1 : Int32)), .val (.int sk), .val (.int lt), .val (.int nb), .val (.int sp), .unset, .unset, .unset, .unset, .unset] [(.int (3 : Int32)), (.ref d)]))
        refine own_iload X254 hx hby at_232 (pc' := 234) rfl rfl ?_
        obtain ⟨cl255, Ar255, q255, S255, M255, H255, G255⟩ := id f_V_d
        have hin255 : ¬ ((3 : Int32) < 0 ∨ cl255.slots.size ≤ ((3 : Int32)).toNatClampNeg) := inb_of S255 ⟨by decide, by decide⟩
        refine own_bastore X254 hx hZ hby e254 Ar255 hin255 at_234 (pc' := 235) rfl (fun T256 h256 X256 e256 W256 => ?_)
        have f_V_d := Arv.set Ar255 q255 S255 M255 H255 G255 (fits_nar_byte _) W256 3 rfl (Nat.le_of_ble_eq_true rfl)
        have f_V_d : Arv Z h256 d kk .byte (10 : Int32) [w0, w1, (.int (60 : Int32)), (.int (nb.toInt8.toInt32)), w4, w5, w6, w7, w8, w9] (.int (0 : Int32)) := f_V_d
        have f_S_java_lang_String_COMPACT_STRINGS := f_S_java_lang_String_COMPACT_STRINGS.wr W256
        have Zn := Nat.le_trans Zn (Keep.of_wr W256).1
        have hSn := Nat.le_trans hSn (Keep.of_wr W256).1
        have N256 := Fr.snoc X256 N254 ge_d
        refine own_iload X256 hx hby at_235 (pc' := 237) rfl rfl ?_
        refine own_iconst X256 hx hby at_237 (pc' := 238) rfl (n := (2 : Int32)) (by decide) ?_
        refine own_iadd X256 hx hby at_238 (pc' := 239) rfl ?_
        show own_End p e below _ (T256.setTop (mkF m 239 #[.val (.long p0), .second, .val (.int p1), .val (.int p2), .val (.ref d), .val (.int (2 : Int32)), .val (.int (1 : Int32)), .val (.int (1 : Int32)), .val (.int sk), .val (.int lt), .val (.int nb), .val (.int sp), .unset, .unset, .unset, .unset, .unset] [(.int (4 : Int32))]))
        refine own_istore X256 hx hby at_239 (pc' := 241) rfl (l' := #[.val (.long p0), .second, .val (.int p1), .val (.int p2), .val (.ref d), .val (.int (2 : Int32)), .val (.int (1 : Int32)), .val (.int (1 : Int32)), .val (.int sk), .val (.int lt), .val (.int nb), .val (.int sp), .val (.int (4 : Int32)), .unset, .unset, .unset, .unset]) rfl ?_
        refine own_iload X256 hx hby at_241 (pc' := 243) rfl rfl ?_
        refine own_ifN X256 hx hby at_243 (pc' := 246) rfl (show ¬ (1 : Int32) = (0 : Int32) by decide) ?_
        refine own_aload X256 hx hby at_246 (pc' := 248) rfl rfl rfl ?_
        refine own_iload X256 hx hby at_248 (pc' := 250) rfl rfl ?_
        refine own_iload X256 hx hby at_250 (pc' := 252) rfl rfl ?_
        obtain ⟨cl257, Ar257, q257, S257, M257, H257, G257⟩ := id f_V_d
        have hin257 : ¬ ((4 : Int32) < 0 ∨ cl257.slots.size ≤ ((4 : Int32)).toNatClampNeg) := inb_of S257 ⟨by decide, by decide⟩
        refine own_bastore X256 hx hZ hby e256 Ar257 hin257 at_252 (pc' := 253) rfl (fun T258 h258 X258 e258 W258 => ?_)
        have f_V_d := Arv.set Ar257 q257 S257 M257 H257 G257 (fits_nar_byte _) W258 4 rfl (Nat.le_of_ble_eq_true rfl)
        have f_V_d : Arv Z h258 d kk .byte (10 : Int32) [w0, w1, (.int (60 : Int32)), (.int (nb.toInt8.toInt32)), (.int (sp.toInt8.toInt32)), w5, w6, w7, w8, w9] (.int (0 : Int32)) := f_V_d
        have f_S_java_lang_String_COMPACT_STRINGS := f_S_java_lang_String_COMPACT_STRINGS.wr W258
        have Zn := Nat.le_trans Zn (Keep.of_wr W258).1
        have hSn := Nat.le_trans hSn (Keep.of_wr W258).1
        have N258 := Fr.snoc X258 N256 ge_d
        refine own_iload X258 hx hby at_253 (pc' := 255) rfl rfl ?_
        refine own_iconst X258 hx hby at_255 (pc' := 256) rfl (n := (1 : Int32)) (by decide) ?_
        refine own_iadd X258 hx hby at_256 (pc' := 257) rfl ?_
        show own_End p e below _ (T258.setTop (mkF m 257 #[.val (.long p0), .second, .val (.int p1), .val (.int p2), .val (.ref d), .val (.int (2 : Int32)), .val (.int (1 : Int32)), .val (.int (1 : Int32)), .val (.int sk), .val (.int lt), .val (.int nb), .val (.int sp), .val (.int (4 : Int32)), .unset, .unset, .unset, .unset] [(.int (5 : Int32))]))
        refine own_istore X258 hx hby at_257 (pc' := 259) rfl (l' := #[.val (.long p0), .second, .val (.int p1), .val (.int p2), .val (.ref d), .val (.int (2 : Int32)), .val (.int (1 : Int32)), .val (.int (1 : Int32)), .val (.int sk), .val (.int lt), .val (.int nb), .val (.int sp), .val (.int (5 : Int32)), .unset, .unset, .unset, .unset]) rfl ?_
        refine own_iload X258 hx hby at_259 (pc' := 261) rfl rfl ?_
        refine own_ifN X258 hx hby at_261 (pc' := 264) rfl (show ¬ (1 : Int32) = (0 : Int32) by decide) ?_
        refine own_aload X258 hx hby at_264 (pc' := 266) rfl rfl rfl ?_
        refine own_iload X258 hx hby at_266 (pc' := 268) rfl rfl ?_
        refine own_bipush X258 hx hby at_268 (pc' := 270) rfl (n := (47 : Int32)) (by decide) ?_
        obtain ⟨cl259, Ar259, q259, S259, M259, H259, G259⟩ := id f_V_d
        have hin259 : ¬ ((5 : Int32) < 0 ∨ cl259.slots.size ≤ ((5 : Int32)).toNatClampNeg) := inb_of S259 ⟨by decide, by decide⟩
        refine own_bastore X258 hx hZ hby e258 Ar259 hin259 at_270 (pc' := 271) rfl (fun T260 h260 X260 e260 W260 => ?_)
        have f_V_d := Arv.set Ar259 q259 S259 M259 H259 G259 (fits_nar_byte _) W260 5 rfl (Nat.le_of_ble_eq_true rfl)
        have f_V_d : Arv Z h260 d kk .byte (10 : Int32) [w0, w1, (.int (60 : Int32)), (.int (nb.toInt8.toInt32)), (.int (sp.toInt8.toInt32)), (.int ((47 : Int32).toInt8.toInt32)), w6, w7, w8, w9] (.int (0 : Int32)) := f_V_d
        have f_V_d : Arv Z h260 d kk .byte (10 : Int32) [w0, w1, (.int (60 : Int32)), (.int (nb.toInt8.toInt32)), (.int (sp.toInt8.toInt32)), (.int (47 : Int32)), w6, w7, w8, w9] (.int (0 : Int32)) := f_V_d
        have f_S_java_lang_String_COMPACT_STRINGS := f_S_java_lang_String_COMPACT_STRINGS.wr W260
        have Zn := Nat.le_trans Zn (Keep.of_wr W260).1
        have hSn := Nat.le_trans hSn (Keep.of_wr W260).1
        have N260 := Fr.snoc X260 N258 ge_d
        refine own_aload X260 hx hby at_271 (pc' := 273) rfl rfl rfl ?_
        refine own_iload X260 hx hby at_273 (pc' := 275) rfl rfl ?_
        refine own_iconst X260 hx hby at_275 (pc' := 276) rfl (n := (1 : Int32)) (by decide) ?_
        refine own_iadd X260 hx hby at_276 (pc' := 277) rfl ?_
        show own_End p e below _ (T260.setTop (mkF m 277 #[.val (.long p0), .second, .val (.int p1), .val (.int p2), .val (.ref d), .val (.int (2 : Int32)), .val (.int (1 : Int32)), .val (.int (1 : Int32)), .val (.int sk), .val (.int lt), .val (.int nb), .val (.int sp), .val (.int (5 : Int32)), .unset, .unset, .unset, .unset] [(.int (6 : Int32)), (.ref d)]))
        refine own_bipush X260 hx hby at_277 (pc' := 279) rfl (n := (62 : Int32)) (by decide) ?_
        obtain ⟨cl261, Ar261, q261, S261, M261, H261, G261⟩ := id f_V_d
        have hin261 : ¬ ((6 : Int32) < 0 ∨ cl261.slots.size ≤ ((6 : Int32)).toNatClampNeg) := inb_of S261 ⟨by decide, by decide⟩
        refine own_bastore X260 hx hZ hby e260 Ar261 hin261 at_279 (pc' := 280) rfl (fun T262 h262 X262 e262 W262 => ?_)
        have f_V_d := Arv.set Ar261 q261 S261 M261 H261 G261 (fits_nar_byte _) W262 6 rfl (Nat.le_of_ble_eq_true rfl)
        have f_V_d : Arv Z h262 d kk .byte (10 : Int32) [w0, w1, (.int (60 : Int32)), (.int (nb.toInt8.toInt32)), (.int (sp.toInt8.toInt32)), (.int (47 : Int32)), (.int ((62 : Int32).toInt8.toInt32)), w7, w8, w9] (.int (0 : Int32)) := f_V_d
        have f_V_d : Arv Z h262 d kk .byte (10 : Int32) [w0, w1, (.int (60 : Int32)), (.int (nb.toInt8.toInt32)), (.int (sp.toInt8.toInt32)), (.int (47 : Int32)), (.int (62 : Int32)), w7, w8, w9] (.int (0 : Int32)) := f_V_d
        have f_S_java_lang_String_COMPACT_STRINGS := f_S_java_lang_String_COMPACT_STRINGS.wr W262
        have Zn := Nat.le_trans Zn (Keep.of_wr W262).1
        have hSn := Nat.le_trans hSn (Keep.of_wr W262).1
        have N262 := Fr.snoc X262 N260 ge_d
        refine own_iload X262 hx hby at_280 (pc' := 282) rfl rfl ?_
        refine own_iconst X262 hx hby at_282 (pc' := 283) rfl (n := (2 : Int32)) (by decide) ?_
        refine own_iadd X262 hx hby at_283 (pc' := 284) rfl ?_
        show own_End p e below _ (T262.setTop (mkF m 284 #[.val (.long p0), .second, .val (.int p1), .val (.int p2), .val (.ref d), .val (.int (2 : Int32)), .val (.int (1 : Int32)), .val (.int (1 : Int32)), .val (.int sk), .val (.int lt), .val (.int nb), .val (.int sp), .val (.int (5 : Int32)), .unset, .unset, .unset, .unset] [(.int (7 : Int32))]))
        refine own_istore X262 hx hby at_284 (pc' := 286) rfl (l' := #[.val (.long p0), .second, .val (.int p1), .val (.int p2), .val (.ref d), .val (.int (2 : Int32)), .val (.int (1 : Int32)), .val (.int (1 : Int32)), .val (.int sk), .val (.int lt), .val (.int nb), .val (.int sp), .val (.int (5 : Int32)), .val (.int (7 : Int32)), .unset, .unset, .unset]) rfl ?_
        refine own_goto X262 hx hby at_286 (pc' := 302) (by decide) (by decide) ?_
        refine own_iload X262 hx hby at_302 (pc' := 304) rfl rfl ?_
        refine own_ifN X262 hx hby at_304 (pc' := 307) rfl (show ¬ (1 : Int32) = (0 : Int32) by decide) ?_
        refine own_iload X262 hx hby at_307 (pc' := 309) rfl rfl ?_
        refine own_goto X262 hx hby at_309 (pc' := 314) (by decide) (by decide) ?_
        refine own_istore X262 hx hby at_314 (pc' := 316) rfl (l' := #[.val (.long p0), .second, .val (.int p1), .val (.int p2), .val (.ref d), .val (.int (2 : Int32)), .val (.int (1 : Int32)), .val (.int (1 : Int32)), .val (.int sk), .val (.int lt), .val (.int nb), .val (.int sp), .val (.int (5 : Int32)), .val (.int (7 : Int32)), .val (.int (7 : Int32)), .unset, .unset]) rfl ?_
        refine own_new X262 hx hZ hby hown (wd_2 hw) (wd_3 hw) (wd_4 hw) e262 at_316 (pc' := 319) rfl (by decide) (by decide) (fun T263 h263 b263 g263 X263 e263 E263 A263 D263 => ?_)
        have ne_d_b263 : d ≠ b263 := Nat.ne_of_lt (by rw [g263]; exact f_V_d.lt)
        have ge_b263 : n0 ≤ b263 := by rw [g263]; exact Zn
        have f_V_d := f_V_d.ext E263
        have f_S_java_lang_String_COMPACT_STRINGS := f_S_java_lang_String_COMPACT_STRINGS.ext E263
        have Zn := Nat.le_trans Zn E263.1
        have hSn := Nat.le_trans hSn E263.1
        have f_O_b263 : own_ST Z h263 b263 (0 : Int32) (0 : Int32) (0 : Int32) (0 : Int32) .null .null .null .null := ⟨A263, D263 (Or.inr (wd_44 hw)) (ty := .int) (by decide), D263 (Or.inr (wd_46 hw)) (ty := .int) (by decide), D263 (Or.inr (wd_48 hw)) (ty := .int) (by decide), D263 (Or.inr (wd_50 hw)) (ty := .int) (by decide), D263 (Or.inr (wd_52 hw)) (ty := (.object "java/lang/String")) (by decide), D263 (Or.inr (wd_54 hw)) (ty := (.object "java/lang/String")) (by decide), D263 (Or.inr (wd_56 hw)) (ty := (.array .int)) (by decide), D263 (Or.inr (wd_58 hw)) (ty := (.object "java/util/Map")) (by decide)⟩
        refine own_dup X263 hx hby at_319 (pc' := 320) rfl rfl ?_
        refine own_iconst X263 hx hby at_320 (pc' := 321) rfl (n := (1 : Int32)) (by decide) ?_
        refine own_iload X263 hx hby at_321 (pc' := 323) rfl rfl ?_
        refine own_iload X263 hx hby at_323 (pc' := 325) rfl rfl ?_
        refine own_iconst X263 hx hby at_325 (pc' := 326) rfl (n := (2 : Int32)) (by decide) ?_
        refine own_iadd X263 hx hby at_326 (pc' := 327) rfl ?_
        show own_End p e below _ (T263.setTop (mkF m 327 #[.val (.long p0), .second, .val (.int p1), .val (.int p2), .val (.ref d), .val (.int (2 : Int32)), .val (.int (1 : Int32)), .val (.int (1 : Int32)), .val (.int sk), .val (.int lt), .val (.int nb), .val (.int sp), .val (.int (5 : Int32)), .val (.int (7 : Int32)), .val (.int (7 : Int32)), .unset, .unset] [(.int (4 : Int32)), (.int (2 : Int32)), (.int (1 : Int32)), (.ref b263), (.ref b263)]))
        refine own_iload X263 hx hby at_327 (pc' := 329) rfl rfl ?_
        obtain ⟨a264, T264, h264, k264, X264, e264, E264, hS, hSn, hZ, hown, st264⟩ := ldcS X263 hx hZ hown (wd_5 hw) (own_wS hw) e263 hS hSn (g := (mkF m 329 #[.val (.long p0), .second, .val (.int p1), .val (.int p2), .val (.ref d), .val (.int (2 : Int32)), .val (.int (1 : Int32)), .val (.int (1 : Int32)), .val (.int sk), .val (.int lt), .val (.int nb), .val (.int sp), .val (.int (5 : Int32)), .val (.int (7 : Int32)), .val (.int (7 : Int32)), .unset, .unset] [(.int (7 : Int32)), (.int (4 : Int32)), (.int (2 : Int32)), (.int (1 : Int32)), (.ref b263), (.ref b263)])) rfl (hb hby at_329) (n := 0) (by decide) (by decide) (by decide) (by decide)
        refine own_step st264 ?_
        have f_V_d := f_V_d.ext E264
        have f_S_java_lang_String_COMPACT_STRINGS := f_S_java_lang_String_COMPACT_STRINGS.ext E264
        have f_O_b263 := f_O_b263.ext E264
        have Zn := Nat.le_trans Zn E264.1
        show own_End p e below _ (T264.setTop (mkF m 331 #[.val (.long p0), .second, .val (.int p1), .val (.int p2), .val (.ref d), .val (.int (2 : Int32)), .val (.int (1 : Int32)), .val (.int (1 : Int32)), .val (.int sk), .val (.int lt), .val (.int nb), .val (.int sp), .val (.int (5 : Int32)), .val (.int (7 : Int32)), .val (.int (7 : Int32)), .unset, .unset] [(.ref a264), (.int (7 : Int32)), (.int (4 : Int32)), (.int (2 : Int32)), (.int (1 : Int32)), (.ref b263), (.ref b263)]))
        refine own_iload X264 hx hby at_331 (pc' := 333) rfl rfl ?_
        refine own_sipush X264 hx hby at_333 (pc' := 336) rfl (n := (255 : Int32)) (by decide) ?_
        refine own_iand X264 hx hby at_336 (pc' := 337) rfl ?_
        refine own_i2c X264 hx hby at_337 (pc' := 338) rfl ?_
        rw [i2c_mask]
        show own_End p e below _ (T264.setTop (mkF m 338 #[.val (.long p0), .second, .val (.int p1), .val (.int p2), .val (.ref d), .val (.int (2 : Int32)), .val (.int (1 : Int32)), .val (.int (1 : Int32)), .val (.int sk), .val (.int lt), .val (.int nb), .val (.int sp), .val (.int (5 : Int32)), .val (.int (7 : Int32)), .val (.int (7 : Int32)), .unset, .unset] [(.int (nb &&& (255 : Int32))), (.ref a264), (.int (7 : Int32)), (.int (4 : Int32)), (.int (2 : Int32)), (.int (1 : Int32)), (.ref b263), (.ref b263)]))
        refine own_lk5 hw X264 hx hZ hby (by rw [hml]; rfl) hown at_338 (pc' := 341) rfl e264 (W := 7) (Nat.le_of_eq rfl) (rm1 l Z a0 hw [] (nb &&& (255 : Int32)) cs h264 n0 Zn f_S_java_lang_String_COMPACT_STRINGS hcs (own_chr2 _)) (by decide) (by decide) (by decide) (by decide) (fun v266 T266 L266 X266 hQ266 => ?_)
        obtain ⟨w265, rfl, Nq266, K266, gw266⟩ := hQ266
        have N266 := Fr.app N262 Nq266
        have f_S_java_lang_String_COMPACT_STRINGS := own_sta0 f_S_java_lang_String_COMPACT_STRINGS K266
        have f_V_d := f_V_d.keep K266 nin0
        have f_O_b263 := f_O_b263.keep K266 nin0
        have Zn := Nat.le_trans Zn K266.1
        have hSn := Nat.le_trans hSn K266.1
        show own_End p e below _ (T266.setTop (mkF m 341 _ [(.ref w265), (.ref a264), (.int (7 : Int32)), (.int (4 : Int32)), (.int (2 : Int32)), (.int (1 : Int32)), (.ref b263), (.ref b263)]))
        refine own_iconst X266 hx hby at_341 (pc' := 342) rfl (n := (0 : Int32)) (by decide) ?_
        refine own_newP (aty := .int) X266 hx hZ hby (wd_33 hw) rfl at_342 (pc' := 344) rfl (by decide) (cap := 0) (by decide) (by decide) (by decide) (by decide) (fun T267 h267 k267 b267 g267 X267 e267 E267 A267 => ?_)
        have ne_d_b267 : d ≠ b267 := Nat.ne_of_lt (by rw [g267]; exact f_V_d.lt)
        have ne_b263_b267 : b263 ≠ b267 := Nat.ne_of_lt (by rw [g267]; exact f_O_b263.lt)
        have ge_b267 : n0 ≤ b267 := by rw [g267]; exact Zn
        have f_V_d := f_V_d.ext E267
        have f_S_java_lang_String_COMPACT_STRINGS := f_S_java_lang_String_COMPACT_STRINGS.ext E267
        have f_O_b263 := f_O_b263.ext E267
        have Zn := Nat.le_trans Zn E267.1
        have hSn := Nat.le_trans hSn E267.1
        have f_V_b267 : Arv Z h267 b267 k267 .int (0 : Int32) [] (.int (0 : Int32)) := Arv.new A267 (by decide)
        refine own_aconst_null X267 hx hby at_344 (pc' := 345) rfl ?_
        refine own_lk6 hw X267 hx hZ hby (by rw [hml]; rfl) hown at_345 (pc' := 348) rfl e267 (W := 1) (Nat.le_of_eq rfl) (rm6 l Z a0 hw [] b263 (1 : Int32) (2 : Int32) (4 : Int32) (7 : Int32) a264 w265 b267 h267 n0 Zn f_O_b263 ge_b263) (by decide) (by decide) (by decide) (by decide) (fun v268 T268 L268 X268 hQ268 => ?_)
        obtain ⟨rfl, Nq268, K268, O268⟩ := hQ268
        have N268 := Fr.app N266 Nq268
        have f_S_java_lang_String_COMPACT_STRINGS := own_sta1 f_S_java_lang_String_COMPACT_STRINGS K268 f_O_b263.1
        have f_V_d := f_V_d.keep K268 (ninS ne_d_b263 nin0)
        have f_V_b267 := f_V_b267.keep K268 (ninS (Ne.symm ne_b263_b267) nin0)
        have Zn := Nat.le_trans Zn K268.1
        have hSn := Nat.le_trans hSn K268.1
        show own_End p e below _ (T268.setTop (mkF m 348 _ [(.ref b263)]))
        refine own_astore X268 hx hby at_348 (pc' := 350) rfl rfl (l' := #[.val (.long p0), .second, .val (.int p1), .val (.int p2), .val (.ref d), .val (.int (2 : Int32)), .val (.int (1 : Int32)), .val (.int (1 : Int32)), .val (.int sk), .val (.int lt), .val (.int nb), .val (.int sp), .val (.int (5 : Int32)), .val (.int (7 : Int32)), .val (.int (7 : Int32)), .val (.ref b263), .unset]) rfl ?_
        refine own_new X268 hx hZ hby hown (wd_59 hw) (wd_60 hw) (wd_61 hw) rfl at_350 (pc' := 353) rfl (by decide) (by decide) (fun T269 h269 b269 g269 X269 e269 E269 A269 D269 => ?_)
        have ne_d_b269 : d ≠ b269 := Nat.ne_of_lt (by rw [g269]; exact f_V_d.lt)
        have ne_b267_b269 : b267 ≠ b269 := Nat.ne_of_lt (by rw [g269]; exact f_V_b267.lt)
        have ne_b263_b269 : b263 ≠ b269 := Nat.ne_of_lt (by rw [g269]; exact O268.lt)
        have ge_b269 : n0 ≤ b269 := by rw [g269]; exact Zn
        have f_V_d := f_V_d.ext E269
        have f_S_java_lang_String_COMPACT_STRINGS := f_S_java_lang_String_COMPACT_STRINGS.ext E269
        have f_V_b267 := f_V_b267.ext E269
        have O268 := O268.ext E269
        have Zn := Nat.le_trans Zn E269.1
        have hSn := Nat.le_trans hSn E269.1
        have f_O_b269 : own_XS Z h269 b269 .null .null (0 : Int32) .null .null := ⟨A269, D269 (Or.inr (wd_67 hw)) (ty := (.array .byte)) (by decide), D269 (Or.inr (wd_69 hw)) (ty := (.object "com/example/halyard/halyard/base/XmlScan$StartTag")) (by decide), D269 (Or.inr (wd_71 hw)) (ty := .int) (by decide), D269 (Or.inr (wd_73 hw)) (ty := (.object "java/util/List")) (by decide), D269 (Or.inr (wd_75 hw)) (ty := (.array .int)) (by decide)⟩
        refine own_dup X269 hx hby at_353 (pc' := 354) rfl rfl ?_
        refine own_aload X269 hx hby at_354 (pc' := 356) rfl rfl rfl ?_
        refine own_aload X269 hx hby at_356 (pc' := 358) rfl rfl rfl ?_
        refine own_iload X269 hx hby at_358 (pc' := 360) rfl rfl ?_
        refine own_aconst_null X269 hx hby at_360 (pc' := 361) rfl ?_
        refine own_iconst X269 hx hby at_361 (pc' := 362) rfl (n := (0 : Int32)) (by decide) ?_
        refine own_newP (aty := .int) X269 hx hZ hby (wd_33 hw) e269 at_362 (pc' := 364) rfl (by decide) (cap := 0) (by decide) (by decide) (by decide) (by decide) (fun T270 h270 k270 b270 g270 X270 e270 E270 A270 => ?_)
        have ne_d_b270 : d ≠ b270 := Nat.ne_of_lt (by rw [g270]; exact f_V_d.lt)
        have ne_b267_b270 : b267 ≠ b270 := Nat.ne_of_lt (by rw [g270]; exact f_V_b267.lt)
        have ne_b263_b270 : b263 ≠ b270 := Nat.ne_of_lt (by rw [g270]; exact O268.lt)
        have ne_b269_b270 : b269 ≠ b270 := Nat.ne_of_lt (by rw [g270]; exact f_O_b269.lt)
        have ge_b270 : n0 ≤ b270 := by rw [g270]; exact Zn
        have f_V_d := f_V_d.ext E270
        have f_S_java_lang_String_COMPACT_STRINGS := f_S_java_lang_String_COMPACT_STRINGS.ext E270
        have f_V_b267 := f_V_b267.ext E270
        have O268 := O268.ext E270
        have f_O_b269 := f_O_b269.ext E270
        have Zn := Nat.le_trans Zn E270.1
        have hSn := Nat.le_trans hSn E270.1
        have f_V_b270 : Arv Z h270 b270 k270 .int (0 : Int32) [] (.int (0 : Int32)) := Arv.new A270 (by decide)
        refine own_lk7 hw X270 hx hZ hby (by rw [hml]; rfl) hown at_364 (pc' := 367) rfl e270 (W := 1) (Nat.le_of_eq rfl) (rm8 l Z a0 hw [] b269 d b263 (7 : Int32) b270 h270 n0 Zn f_O_b269 ge_b269) (by decide) (by decide) (by decide) (by decide) (fun v271 T271 L271 X271 hQ271 => ?_)
        obtain ⟨rfl, Nq271, K271, O271⟩ := hQ271
        have N271 := Fr.app N268 Nq271
        have f_S_java_lang_String_COMPACT_STRINGS := own_sta1 f_S_java_lang_String_COMPACT_STRINGS K271 f_O_b269.1
        have f_V_d := f_V_d.keep K271 (ninS ne_d_b269 nin0)
        have f_V_b267 := f_V_b267.keep K271 (ninS ne_b267_b269 nin0)
        have O268 := O268.keep K271 (ninS ne_b263_b269 nin0)
        have f_V_b270 := f_V_b270.keep K271 (ninS (Ne.symm ne_b269_b270) nin0)
        have Zn := Nat.le_trans Zn K271.1
        have hSn := Nat.le_trans hSn K271.1
        show own_End p e below _ (T271.setTop (mkF m 367 _ [(.ref b269)]))
        refine own_astore X271 hx hby at_367 (pc' := 369) rfl rfl (l' := #[.val (.long p0), .second, .val (.int p1), .val (.int p2), .val (.ref d), .val (.int (2 : Int32)), .val (.int (1 : Int32)), .val (.int (1 : Int32)), .val (.int sk), .val (.int lt), .val (.int nb), .val (.int sp), .val (.int (5 : Int32)), .val (.int (7 : Int32)), .val (.int (7 : Int32)), .val (.ref b263), .val (.ref b269)]) rfl ?_
        refine own_aload X271 hx hby at_369 (pc' := 371) rfl rfl rfl ?_
        refine own_lk8 hw X271 hx hZ hby (by rw [hml]; rfl) hown at_371 (pc' := 374) rfl rfl O271.1 (W := 0) (Nat.le_of_eq rfl) (rm9a l Z a0 hw [] b269 d b263 (7 : Int32) .null rfl (.ref b270) rfl (1 : Int32) (2 : Int32) (4 : Int32) (7 : Int32) (.ref a264) rfl (.ref w265) rfl (.ref b267) rfl .null rfl kk (10 : Int32) [w0, w1, (.int (60 : Int32)), (.int (nb.toInt8.toInt32)), (.int (sp.toInt8.toInt32)), (.int (47 : Int32)), (.int (62 : Int32)), w7, w8, w9] (47 : Int32) T271.heap n0 Zn O271 O268 f_V_d (by decide) rfl rfl) (by decide) (by decide) (by decide) (by decide) (fun v272 T272 L272 X272 hQ272 => ?_)
        obtain ⟨rfl, Nq272, e272⟩ := hQ272
        have N272 := Fr.app N271 Nq272
        show own_End p e below _ (T272.setTop (mkF m 374 _ [(.int (5 : Int32))]))
        refine own_iload X272 hx hby at_374 (pc' := 376) rfl rfl ?_
        refine own_icN X272 hx hby at_376 (pc' := 379) rfl (show (5 : Int32) = (5 : Int32) by decide) ?_
        refine own_iconst X272 hx hby at_379 (pc' := 380) rfl (n := (1 : Int32)) (by decide) ?_
        refine own_goto X272 hx hby at_380 (pc' := 384) (by decide) (by decide) ?_
        refine own_zreturn X272 hx hlk hby hret (Or.inr rfl) at_384 (own_lvS hS (by rw [e272]; exact hSn) ?_ (by decide) (by decide))
        show Q0 Z p0 p1 p2 cs  h0 n0 (some (.int (1 : Int32))) T272.heap _
        rw [e272]
        exact ⟨rfl, N272⟩
      · rw [hs212]
        show own_End p e below _ (T0.setTop (mkF m 221 #[.val (.long p0), .second, .val (.int p1), .val (.int p2), .val (.ref d), .val (.int (3 : Int32)), .val (.int (1 : Int32)), .val (.int (1 : Int32)), .val (.int sk), .val (.int lt), .val (.int nb), .val (.int sp), .unset, .unset, .unset, .unset, .unset] [(.ref d)]))
        refine own_iload X0 hx hby at_221 (pc' := 223) rfl rfl ?_
        refine own_bipush X0 hx hby at_223 (pc' := 225) rfl (n := (60 : Int32)) (by decide) ?_
        obtain ⟨cl273, Ar273, q273, S273, M273, H273, G273⟩ := id f_V_d
        have hin273 : ¬ ((3 : Int32) < 0 ∨ cl273.slots.size ≤ ((3 : Int32)).toNatClampNeg) := inb_of S273 ⟨by decide, by decide⟩
        refine own_bastore X0 hx hZ hby e1 Ar273 hin273 at_225 (pc' := 226) rfl (fun T274 h274 X274 e274 W274 => ?_)
        have f_V_d := Arv.set Ar273 q273 S273 M273 H273 G273 (fits_nar_byte _) W274 3 rfl (Nat.le_of_ble_eq_true rfl)
        have f_V_d : Arv Z h274 d kk .byte (10 : Int32) [w0, w1, w2, (.int ((60 : Int32).toInt8.toInt32)), w4, w5, w6, w7, w8, w9] (.int (0 : Int32)) := f_V_d
        have f_V_d : Arv Z h274 d kk .byte (10 : Int32) [w0, w1, w2, (.int (60 : Int32)), w4, w5, w6, w7, w8, w9] (.int (0 : Int32)) := f_V_d
        have f_S_java_lang_String_COMPACT_STRINGS := f_S_java_lang_String_COMPACT_STRINGS.wr W274
        have Zn := Nat.le_trans Z1 (Keep.of_wr W274).1
        have hSn := Nat.le_trans hSn (Keep.of_wr W274).1
        have N274 := Fr.snoc X274 N0 ge_d
        refine own_aload X274 hx hby at_226 (pc' := 228) rfl rfl rfl ?_
        refine own_iload X274 hx hby at_228 (pc' := 230) rfl rfl ?_
        refine own_iconst X274 hx hby at_230 (pc' := 231) rfl (n := (1 : Int32)) (by decide) ?_
        refine own_iadd X274 hx hby at_231 (pc' := 232) rfl ?_
        show own_End p e below _ (T274.setTop (mkF m 232 #[.val (.long p0), .second, .val (.int p1), .val (.int p2), .val (.ref d), .val (.int (3 : Int32)), .val (.int (1 : Int32)), .val (.int (1 : Int32)), .val (.int sk), .val (.int lt), .val (.int nb), .val (.int sp), .unset, .unset, .unset, .unset, .unset] [(.int (4 : Int32)), (.ref d)]))
        refine own_iload X274 hx hby at_232 (pc' := 234) rfl rfl ?_
        obtain ⟨cl275, Ar275, q275, S275, M275, H275, G275⟩ := id f_V_d
        have hin275 : ¬ ((4 : Int32) < 0 ∨ cl275.slots.size ≤ ((4 : Int32)).toNatClampNeg) := inb_of S275 ⟨by decide, by decide⟩
        refine own_bastore X274 hx hZ hby e274 Ar275 hin275 at_234 (pc' := 235) rfl (fun T276 h276 X276 e276 W276 => ?_)
        have f_V_d := Arv.set Ar275 q275 S275 M275 H275 G275 (fits_nar_byte _) W276 4 rfl (Nat.le_of_ble_eq_true rfl)
        have f_V_d : Arv Z h276 d kk .byte (10 : Int32) [w0, w1, w2, (.int (60 : Int32)), (.int (nb.toInt8.toInt32)), w5, w6, w7, w8, w9] (.int (0 : Int32)) := f_V_d
        have f_S_java_lang_String_COMPACT_STRINGS := f_S_java_lang_String_COMPACT_STRINGS.wr W276
        have Zn := Nat.le_trans Zn (Keep.of_wr W276).1
        have hSn := Nat.le_trans hSn (Keep.of_wr W276).1
        have N276 := Fr.snoc X276 N274 ge_d
        refine own_iload X276 hx hby at_235 (pc' := 237) rfl rfl ?_
        refine own_iconst X276 hx hby at_237 (pc' := 238) rfl (n := (2 : Int32)) (by decide) ?_
        refine own_iadd X276 hx hby at_238 (pc' := 239) rfl ?_
        show own_End p e below _ (T276.setTop (mkF m 239 #[.val (.long p0), .second, .val (.int p1), .val (.int p2), .val (.ref d), .val (.int (3 : Int32)), .val (.int (1 : Int32)), .val (.int (1 : Int32)), .val (.int sk), .val (.int lt), .val (.int nb), .val (.int sp), .unset, .unset, .unset, .unset, .unset] [(.int (5 : Int32))]))
        refine own_istore X276 hx hby at_239 (pc' := 241) rfl (l' := #[.val (.long p0), .second, .val (.int p1), .val (.int p2), .val (.ref d), .val (.int (3 : Int32)), .val (.int (1 : Int32)), .val (.int (1 : Int32)), .val (.int sk), .val (.int lt), .val (.int nb), .val (.int sp), .val (.int (5 : Int32)), .unset, .unset, .unset, .unset]) rfl ?_
        refine own_iload X276 hx hby at_241 (pc' := 243) rfl rfl ?_
        refine own_ifN X276 hx hby at_243 (pc' := 246) rfl (show ¬ (1 : Int32) = (0 : Int32) by decide) ?_
        refine own_aload X276 hx hby at_246 (pc' := 248) rfl rfl rfl ?_
        refine own_iload X276 hx hby at_248 (pc' := 250) rfl rfl ?_
        refine own_iload X276 hx hby at_250 (pc' := 252) rfl rfl ?_
        obtain ⟨cl277, Ar277, q277, S277, M277, H277, G277⟩ := id f_V_d
        have hin277 : ¬ ((5 : Int32) < 0 ∨ cl277.slots.size ≤ ((5 : Int32)).toNatClampNeg) := inb_of S277 ⟨by decide, by decide⟩
        refine own_bastore X276 hx hZ hby e276 Ar277 hin277 at_252 (pc' := 253) rfl (fun T278 h278 X278 e278 W278 => ?_)
        have f_V_d := Arv.set Ar277 q277 S277 M277 H277 G277 (fits_nar_byte _) W278 5 rfl (Nat.le_of_ble_eq_true rfl)
        have f_V_d : Arv Z h278 d kk .byte (10 : Int32) [w0, w1, w2, (.int (60 : Int32)), (.int (nb.toInt8.toInt32)), (.int (sp.toInt8.toInt32)), w6, w7, w8, w9] (.int (0 : Int32)) := f_V_d
        have f_S_java_lang_String_COMPACT_STRINGS := f_S_java_lang_String_COMPACT_STRINGS.wr W278
        have Zn := Nat.le_trans Zn (Keep.of_wr W278).1
        have hSn := Nat.le_trans hSn (Keep.of_wr W278).1
        have N278 := Fr.snoc X278 N276 ge_d
        refine own_iload X278 hx hby at_253 (pc' := 255) rfl rfl ?_
        refine own_iconst X278 hx hby at_255 (pc' := 256) rfl (n := (1 : Int32)) (by decide) ?_
        refine own_iadd X278 hx hby at_256 (pc' := 257) rfl ?_
        show own_End p e below _ (T278.setTop (mkF m 257 #[.val (.long p0), .second, .val (.int p1), .val (.int p2), .val (.ref d), .val (.int (3 : Int32)), .val (.int (1 : Int32)), .val (.int (1 : Int32)), .val (.int sk), .val (.int lt), .val (.int nb), .val (.int sp), .val (.int (5 : Int32)), .unset, .unset, .unset, .unset] [(.int (6 : Int32))]))
        refine own_istore X278 hx hby at_257 (pc' := 259) rfl (l' := #[.val (.long p0), .second, .val (.int p1), .val (.int p2), .val (.ref d), .val (.int (3 : Int32)), .val (.int (1 : Int32)), .val (.int (1 : Int32)), .val (.int sk), .val (.int lt), .val (.int nb), .val (.int sp), .val (.int (6 : Int32)), .unset, .unset, .unset, .unset]) rfl ?_
        refine own_iload X278 hx hby at_259 (pc' := 261) rfl rfl ?_
        refine own_ifN X278 hx hby at_261 (pc' := 264) rfl (show ¬ (1 : Int32) = (0 : Int32) by decide) ?_
        refine own_aload X278 hx hby at_264 (pc' := 266) rfl rfl rfl ?_
        refine own_iload X278 hx hby at_266 (pc' := 268) rfl rfl ?_
        refine own_bipush X278 hx hby at_268 (pc' := 270) rfl (n := (47 : Int32)) (by decide) ?_
        obtain ⟨cl279, Ar279, q279, S279, M279, H279, G279⟩ := id f_V_d
        have hin279 : ¬ ((6 : Int32) < 0 ∨ cl279.slots.size ≤ ((6 : Int32)).toNatClampNeg) := inb_of S279 ⟨by decide, by decide⟩
        refine own_bastore X278 hx hZ hby e278 Ar279 hin279 at_270 (pc' := 271) rfl (fun T280 h280 X280 e280 W280 => ?_)
        have f_V_d := Arv.set Ar279 q279 S279 M279 H279 G279 (fits_nar_byte _) W280 6 rfl (Nat.le_of_ble_eq_true rfl)
        have f_V_d : Arv Z h280 d kk .byte (10 : Int32) [w0, w1, w2, (.int (60 : Int32)), (.int (nb.toInt8.toInt32)), (.int (sp.toInt8.toInt32)), (.int ((47 : Int32).toInt8.toInt32)), w7, w8, w9] (.int (0 : Int32)) := f_V_d
        have f_V_d : Arv Z h280 d kk .byte (10 : Int32) [w0, w1, w2, (.int (60 : Int32)), (.int (nb.toInt8.toInt32)), (.int (sp.toInt8.toInt32)), (.int (47 : Int32)), w7, w8, w9] (.int (0 : Int32)) := f_V_d
        have f_S_java_lang_String_COMPACT_STRINGS := f_S_java_lang_String_COMPACT_STRINGS.wr W280
        have Zn := Nat.le_trans Zn (Keep.of_wr W280).1
        have hSn := Nat.le_trans hSn (Keep.of_wr W280).1
        have N280 := Fr.snoc X280 N278 ge_d
        refine own_aload X280 hx hby at_271 (pc' := 273) rfl rfl rfl ?_
        refine own_iload X280 hx hby at_273 (pc' := 275) rfl rfl ?_
        refine own_iconst X280 hx hby at_275 (pc' := 276) rfl (n := (1 : Int32)) (by decide) ?_
        refine own_iadd X280 hx hby at_276 (pc' := 277) rfl ?_
        show own_End p e below _ (T280.setTop (mkF m 277 #[.val (.long p0), .second, .val (.int p1), .val (.int p2), .val (.ref d), .val (.int (3 : Int32)), .val (.int (1 : Int32)), .val (.int (1 : Int32)), .val (.int sk), .val (.int lt), .val (.int nb), .val (.int sp), .val (.int (6 : Int32)), .unset, .unset, .unset, .unset] [(.int (7 : Int32)), (.ref d)]))
        refine own_bipush X280 hx hby at_277 (pc' := 279) rfl (n := (62 : Int32)) (by decide) ?_
        obtain ⟨cl281, Ar281, q281, S281, M281, H281, G281⟩ := id f_V_d
        have hin281 : ¬ ((7 : Int32) < 0 ∨ cl281.slots.size ≤ ((7 : Int32)).toNatClampNeg) := inb_of S281 ⟨by decide, by decide⟩
        refine own_bastore X280 hx hZ hby e280 Ar281 hin281 at_279 (pc' := 280) rfl (fun T282 h282 X282 e282 W282 => ?_)
        have f_V_d := Arv.set Ar281 q281 S281 M281 H281 G281 (fits_nar_byte _) W282 7 rfl (Nat.le_of_ble_eq_true rfl)
        have f_V_d : Arv Z h282 d kk .byte (10 : Int32) [w0, w1, w2, (.int (60 : Int32)), (.int (nb.toInt8.toInt32)), (.int (sp.toInt8.toInt32)), (.int (47 : Int32)), (.int ((62 : Int32).toInt8.toInt32)), w8, w9] (.int (0 : Int32)) := f_V_d
        have f_V_d : Arv Z h282 d kk .byte (10 : Int32) [w0, w1, w2, (.int (60 : Int32)), (.int (nb.toInt8.toInt32)), (.int (sp.toInt8.toInt32)), (.int (47 : Int32)), (.int (62 : Int32)), w8, w9] (.int (0 : Int32)) := f_V_d
        have f_S_java_lang_String_COMPACT_STRINGS := f_S_java_lang_String_COMPACT_STRINGS.wr W282
        have Zn := Nat.le_trans Zn (Keep.of_wr W282).1
        have hSn := Nat.le_trans hSn (Keep.of_wr W282).1
        have N282 := Fr.snoc X282 N280 ge_d
        refine own_iload X282 hx hby at_280 (pc' := 282) rfl rfl ?_
        refine own_iconst X282 hx hby at_282 (pc' := 283) rfl (n := (2 : Int32)) (by decide) ?_
        refine own_iadd X282 hx hby at_283 (pc' := 284) rfl ?_
        show own_End p e below _ (T282.setTop (mkF m 284 #[.val (.long p0), .second, .val (.int p1), .val (.int p2), .val (.ref d), .val (.int (3 : Int32)), .val (.int (1 : Int32)), .val (.int (1 : Int32)), .val (.int sk), .val (.int lt), .val (.int nb), .val (.int sp), .val (.int (6 : Int32)), .unset, .unset, .unset, .unset] [(.int (8 : Int32))]))
        refine own_istore X282 hx hby at_284 (pc' := 286) rfl (l' := #[.val (.long p0), .second, .val (.int p1), .val (.int p2), .val (.ref d), .val (.int (3 : Int32)), .val (.int (1 : Int32)), .val (.int (1 : Int32)), .val (.int sk), .val (.int lt), .val (.int nb), .val (.int sp), .val (.int (6 : Int32)), .val (.int (8 : Int32)), .unset, .unset, .unset]) rfl ?_
        refine own_goto X282 hx hby at_286 (pc' := 302) (by decide) (by decide) ?_
        refine own_iload X282 hx hby at_302 (pc' := 304) rfl rfl ?_
        refine own_ifN X282 hx hby at_304 (pc' := 307) rfl (show ¬ (1 : Int32) = (0 : Int32) by decide) ?_
        refine own_iload X282 hx hby at_307 (pc' := 309) rfl rfl ?_
        refine own_goto X282 hx hby at_309 (pc' := 314) (by decide) (by decide) ?_
        refine own_istore X282 hx hby at_314 (pc' := 316) rfl (l' := #[.val (.long p0), .second, .val (.int p1), .val (.int p2), .val (.ref d), .val (.int (3 : Int32)), .val (.int (1 : Int32)), .val (.int (1 : Int32)), .val (.int sk), .val (.int lt), .val (.int nb), .val (.int sp), .val (.int (6 : Int32)), .val (.int (8 : Int32)), .val (.int (8 : Int32)), .unset, .unset]) rfl ?_
        refine own_new X282 hx hZ hby hown (wd_2 hw) (wd_3 hw) (wd_4 hw) e282 at_316 (pc' := 319) rfl (by decide) (by decide) (fun T283 h283 b283 g283 X283 e283 E283 A283 D283 => ?_)
        have ne_d_b283 : d ≠ b283 := Nat.ne_of_lt (by rw [g283]; exact f_V_d.lt)
        have ge_b283 : n0 ≤ b283 := by rw [g283]; exact Zn
        have f_V_d := f_V_d.ext E283
        have f_S_java_lang_String_COMPACT_STRINGS := f_S_java_lang_String_COMPACT_STRINGS.ext E283
        have Zn := Nat.le_trans Zn E283.1
        have hSn := Nat.le_trans hSn E283.1
        have f_O_b283 : own_ST Z h283 b283 (0 : Int32) (0 : Int32) (0 : Int32) (0 : Int32) .null .null .null .null := ⟨A283, D283 (Or.inr (wd_44 hw)) (ty := .int) (by decide), D283 (Or.inr (wd_46 hw)) (ty := .int) (by decide), D283 (Or.inr (wd_48 hw)) (ty := .int) (by decide), D283 (Or.inr (wd_50 hw)) (ty := .int) (by decide), D283 (Or.inr (wd_52 hw)) (ty := (.object "java/lang/String")) (by decide), D283 (Or.inr (wd_54 hw)) (ty := (.object "java/lang/String")) (by decide), D283 (Or.inr (wd_56 hw)) (ty := (.array .int)) (by decide), D283 (Or.inr (wd_58 hw)) (ty := (.object "java/util/Map")) (by decide)⟩
        refine own_dup X283 hx hby at_319 (pc' := 320) rfl rfl ?_
        refine own_iconst X283 hx hby at_320 (pc' := 321) rfl (n := (1 : Int32)) (by decide) ?_
        refine own_iload X283 hx hby at_321 (pc' := 323) rfl rfl ?_
        refine own_iload X283 hx hby at_323 (pc' := 325) rfl rfl ?_
        refine own_iconst X283 hx hby at_325 (pc' := 326) rfl (n := (2 : Int32)) (by decide) ?_
        refine own_iadd X283 hx hby at_326 (pc' := 327) rfl ?_
        show own_End p e below _ (T283.setTop (mkF m 327 #[.val (.long p0), .second, .val (.int p1), .val (.int p2), .val (.ref d), .val (.int (3 : Int32)), .val (.int (1 : Int32)), .val (.int (1 : Int32)), .val (.int sk), .val (.int lt), .val (.int nb), .val (.int sp), .val (.int (6 : Int32)), .val (.int (8 : Int32)), .val (.int (8 : Int32)), .unset, .unset] [(.int (5 : Int32)), (.int (3 : Int32)), (.int (1 : Int32)), (.ref b283), (.ref b283)]))
        refine own_iload X283 hx hby at_327 (pc' := 329) rfl rfl ?_
        obtain ⟨a284, T284, h284, k284, X284, e284, E284, hS, hSn, hZ, hown, st284⟩ := ldcS X283 hx hZ hown (wd_5 hw) (own_wS hw) e283 hS hSn (g := (mkF m 329 #[.val (.long p0), .second, .val (.int p1), .val (.int p2), .val (.ref d), .val (.int (3 : Int32)), .val (.int (1 : Int32)), .val (.int (1 : Int32)), .val (.int sk), .val (.int lt), .val (.int nb), .val (.int sp), .val (.int (6 : Int32)), .val (.int (8 : Int32)), .val (.int (8 : Int32)), .unset, .unset] [(.int (8 : Int32)), (.int (5 : Int32)), (.int (3 : Int32)), (.int (1 : Int32)), (.ref b283), (.ref b283)])) rfl (hb hby at_329) (n := 0) (by decide) (by decide) (by decide) (by decide)
        refine own_step st284 ?_
        have f_V_d := f_V_d.ext E284
        have f_S_java_lang_String_COMPACT_STRINGS := f_S_java_lang_String_COMPACT_STRINGS.ext E284
        have f_O_b283 := f_O_b283.ext E284
        have Zn := Nat.le_trans Zn E284.1
        show own_End p e below _ (T284.setTop (mkF m 331 #[.val (.long p0), .second, .val (.int p1), .val (.int p2), .val (.ref d), .val (.int (3 : Int32)), .val (.int (1 : Int32)), .val (.int (1 : Int32)), .val (.int sk), .val (.int lt), .val (.int nb), .val (.int sp), .val (.int (6 : Int32)), .val (.int (8 : Int32)), .val (.int (8 : Int32)), .unset, .unset] [(.ref a284), (.int (8 : Int32)), (.int (5 : Int32)), (.int (3 : Int32)), (.int (1 : Int32)), (.ref b283), (.ref b283)]))
        refine own_iload X284 hx hby at_331 (pc' := 333) rfl rfl ?_
        refine own_sipush X284 hx hby at_333 (pc' := 336) rfl (n := (255 : Int32)) (by decide) ?_
        refine own_iand X284 hx hby at_336 (pc' := 337) rfl ?_
        refine own_i2c X284 hx hby at_337 (pc' := 338) rfl ?_
        rw [i2c_mask]
        show own_End p e below _ (T284.setTop (mkF m 338 #[.val (.long p0), .second, .val (.int p1), .val (.int p2), .val (.ref d), .val (.int (3 : Int32)), .val (.int (1 : Int32)), .val (.int (1 : Int32)), .val (.int sk), .val (.int lt), .val (.int nb), .val (.int sp), .val (.int (6 : Int32)), .val (.int (8 : Int32)), .val (.int (8 : Int32)), .unset, .unset] [(.int (nb &&& (255 : Int32))), (.ref a284), (.int (8 : Int32)), (.int (5 : Int32)), (.int (3 : Int32)), (.int (1 : Int32)), (.ref b283), (.ref b283)]))
        refine own_lk5 hw X284 hx hZ hby (by rw [hml]; rfl) hown at_338 (pc' := 341) rfl e284 (W := 7) (Nat.le_of_eq rfl) (rm1 l Z a0 hw [] (nb &&& (255 : Int32)) cs h284 n0 Zn f_S_java_lang_String_COMPACT_STRINGS hcs (own_chr2 _)) (by decide) (by decide) (by decide) (by decide) (fun v286 T286 L286 X286 hQ286 => ?_)
        obtain ⟨w285, rfl, Nq286, K286, gw286⟩ := hQ286
        have N286 := Fr.app N282 Nq286
        have f_S_java_lang_String_COMPACT_STRINGS := own_sta0 f_S_java_lang_String_COMPACT_STRINGS K286
        have f_V_d := f_V_d.keep K286 nin0
        have f_O_b283 := f_O_b283.keep K286 nin0
        have Zn := Nat.le_trans Zn K286.1
        have hSn := Nat.le_trans hSn K286.1
        show own_End p e below _ (T286.setTop (mkF m 341 _ [(.ref w285), (.ref a284), (.int (8 : Int32)), (.int (5 : Int32)), (.int (3 : Int32)), (.int (1 : Int32)), (.ref b283), (.ref b283)]))
        refine own_iconst X286 hx hby at_341 (pc' := 342) rfl (n := (0 : Int32)) (by decide) ?_
        refine own_newP (aty := .int) X286 hx hZ hby (wd_33 hw) rfl at_342 (pc' := 344) rfl (by decide) (cap := 0) (by decide) (by decide) (by decide) (by decide) (fun T287 h287 k287 b287 g287 X287 e287 E287 A287 => ?_)
        have ne_d_b287 : d ≠ b287 := Nat.ne_of_lt (by rw [g287]; exact f_V_d.lt)
        have ne_b283_b287 : b283 ≠ b287 := Nat.ne_of_lt (by rw [g287]; exact f_O_b283.lt)
        have ge_b287 : n0 ≤ b287 := by rw [g287]; exact Zn
        have f_V_d := f_V_d.ext E287
        have f_S_java_lang_String_COMPACT_STRINGS := f_S_java_lang_String_COMPACT_STRINGS.ext E287
        have f_O_b283 := f_O_b283.ext E287
        have Zn := Nat.le_trans Zn E287.1
        have hSn := Nat.le_trans hSn E287.1
        have f_V_b287 : Arv Z h287 b287 k287 .int (0 : Int32) [] (.int (0 : Int32)) := Arv.new A287 (by decide)
        refine own_aconst_null X287 hx hby at_344 (pc' := 345) rfl ?_
        refine own_lk6 hw X287 hx hZ hby (by rw [hml]; rfl) hown at_345 (pc' := 348) rfl e287 (W := 1) (Nat.le_of_eq rfl) (rm6 l Z a0 hw [] b283 (1 : Int32) (3 : Int32) (5 : Int32) (8 : Int32) a284 w285 b287 h287 n0 Zn f_O_b283 ge_b283) (by decide) (by decide) (by decide) (by decide) (fun v288 T288 L288 X288 hQ288 => ?_)
        obtain ⟨rfl, Nq288, K288, O288⟩ := hQ288
        have N288 := Fr.app N286 Nq288
        have f_S_java_lang_String_COMPACT_STRINGS := own_sta1 f_S_java_lang_String_COMPACT_STRINGS K288 f_O_b283.1
        have f_V_d := f_V_d.keep K288 (ninS ne_d_b283 nin0)
        have f_V_b287 := f_V_b287.keep K288 (ninS (Ne.symm ne_b283_b287) nin0)
        have Zn := Nat.le_trans Zn K288.1
        have hSn := Nat.le_trans hSn K288.1
        show own_End p e below _ (T288.setTop (mkF m 348 _ [(.ref b283)]))
        refine own_astore X288 hx hby at_348 (pc' := 350) rfl rfl (l' := #[.val (.long p0), .second, .val (.int p1), .val (.int p2), .val (.ref d), .val (.int (3 : Int32)), .val (.int (1 : Int32)), .val (.int (1 : Int32)), .val (.int sk), .val (.int lt), .val (.int nb), .val (.int sp), .val (.int (6 : Int32)), .val (.int (8 : Int32)), .val (.int (8 : Int32)), .val (.ref b283), .unset]) rfl ?_
        refine own_new X288 hx hZ hby hown (wd_59 hw) (wd_60 hw) (wd_61 hw) rfl at_350 (pc' := 353) rfl (by decide) (by decide) (fun T289 h289 b289 g289 X289 e289 E289 A289 D289 => ?_)
        have ne_d_b289 : d ≠ b289 := Nat.ne_of_lt (by rw [g289]; exact f_V_d.lt)
        have ne_b287_b289 : b287 ≠ b289 := Nat.ne_of_lt (by rw [g289]; exact f_V_b287.lt)
        have ne_b283_b289 : b283 ≠ b289 := Nat.ne_of_lt (by rw [g289]; exact O288.lt)
        have ge_b289 : n0 ≤ b289 := by rw [g289]; exact Zn
        have f_V_d := f_V_d.ext E289
        have f_S_java_lang_String_COMPACT_STRINGS := f_S_java_lang_String_COMPACT_STRINGS.ext E289
        have f_V_b287 := f_V_b287.ext E289
        have O288 := O288.ext E289
        have Zn := Nat.le_trans Zn E289.1
        have hSn := Nat.le_trans hSn E289.1
        have f_O_b289 : own_XS Z h289 b289 .null .null (0 : Int32) .null .null := ⟨A289, D289 (Or.inr (wd_67 hw)) (ty := (.array .byte)) (by decide), D289 (Or.inr (wd_69 hw)) (ty := (.object "com/example/halyard/halyard/base/XmlScan$StartTag")) (by decide), D289 (Or.inr (wd_71 hw)) (ty := .int) (by decide), D289 (Or.inr (wd_73 hw)) (ty := (.object "java/util/List")) (by decide), D289 (Or.inr (wd_75 hw)) (ty := (.array .int)) (by decide)⟩
        refine own_dup X289 hx hby at_353 (pc' := 354) rfl rfl ?_
        refine own_aload X289 hx hby at_354 (pc' := 356) rfl rfl rfl ?_
        refine own_aload X289 hx hby at_356 (pc' := 358) rfl rfl rfl ?_
        refine own_iload X289 hx hby at_358 (pc' := 360) rfl rfl ?_
        refine own_aconst_null X289 hx hby at_360 (pc' := 361) rfl ?_
        refine own_iconst X289 hx hby at_361 (pc' := 362) rfl (n := (0 : Int32)) (by decide) ?_
        refine own_newP (aty := .int) X289 hx hZ hby (wd_33 hw) e289 at_362 (pc' := 364) rfl (by decide) (cap := 0) (by decide) (by decide) (by decide) (by decide) (fun T290 h290 k290 b290 g290 X290 e290 E290 A290 => ?_)
        have ne_d_b290 : d ≠ b290 := Nat.ne_of_lt (by rw [g290]; exact f_V_d.lt)
        have ne_b287_b290 : b287 ≠ b290 := Nat.ne_of_lt (by rw [g290]; exact f_V_b287.lt)
        have ne_b283_b290 : b283 ≠ b290 := Nat.ne_of_lt (by rw [g290]; exact O288.lt)
        have ne_b289_b290 : b289 ≠ b290 := Nat.ne_of_lt (by rw [g290]; exact f_O_b289.lt)
        have ge_b290 : n0 ≤ b290 := by rw [g290]; exact Zn
        have f_V_d := f_V_d.ext E290
        have f_S_java_lang_String_COMPACT_STRINGS := f_S_java_lang_String_COMPACT_STRINGS.ext E290
        have f_V_b287 := f_V_b287.ext E290
        have O288 := O288.ext E290
        have f_O_b289 := f_O_b289.ext E290
        have Zn := Nat.le_trans Zn E290.1
        have hSn := Nat.le_trans hSn E290.1
        have f_V_b290 : Arv Z h290 b290 k290 .int (0 : Int32) [] (.int (0 : Int32)) := Arv.new A290 (by decide)
        refine own_lk7 hw X290 hx hZ hby (by rw [hml]; rfl) hown at_364 (pc' := 367) rfl e290 (W := 1) (Nat.le_of_eq rfl) (rm8 l Z a0 hw [] b289 d b283 (8 : Int32) b290 h290 n0 Zn f_O_b289 ge_b289) (by decide) (by decide) (by decide) (by decide) (fun v291 T291 L291 X291 hQ291 => ?_)
        obtain ⟨rfl, Nq291, K291, O291⟩ := hQ291
        have N291 := Fr.app N288 Nq291
        have f_S_java_lang_String_COMPACT_STRINGS := own_sta1 f_S_java_lang_String_COMPACT_STRINGS K291 f_O_b289.1
        have f_V_d := f_V_d.keep K291 (ninS ne_d_b289 nin0)
        have f_V_b287 := f_V_b287.keep K291 (ninS ne_b287_b289 nin0)
        have O288 := O288.keep K291 (ninS ne_b283_b289 nin0)
        have f_V_b290 := f_V_b290.keep K291 (ninS (Ne.symm ne_b289_b290) nin0)
        have Zn := Nat.le_trans Zn K291.1
        have hSn := Nat.le_trans hSn K291.1
        show own_End p e below _ (T291.setTop (mkF m 367 _ [(.ref b289)]))
        refine own_astore X291 hx hby at_367 (pc' := 369) rfl rfl (l' := #[.val (.long p0), .second, .val (.int p1), .val (.int p2), .val (.ref d), .val (.int (3 : Int32)), .val (.int (1 : Int32)), .val (.int (1 : Int32)), .val (.int sk), .val (.int lt), .val (.int nb), .val (.int sp), .val (.int (6 : Int32)), .val (.int (8 : Int32)), .val (.int (8 : Int32)), .val (.ref b283), .val (.ref b289)]) rfl ?_
        refine own_aload X291 hx hby at_369 (pc' := 371) rfl rfl rfl ?_
        refine own_lk8 hw X291 hx hZ hby (by rw [hml]; rfl) hown at_371 (pc' := 374) rfl rfl O291.1 (W := 0) (Nat.le_of_eq rfl) (rm9a l Z a0 hw [] b289 d b283 (8 : Int32) .null rfl (.ref b290) rfl (1 : Int32) (3 : Int32) (5 : Int32) (8 : Int32) (.ref a284) rfl (.ref w285) rfl (.ref b287) rfl .null rfl kk (10 : Int32) [w0, w1, w2, (.int (60 : Int32)), (.int (nb.toInt8.toInt32)), (.int (sp.toInt8.toInt32)), (.int (47 : Int32)), (.int (62 : Int32)), w8, w9] (47 : Int32) T291.heap n0 Zn O291 O288 f_V_d (by decide) rfl rfl) (by decide) (by decide) (by decide) (by decide) (fun v292 T292 L292 X292 hQ292 => ?_)
        obtain ⟨rfl, Nq292, e292⟩ := hQ292
        have N292 := Fr.app N291 Nq292
        show own_End p e below _ (T292.setTop (mkF m 374 _ [(.int (6 : Int32))]))
        refine own_iload X292 hx hby at_374 (pc' := 376) rfl rfl ?_
        refine own_icN X292 hx hby at_376 (pc' := 379) rfl (show (6 : Int32) = (6 : Int32) by decide) ?_
        refine own_iconst X292 hx hby at_379 (pc' := 380) rfl (n := (1 : Int32)) (by decide) ?_
        refine own_goto X292 hx hby at_380 (pc' := 384) (by decide) (by decide) ?_
        refine own_zreturn X292 hx hlk hby hret (Or.inr rfl) at_384 (own_lvS hS (by rw [e292]; exact hSn) ?_ (by decide) (by decide))
        show Q0 Z p0 p1 p2 cs  h0 n0 (some (.int (1 : Int32))) T292.heap _
        rw [e292]
        exact ⟨rfl, N292⟩
set_option maxRecDepth 65536 in
set_option maxHeartbeats 40000000 in
theorem own_s182 {p : Program} {l : Launch} {e : Env} {s : State} {vm0 : Vm} {kS : Nat} {m : MethodId} {below : List Frame} {meth : Method} {c : Code} {T0 : State} {locs : List Loc} (Z : State) (a0 : Array Value) (hw : ∀ d ∈ tables_1, d.before a0 Z = true) (p0 : Int64) (p1 : Int32) (p2 : Int32) (cs : Int32) (d : Addr) (kk : ClassId) (w0 : Value) (w1 : Value) (w2 : Value) (w3 : Value) (w4 : Value) (w5 : Value) (w6 : Value) (w7 : Value) (w8 : Value) (w9 : Value) (em : Int32) (sd : Int32) (sk : Int32) (lt : Int32) (nb : Int32) (h0 : Heap) (n0 : Nat) (h1 : Heap)
    (X0 : Stand p l e room_1 (s.setVm vm0) m #[(.long p0), (.int p1), (.int p2)] below meth c T0 locs 1 10) (hx : p.tables.exec = Jvm.exec) (hby : c.code = code) (hlk : meth.locks = false) (hml : c.maxLocals = 17) (hown : (s.setVm vm0).vm.findClass "com/example/halyard/halyard/base/XmlSliceStartTagClosePinLaw" = some m.cls) (hret : meth.sig.returnType = some .boolean) (hZ : Z.Warmed39 (s.setVm vm0).vm) (e1 : T0.heap = h1) (N0 : Fr n0 locs) (Z1 : n0 ≤ h1.size) (hS : s.Since vm0 kS) (hSn : kS ≤ h1.size) (f_V_d : Arv Z h1 d kk .byte (10 : Int32) [w0, w1, w2, w3, w4, w5, w6, w7, w8, w9] (.int (0 : Int32))) (ge_d : n0 ≤ d) (f_S_java_lang_String_COMPACT_STRINGS : Sta Z h1 "java/lang/String" "COMPACT_STRINGS" "Z" (.int cs)) (hcs : ¬ cs = (0 : Int32)) (hem : em = (0 : Int32) ∨ em = (1 : Int32)) (hsd : sd = (0 : Int32) ∨ sd = (1 : Int32)) (hnb : ¬ (nb.toInt8.toInt32) = (47 : Int32)) :
    own_End p e below (own_FS s (Q0 Z p0 p1 p2 cs h0 n0) room_1.cells room_1.slots) (T0.setTop (mkF m 182 #[.val (.long p0), .second, .val (.int p1), .val (.int p2), .val (.ref d), .val (.int (p2 &&& (3 : Int32))), .val (.int em), .val (.int sd), .val (.int sk), .val (.int lt), .val (.int nb), .unset, .unset, .unset, .unset, .unset, .unset] [])) := by
  refine own_iload X0 hx hby at_182 (pc' := 184) rfl rfl ?_
  refine own_if2 X0 hx hby at_184 (pc1 := 192) (by decide) (by decide) (pc2 := 187) rfl (fun (hc184 : ¬ sk = (0 : Int32)) => ?_) (fun (hc184 : sk = (0 : Int32)) => ?_)
  · refine own_iload X0 hx hby at_192 (pc' := 194) rfl rfl ?_
    refine own_iconst X0 hx hby at_194 (pc' := 195) rfl (n := (1 : Int32)) (by decide) ?_
    refine own_ic2 X0 hx hby at_195 (pc1 := 203) (by decide) (by decide) (pc2 := 198) rfl (fun (hc195 : ¬ sk = (1 : Int32)) => ?_) (fun (hc195 : sk = (1 : Int32)) => ?_)
    · refine own_iload X0 hx hby at_203 (pc' := 205) rfl rfl ?_
      refine own_iconst X0 hx hby at_205 (pc' := 206) rfl (n := (2 : Int32)) (by decide) ?_
      refine own_ic2 X0 hx hby at_206 (pc1 := 214) (by decide) (by decide) (pc2 := 209) rfl (fun (hc206 : ¬ sk = (2 : Int32)) => ?_) (fun (hc206 : sk = (2 : Int32)) => ?_)
      · refine own_bipush X0 hx hby at_214 (pc' := 216) rfl (n := (13 : Int32)) (by decide) ?_
        refine own_i2b X0 hx hby at_216 (pc' := 217) rfl ?_
        refine own_istore X0 hx hby at_217 (pc' := 219) rfl (l' := #[.val (.long p0), .second, .val (.int p1), .val (.int p2), .val (.ref d), .val (.int (p2 &&& (3 : Int32))), .val (.int em), .val (.int sd), .val (.int sk), .val (.int lt), .val (.int nb), .val (.int ((13 : Int32).toInt8.toInt32)), .unset, .unset, .unset, .unset, .unset]) rfl ?_
        exact own_s219 Z a0 hw p0 p1 p2 cs d kk w0 w1 w2 w3 w4 w5 w6 w7 w8 w9 em sd sk lt nb ((13 : Int32).toInt8.toInt32)  h0 n0 h1 (own_mono X0 (by decide) (by decide)) hx hby hlk hml hown hret hZ e1 N0 Z1 hS hSn  f_V_d ge_d f_S_java_lang_String_COMPACT_STRINGS hcs hem hsd hnb (by decide)
      · refine own_bipush X0 hx hby at_209 (pc' := 211) rfl (n := (10 : Int32)) (by decide) ?_
        refine own_goto X0 hx hby at_211 (pc' := 216) (by decide) (by decide) ?_
        refine own_i2b X0 hx hby at_216 (pc' := 217) rfl ?_
        refine own_istore X0 hx hby at_217 (pc' := 219) rfl (l' := #[.val (.long p0), .second, .val (.int p1), .val (.int p2), .val (.ref d), .val (.int (p2 &&& (3 : Int32))), .val (.int em), .val (.int sd), .val (.int sk), .val (.int lt), .val (.int nb), .val (.int ((10 : Int32).toInt8.toInt32)), .unset, .unset, .unset, .unset, .unset]) rfl ?_
        exact own_s219 Z a0 hw p0 p1 p2 cs d kk w0 w1 w2 w3 w4 w5 w6 w7 w8 w9 em sd sk lt nb ((10 : Int32).toInt8.toInt32)  h0 n0 h1 (own_mono X0 (by decide) (by decide)) hx hby hlk hml hown hret hZ e1 N0 Z1 hS hSn  f_V_d ge_d f_S_java_lang_String_COMPACT_STRINGS hcs hem hsd hnb (by decide)
    · refine own_bipush X0 hx hby at_198 (pc' := 200) rfl (n := (9 : Int32)) (by decide) ?_
      refine own_goto X0 hx hby at_200 (pc' := 216) (by decide) (by decide) ?_
      refine own_i2b X0 hx hby at_216 (pc' := 217) rfl ?_
      refine own_istore X0 hx hby at_217 (pc' := 219) rfl (l' := #[.val (.long p0), .second, .val (.int p1), .val (.int p2), .val (.ref d), .val (.int (p2 &&& (3 : Int32))), .val (.int em), .val (.int sd), .val (.int sk), .val (.int lt), .val (.int nb), .val (.int ((9 : Int32).toInt8.toInt32)), .unset, .unset, .unset, .unset, .unset]) rfl ?_
      exact own_s219 Z a0 hw p0 p1 p2 cs d kk w0 w1 w2 w3 w4 w5 w6 w7 w8 w9 em sd sk lt nb ((9 : Int32).toInt8.toInt32)  h0 n0 h1 (own_mono X0 (by decide) (by decide)) hx hby hlk hml hown hret hZ e1 N0 Z1 hS hSn  f_V_d ge_d f_S_java_lang_String_COMPACT_STRINGS hcs hem hsd hnb (by decide)
  · refine own_bipush X0 hx hby at_187 (pc' := 189) rfl (n := (32 : Int32)) (by decide) ?_
    refine own_goto X0 hx hby at_189 (pc' := 216) (by decide) (by decide) ?_
    refine own_i2b X0 hx hby at_216 (pc' := 217) rfl ?_
    refine own_istore X0 hx hby at_217 (pc' := 219) rfl (l' := #[.val (.long p0), .second, .val (.int p1), .val (.int p2), .val (.ref d), .val (.int (p2 &&& (3 : Int32))), .val (.int em), .val (.int sd), .val (.int sk), .val (.int lt), .val (.int nb), .val (.int ((32 : Int32).toInt8.toInt32)), .unset, .unset, .unset, .unset, .unset]) rfl ?_
    exact own_s219 Z a0 hw p0 p1 p2 cs d kk w0 w1 w2 w3 w4 w5 w6 w7 w8 w9 em sd sk lt nb ((32 : Int32).toInt8.toInt32)  h0 n0 h1 (own_mono X0 (by decide) (by decide)) hx hby hlk hml hown hret hZ e1 N0 Z1 hS hSn  f_V_d ge_d f_S_java_lang_String_COMPACT_STRINGS hcs hem hsd hnb (by decide)
set_option maxRecDepth 65536 in
set_option maxHeartbeats 40000000 in
theorem own_s137 {p : Program} {l : Launch} {e : Env} {s : State} {vm0 : Vm} {kS : Nat} {m : MethodId} {below : List Frame} {meth : Method} {c : Code} {T0 : State} {locs : List Loc} (Z : State) (a0 : Array Value) (hw : ∀ d ∈ tables_1, d.before a0 Z = true) (p0 : Int64) (p1 : Int32) (p2 : Int32) (cs : Int32) (d : Addr) (kk : ClassId) (w0 : Value) (w1 : Value) (w2 : Value) (w3 : Value) (w4 : Value) (w5 : Value) (w6 : Value) (w7 : Value) (w8 : Value) (w9 : Value) (em : Int32) (sd : Int32) (h0 : Heap) (n0 : Nat) (h1 : Heap)
    (X0 : Stand p l e room_1 (s.setVm vm0) m #[(.long p0), (.int p1), (.int p2)] below meth c T0 locs 1 10) (hx : p.tables.exec = Jvm.exec) (hby : c.code = code) (hlk : meth.locks = false) (hml : c.maxLocals = 17) (hown : (s.setVm vm0).vm.findClass "com/example/halyard/halyard/base/XmlSliceStartTagClosePinLaw" = some m.cls) (hret : meth.sig.returnType = some .boolean) (hZ : Z.Warmed39 (s.setVm vm0).vm) (e1 : T0.heap = h1) (N0 : Fr n0 locs) (Z1 : n0 ≤ h1.size) (hS : s.Since vm0 kS) (hSn : kS ≤ h1.size) (f_V_d : Arv Z h1 d kk .byte (10 : Int32) [w0, w1, w2, w3, w4, w5, w6, w7, w8, w9] (.int (0 : Int32))) (ge_d : n0 ≤ d) (f_S_java_lang_String_COMPACT_STRINGS : Sta Z h1 "java/lang/String" "COMPACT_STRINGS" "Z" (.int cs)) (hcs : ¬ cs = (0 : Int32)) (hem : em = (0 : Int32) ∨ em = (1 : Int32)) (hsd : sd = (0 : Int32) ∨ sd = (1 : Int32)) :
    own_End p e below (own_FS s (Q0 Z p0 p1 p2 cs h0 n0) room_1.cells room_1.slots) (T0.setTop (mkF m 137 #[.val (.long p0), .second, .val (.int p1), .val (.int p2), .val (.ref d), .val (.int (p2 &&& (3 : Int32))), .val (.int em), .val (.int sd), .unset, .unset, .unset, .unset, .unset, .unset, .unset, .unset, .unset] [])) := by
  refine own_iloadN X0 hx hby at_137 (pc' := 138) rfl rfl ?_
  refine own_iconst X0 hx hby at_138 (pc' := 139) rfl (n := (4 : Int32)) (by decide) ?_
  refine own_iushr X0 hx hby at_139 (pc' := 140) rfl ?_
  refine own_iconst X0 hx hby at_140 (pc' := 141) rfl (n := (3 : Int32)) (by decide) ?_
  refine own_iand X0 hx hby at_141 (pc' := 142) rfl ?_
  refine own_istore X0 hx hby at_142 (pc' := 144) rfl (l' := #[.val (.long p0), .second, .val (.int p1), .val (.int p2), .val (.ref d), .val (.int (p2 &&& (3 : Int32))), .val (.int em), .val (.int sd), .val (.int (((p2.toUInt32 >>> ((4 : Int32) &&& 31).toUInt32).toInt32) &&& (3 : Int32))), .unset, .unset, .unset, .unset, .unset, .unset, .unset, .unset]) rfl ?_
  refine own_iloadN X0 hx hby at_144 (pc' := 145) rfl rfl ?_
  refine own_bipush X0 hx hby at_145 (pc' := 147) rfl (n := (6 : Int32)) (by decide) ?_
  refine own_iushr X0 hx hby at_147 (pc' := 148) rfl ?_
  refine own_ldcInt X0 hx hZ hby hown (wd_1 hw) at_148 (pc' := 150) rfl ?_
  refine own_iand X0 hx hby at_150 (pc' := 151) rfl ?_
  refine own_bipush X0 hx hby at_151 (pc' := 153) rfl (n := (52 : Int32)) (by decide) ?_
  refine own_irem X0 hx hby at_153 (pc' := 154) rfl (by decide) ?_
  refine own_istore X0 hx hby at_154 (pc' := 156) rfl (l' := #[.val (.long p0), .second, .val (.int p1), .val (.int p2), .val (.ref d), .val (.int (p2 &&& (3 : Int32))), .val (.int em), .val (.int sd), .val (.int (((p2.toUInt32 >>> ((4 : Int32) &&& 31).toUInt32).toInt32) &&& (3 : Int32))), .val (.int ((((p2.toUInt32 >>> ((6 : Int32) &&& 31).toUInt32).toInt32) &&& (65535 : Int32)) % (52 : Int32))), .unset, .unset, .unset, .unset, .unset, .unset, .unset]) rfl ?_
  refine own_iload X0 hx hby at_156 (pc' := 158) rfl rfl ?_
  refine own_bipush X0 hx hby at_158 (pc' := 160) rfl (n := (26 : Int32)) (by decide) ?_
  refine own_ic2 X0 hx hby at_160 (pc1 := 171) (by decide) (by decide) (pc2 := 163) rfl (fun (hc160 : ¬ ((((p2.toUInt32 >>> ((6 : Int32) &&& 31).toUInt32).toInt32) &&& (65535 : Int32)) % (52 : Int32)) < (26 : Int32)) => ?_) (fun (hc160 : ((((p2.toUInt32 >>> ((6 : Int32) &&& 31).toUInt32).toInt32) &&& (65535 : Int32)) % (52 : Int32)) < (26 : Int32)) => ?_)
  · refine own_bipush X0 hx hby at_171 (pc' := 173) rfl (n := (65 : Int32)) (by decide) ?_
    refine own_iload X0 hx hby at_173 (pc' := 175) rfl rfl ?_
    refine own_iadd X0 hx hby at_175 (pc' := 176) rfl ?_
    refine own_bipush X0 hx hby at_176 (pc' := 178) rfl (n := (26 : Int32)) (by decide) ?_
    refine own_isub X0 hx hby at_178 (pc' := 179) rfl ?_
    refine own_i2b X0 hx hby at_179 (pc' := 180) rfl ?_
    refine own_istore X0 hx hby at_180 (pc' := 182) rfl (l' := #[.val (.long p0), .second, .val (.int p1), .val (.int p2), .val (.ref d), .val (.int (p2 &&& (3 : Int32))), .val (.int em), .val (.int sd), .val (.int (((p2.toUInt32 >>> ((4 : Int32) &&& 31).toUInt32).toInt32) &&& (3 : Int32))), .val (.int ((((p2.toUInt32 >>> ((6 : Int32) &&& 31).toUInt32).toInt32) &&& (65535 : Int32)) % (52 : Int32))), .val (.int ((((65 : Int32) + ((((p2.toUInt32 >>> ((6 : Int32) &&& 31).toUInt32).toInt32) &&& (65535 : Int32)) % (52 : Int32))) - (26 : Int32)).toInt8.toInt32)), .unset, .unset, .unset, .unset, .unset, .unset]) rfl ?_
    exact own_s182 Z a0 hw p0 p1 p2 cs d kk w0 w1 w2 w3 w4 w5 w6 w7 w8 w9 em sd (((p2.toUInt32 >>> ((4 : Int32) &&& 31).toUInt32).toInt32) &&& (3 : Int32)) ((((p2.toUInt32 >>> ((6 : Int32) &&& 31).toUInt32).toInt32) &&& (65535 : Int32)) % (52 : Int32)) ((((65 : Int32) + ((((p2.toUInt32 >>> ((6 : Int32) &&& 31).toUInt32).toInt32) &&& (65535 : Int32)) % (52 : Int32))) - (26 : Int32)).toInt8.toInt32)  h0 n0 h1 (own_mono X0 (by decide) (by decide)) hx hby hlk hml hown hret hZ e1 N0 Z1 hS hSn  f_V_d ge_d f_S_java_lang_String_COMPACT_STRINGS hcs hem hsd (own_nbB _ (own_let _) hc160)
  · refine own_bipush X0 hx hby at_163 (pc' := 165) rfl (n := (97 : Int32)) (by decide) ?_
    refine own_iload X0 hx hby at_165 (pc' := 167) rfl rfl ?_
    refine own_iadd X0 hx hby at_167 (pc' := 168) rfl ?_
    refine own_goto X0 hx hby at_168 (pc' := 179) (by decide) (by decide) ?_
    refine own_i2b X0 hx hby at_179 (pc' := 180) rfl ?_
    refine own_istore X0 hx hby at_180 (pc' := 182) rfl (l' := #[.val (.long p0), .second, .val (.int p1), .val (.int p2), .val (.ref d), .val (.int (p2 &&& (3 : Int32))), .val (.int em), .val (.int sd), .val (.int (((p2.toUInt32 >>> ((4 : Int32) &&& 31).toUInt32).toInt32) &&& (3 : Int32))), .val (.int ((((p2.toUInt32 >>> ((6 : Int32) &&& 31).toUInt32).toInt32) &&& (65535 : Int32)) % (52 : Int32))), .val (.int (((97 : Int32) + ((((p2.toUInt32 >>> ((6 : Int32) &&& 31).toUInt32).toInt32) &&& (65535 : Int32)) % (52 : Int32))).toInt8.toInt32)), .unset, .unset, .unset, .unset, .unset, .unset]) rfl ?_
    exact own_s182 Z a0 hw p0 p1 p2 cs d kk w0 w1 w2 w3 w4 w5 w6 w7 w8 w9 em sd (((p2.toUInt32 >>> ((4 : Int32) &&& 31).toUInt32).toInt32) &&& (3 : Int32)) ((((p2.toUInt32 >>> ((6 : Int32) &&& 31).toUInt32).toInt32) &&& (65535 : Int32)) % (52 : Int32)) (((97 : Int32) + ((((p2.toUInt32 >>> ((6 : Int32) &&& 31).toUInt32).toInt32) &&& (65535 : Int32)) % (52 : Int32))).toInt8.toInt32)  h0 n0 h1 (own_mono X0 (by decide) (by decide)) hx hby hlk hml hown hret hZ e1 N0 Z1 hS hSn  f_V_d ge_d f_S_java_lang_String_COMPACT_STRINGS hcs hem hsd (own_nbA _ (own_let _) hc160)
set_option maxRecDepth 65536 in
set_option maxHeartbeats 40000000 in
theorem own_s122 {p : Program} {l : Launch} {e : Env} {s : State} {vm0 : Vm} {kS : Nat} {m : MethodId} {below : List Frame} {meth : Method} {c : Code} {T0 : State} {locs : List Loc} (Z : State) (a0 : Array Value) (hw : ∀ d ∈ tables_1, d.before a0 Z = true) (p0 : Int64) (p1 : Int32) (p2 : Int32) (cs : Int32) (d : Addr) (kk : ClassId) (w0 : Value) (w1 : Value) (w2 : Value) (w3 : Value) (w4 : Value) (w5 : Value) (w6 : Value) (w7 : Value) (w8 : Value) (w9 : Value) (em : Int32) (h0 : Heap) (n0 : Nat) (h1 : Heap)
    (X0 : Stand p l e room_1 (s.setVm vm0) m #[(.long p0), (.int p1), (.int p2)] below meth c T0 locs 1 10) (hx : p.tables.exec = Jvm.exec) (hby : c.code = code) (hlk : meth.locks = false) (hml : c.maxLocals = 17) (hown : (s.setVm vm0).vm.findClass "com/example/halyard/halyard/base/XmlSliceStartTagClosePinLaw" = some m.cls) (hret : meth.sig.returnType = some .boolean) (hZ : Z.Warmed39 (s.setVm vm0).vm) (e1 : T0.heap = h1) (N0 : Fr n0 locs) (Z1 : n0 ≤ h1.size) (hS : s.Since vm0 kS) (hSn : kS ≤ h1.size) (f_V_d : Arv Z h1 d kk .byte (10 : Int32) [w0, w1, w2, w3, w4, w5, w6, w7, w8, w9] (.int (0 : Int32))) (ge_d : n0 ≤ d) (f_S_java_lang_String_COMPACT_STRINGS : Sta Z h1 "java/lang/String" "COMPACT_STRINGS" "Z" (.int cs)) (hcs : ¬ cs = (0 : Int32)) (hem : em = (0 : Int32) ∨ em = (1 : Int32)) :
    own_End p e below (own_FS s (Q0 Z p0 p1 p2 cs h0 n0) room_1.cells room_1.slots) (T0.setTop (mkF m 122 #[.val (.long p0), .second, .val (.int p1), .val (.int p2), .val (.ref d), .val (.int (p2 &&& (3 : Int32))), .val (.int em), .unset, .unset, .unset, .unset, .unset, .unset, .unset, .unset, .unset, .unset] [])) := by
  refine own_iloadN X0 hx hby at_122 (pc' := 123) rfl rfl ?_
  refine own_iconst X0 hx hby at_123 (pc' := 124) rfl (n := (3 : Int32)) (by decide) ?_
  refine own_iushr X0 hx hby at_124 (pc' := 125) rfl ?_
  refine own_iconst X0 hx hby at_125 (pc' := 126) rfl (n := (1 : Int32)) (by decide) ?_
  refine own_iand X0 hx hby at_126 (pc' := 127) rfl ?_
  refine own_if2 X0 hx hby at_127 (pc1 := 134) (by decide) (by decide) (pc2 := 130) rfl (fun (hc127 : (((p2.toUInt32 >>> ((3 : Int32) &&& 31).toUInt32).toInt32) &&& (1 : Int32)) = (0 : Int32)) => ?_) (fun (hc127 : ¬ (((p2.toUInt32 >>> ((3 : Int32) &&& 31).toUInt32).toInt32) &&& (1 : Int32)) = (0 : Int32)) => ?_)
  · refine own_iconst X0 hx hby at_134 (pc' := 135) rfl (n := (0 : Int32)) (by decide) ?_
    refine own_istore X0 hx hby at_135 (pc' := 137) rfl (l' := #[.val (.long p0), .second, .val (.int p1), .val (.int p2), .val (.ref d), .val (.int (p2 &&& (3 : Int32))), .val (.int em), .val (.int (0 : Int32)), .unset, .unset, .unset, .unset, .unset, .unset, .unset, .unset, .unset]) rfl ?_
    exact own_s137 Z a0 hw p0 p1 p2 cs d kk w0 w1 w2 w3 w4 w5 w6 w7 w8 w9 em (0 : Int32)  h0 n0 h1 (own_mono X0 (by decide) (by decide)) hx hby hlk hml hown hret hZ e1 N0 Z1 hS hSn  f_V_d ge_d f_S_java_lang_String_COMPACT_STRINGS hcs hem (Or.inl rfl)
  · refine own_iconst X0 hx hby at_130 (pc' := 131) rfl (n := (1 : Int32)) (by decide) ?_
    refine own_goto X0 hx hby at_131 (pc' := 135) (by decide) (by decide) ?_
    refine own_istore X0 hx hby at_135 (pc' := 137) rfl (l' := #[.val (.long p0), .second, .val (.int p1), .val (.int p2), .val (.ref d), .val (.int (p2 &&& (3 : Int32))), .val (.int em), .val (.int (1 : Int32)), .unset, .unset, .unset, .unset, .unset, .unset, .unset, .unset, .unset]) rfl ?_
    exact own_s137 Z a0 hw p0 p1 p2 cs d kk w0 w1 w2 w3 w4 w5 w6 w7 w8 w9 em (1 : Int32)  h0 n0 h1 (own_mono X0 (by decide) (by decide)) hx hby hlk hml hown hret hZ e1 N0 Z1 hS hSn  f_V_d ge_d f_S_java_lang_String_COMPACT_STRINGS hcs hem (Or.inr rfl)
set_option maxRecDepth 65536 in
set_option maxHeartbeats 40000000 in
theorem rm0 (l : Launch) (Z : State) (a0 : Array Value) (hw : ∀ d ∈ tables_1, d.before a0 Z = true) (ws : List Jvm.Cond) (p0 : Int64) (p1 : Int32) (p2 : Int32) (cs : Int32) (h0 : Heap) (n0 : Nat) (Z0 : n0 ≤ h0.size) (f_S_java_lang_String_COMPACT_STRINGS : Sta Z h0 "java/lang/String" "COMPACT_STRINGS" "Z" (.int cs)) (hcs : ¬ cs = (0 : Int32)) :
    MetFree l x (head1 (Jvm.Cond.code x code maxLocals ret :: ws) room_1) (fun aa U => aa = #[(.long p0), (.int p1), (.int p2)] ∧ Z.Warmed39 U.vm ∧ U.heap = h0) (fun _ _ _ _ _ => True) (fun _ U oc U' => ∃ v L, oc = .returned v ∧ Q0 Z p0 p1 p2 cs h0 n0 v U'.heap L ∧ ReturnedEndW U oc U' L room_1.cells room_1.slots) := by
  refine MetFree.of_bodySF (plainFor_of_name own_pn13) hisR ?_
  intro p e s m args below meth c s₁ Bd hml0 hP hK
  obtain ⟨rfl, hZ, hh⟩ := hP
  have hx := Bd.exec
  have hby := Bd.bytes
  have hlk := Bd.notSynchronized
  have hret := Bd.returns
  have hml : c.maxLocals = 17 := hml0
  have hown : s.vm.findClass "com/example/halyard/halyard/base/XmlSliceStartTagClosePinLaw" = some m.cls := findClass_of_methodNamed Bd.named
  have hnm := (name_of_methodNamed Bd.named Bd.method).1
  have X0 : Stand p l e room_1 s m #[(.long p0), (.int p1), (.int p2)] below meth c s₁ [] 0 0 := Stand.of_body Bd
  have e0 : s₁.heap = h0 := by rw [← hh, Bd.state]; rfl
  have N0 := Fr.nil n0
  refine own_bodyS (Q := Q0 Z p0 p1 p2 cs h0 n0) (KC := room_1.cells) (KS := room_1.slots) ?_
  rw [own_ef_rm0 m p0 p1 p2]
  have X0 : Stand p l e room_1 (s.setVm s.vm) m #[(.long p0), (.int p1), (.int p2)] below meth c s₁ [] 0 0 := X0
  have hS : s.Since s.vm h0.size := (State.WarmedH.refl s).since _
  have hSn : h0.size ≤ h0.size := Nat.le_refl _
  refine own_bipush X0 hx hby at_0 (pc' := 2) rfl (n := (10 : Int32)) (by decide) ?_
  refine own_newP (aty := .byte) X0 hx hZ hby (wd_0 hw) e0 at_2 (pc' := 4) rfl (by decide) (cap := 10) (by decide) (by decide) (by decide) (by decide) (fun T293 h293 k293 b293 g293 X293 e293 E293 A293 => ?_)
  have ge_b293 : n0 ≤ b293 := by rw [g293]; exact Z0
  have f_S_java_lang_String_COMPACT_STRINGS := f_S_java_lang_String_COMPACT_STRINGS.ext E293
  have Zn := Nat.le_trans Z0 E293.1
  have hSn := Nat.le_trans hSn E293.1
  have f_V_b293 : Arv Z h293 b293 k293 .byte (10 : Int32) [(.int (0 : Int32)), (.int (0 : Int32)), (.int (0 : Int32)), (.int (0 : Int32)), (.int (0 : Int32)), (.int (0 : Int32)), (.int (0 : Int32)), (.int (0 : Int32)), (.int (0 : Int32)), (.int (0 : Int32))] (.int (0 : Int32)) := (Arv.new A293 (by decide)).pad (pad_rep [] (.int (0 : Int32)) 10)
  refine own_astore X293 hx hby at_4 (pc' := 6) rfl rfl (l' := #[.val (.long p0), .second, .val (.int p1), .val (.int p2), .val (.ref b293), .unset, .unset, .unset, .unset, .unset, .unset, .unset, .unset, .unset, .unset, .unset, .unset]) rfl ?_
  refine own_aload X293 hx hby at_6 (pc' := 8) rfl rfl rfl ?_
  refine own_iconst X293 hx hby at_8 (pc' := 9) rfl (n := (0 : Int32)) (by decide) ?_
  refine own_lloadN X293 hx hby at_9 (pc' := 10) rfl rfl ?_
  refine own_l2i X293 hx hby at_10 (pc' := 11) rfl ?_
  refine own_i2b X293 hx hby at_11 (pc' := 12) rfl ?_
  obtain ⟨cl294, Ar294, q294, S294, M294, H294, G294⟩ := id f_V_b293
  have hin294 : ¬ ((0 : Int32) < 0 ∨ cl294.slots.size ≤ ((0 : Int32)).toNatClampNeg) := inb_of S294 ⟨by decide, by decide⟩
  refine own_bastore X293 hx hZ hby e293 Ar294 hin294 at_12 (pc' := 13) rfl (fun T295 h295 X295 e295 W295 => ?_)
  have f_V_b293 := Arv.set Ar294 q294 S294 M294 H294 G294 (fits_nar_byte _) W295 0 rfl (Nat.le_of_ble_eq_true rfl)
  have f_V_b293 : Arv Z h295 b293 k293 .byte (10 : Int32) [(.int (((p0.toInt32).toInt8.toInt32).toInt8.toInt32)), (.int (0 : Int32)), (.int (0 : Int32)), (.int (0 : Int32)), (.int (0 : Int32)), (.int (0 : Int32)), (.int (0 : Int32)), (.int (0 : Int32)), (.int (0 : Int32)), (.int (0 : Int32))] (.int (0 : Int32)) := f_V_b293
  rw [own_b8 (p0.toInt32)] at f_V_b293
  have f_S_java_lang_String_COMPACT_STRINGS := f_S_java_lang_String_COMPACT_STRINGS.wr W295
  have Zn := Nat.le_trans Zn (Keep.of_wr W295).1
  have hSn := Nat.le_trans hSn (Keep.of_wr W295).1
  have N295 := Fr.snoc X295 N0 ge_b293
  refine own_aload X295 hx hby at_13 (pc' := 15) rfl rfl rfl ?_
  refine own_iconst X295 hx hby at_15 (pc' := 16) rfl (n := (1 : Int32)) (by decide) ?_
  refine own_lloadN X295 hx hby at_16 (pc' := 17) rfl rfl ?_
  refine own_bipush X295 hx hby at_17 (pc' := 19) rfl (n := (8 : Int32)) (by decide) ?_
  refine own_lushr X295 hx hby at_19 (pc' := 20) rfl ?_
  refine own_l2i X295 hx hby at_20 (pc' := 21) rfl ?_
  refine own_i2b X295 hx hby at_21 (pc' := 22) rfl ?_
  obtain ⟨cl296, Ar296, q296, S296, M296, H296, G296⟩ := id f_V_b293
  have hin296 : ¬ ((1 : Int32) < 0 ∨ cl296.slots.size ≤ ((1 : Int32)).toNatClampNeg) := inb_of S296 ⟨by decide, by decide⟩
  refine own_bastore X295 hx hZ hby e295 Ar296 hin296 at_22 (pc' := 23) rfl (fun T297 h297 X297 e297 W297 => ?_)
  have f_V_b293 := Arv.set Ar296 q296 S296 M296 H296 G296 (fits_nar_byte _) W297 1 rfl (Nat.le_of_ble_eq_true rfl)
  have f_V_b293 : Arv Z h297 b293 k293 .byte (10 : Int32) [(.int ((p0.toInt32).toInt8.toInt32)), (.int (((((p0.toUInt64 >>> ((8 : Int32) &&& 0x3f).toInt64.toUInt64).toInt64).toInt32).toInt8.toInt32).toInt8.toInt32)), (.int (0 : Int32)), (.int (0 : Int32)), (.int (0 : Int32)), (.int (0 : Int32)), (.int (0 : Int32)), (.int (0 : Int32)), (.int (0 : Int32)), (.int (0 : Int32))] (.int (0 : Int32)) := f_V_b293
  rw [own_b8 (((p0.toUInt64 >>> ((8 : Int32) &&& 0x3f).toInt64.toUInt64).toInt64).toInt32)] at f_V_b293
  have f_S_java_lang_String_COMPACT_STRINGS := f_S_java_lang_String_COMPACT_STRINGS.wr W297
  have Zn := Nat.le_trans Zn (Keep.of_wr W297).1
  have hSn := Nat.le_trans hSn (Keep.of_wr W297).1
  have N297 := Fr.snoc X297 N295 ge_b293
  refine own_aload X297 hx hby at_23 (pc' := 25) rfl rfl rfl ?_
  refine own_iconst X297 hx hby at_25 (pc' := 26) rfl (n := (2 : Int32)) (by decide) ?_
  refine own_lloadN X297 hx hby at_26 (pc' := 27) rfl rfl ?_
  refine own_bipush X297 hx hby at_27 (pc' := 29) rfl (n := (16 : Int32)) (by decide) ?_
  refine own_lushr X297 hx hby at_29 (pc' := 30) rfl ?_
  refine own_l2i X297 hx hby at_30 (pc' := 31) rfl ?_
  refine own_i2b X297 hx hby at_31 (pc' := 32) rfl ?_
  obtain ⟨cl298, Ar298, q298, S298, M298, H298, G298⟩ := id f_V_b293
  have hin298 : ¬ ((2 : Int32) < 0 ∨ cl298.slots.size ≤ ((2 : Int32)).toNatClampNeg) := inb_of S298 ⟨by decide, by decide⟩
  refine own_bastore X297 hx hZ hby e297 Ar298 hin298 at_32 (pc' := 33) rfl (fun T299 h299 X299 e299 W299 => ?_)
  have f_V_b293 := Arv.set Ar298 q298 S298 M298 H298 G298 (fits_nar_byte _) W299 2 rfl (Nat.le_of_ble_eq_true rfl)
  have f_V_b293 : Arv Z h299 b293 k293 .byte (10 : Int32) [(.int ((p0.toInt32).toInt8.toInt32)), (.int ((((p0.toUInt64 >>> ((8 : Int32) &&& 0x3f).toInt64.toUInt64).toInt64).toInt32).toInt8.toInt32)), (.int (((((p0.toUInt64 >>> ((16 : Int32) &&& 0x3f).toInt64.toUInt64).toInt64).toInt32).toInt8.toInt32).toInt8.toInt32)), (.int (0 : Int32)), (.int (0 : Int32)), (.int (0 : Int32)), (.int (0 : Int32)), (.int (0 : Int32)), (.int (0 : Int32)), (.int (0 : Int32))] (.int (0 : Int32)) := f_V_b293
  rw [own_b8 (((p0.toUInt64 >>> ((16 : Int32) &&& 0x3f).toInt64.toUInt64).toInt64).toInt32)] at f_V_b293
  have f_S_java_lang_String_COMPACT_STRINGS := f_S_java_lang_String_COMPACT_STRINGS.wr W299
  have Zn := Nat.le_trans Zn (Keep.of_wr W299).1
  have hSn := Nat.le_trans hSn (Keep.of_wr W299).1
  have N299 := Fr.snoc X299 N297 ge_b293
  refine own_aload X299 hx hby at_33 (pc' := 35) rfl rfl rfl ?_
  refine own_iconst X299 hx hby at_35 (pc' := 36) rfl (n := (3 : Int32)) (by decide) ?_
  refine own_lloadN X299 hx hby at_36 (pc' := 37) rfl rfl ?_
  refine own_bipush X299 hx hby at_37 (pc' := 39) rfl (n := (24 : Int32)) (by decide) ?_
  refine own_lushr X299 hx hby at_39 (pc' := 40) rfl ?_
  refine own_l2i X299 hx hby at_40 (pc' := 41) rfl ?_
  refine own_i2b X299 hx hby at_41 (pc' := 42) rfl ?_
  obtain ⟨cl300, Ar300, q300, S300, M300, H300, G300⟩ := id f_V_b293
  have hin300 : ¬ ((3 : Int32) < 0 ∨ cl300.slots.size ≤ ((3 : Int32)).toNatClampNeg) := inb_of S300 ⟨by decide, by decide⟩
  refine own_bastore X299 hx hZ hby e299 Ar300 hin300 at_42 (pc' := 43) rfl (fun T301 h301 X301 e301 W301 => ?_)
  have f_V_b293 := Arv.set Ar300 q300 S300 M300 H300 G300 (fits_nar_byte _) W301 3 rfl (Nat.le_of_ble_eq_true rfl)
  have f_V_b293 : Arv Z h301 b293 k293 .byte (10 : Int32) [(.int ((p0.toInt32).toInt8.toInt32)), (.int ((((p0.toUInt64 >>> ((8 : Int32) &&& 0x3f).toInt64.toUInt64).toInt64).toInt32).toInt8.toInt32)), (.int ((((p0.toUInt64 >>> ((16 : Int32) &&& 0x3f).toInt64.toUInt64).toInt64).toInt32).toInt8.toInt32)), (.int (((((p0.toUInt64 >>> ((24 : Int32) &&& 0x3f).toInt64.toUInt64).toInt64).toInt32).toInt8.toInt32).toInt8.toInt32)), (.int (0 : Int32)), (.int (0 : Int32)), (.int (0 : Int32)), (.int (0 : Int32)), (.int (0 : Int32)), (.int (0 : Int32))] (.int (0 : Int32)) := f_V_b293
  rw [own_b8 (((p0.toUInt64 >>> ((24 : Int32) &&& 0x3f).toInt64.toUInt64).toInt64).toInt32)] at f_V_b293
  have f_S_java_lang_String_COMPACT_STRINGS := f_S_java_lang_String_COMPACT_STRINGS.wr W301
  have Zn := Nat.le_trans Zn (Keep.of_wr W301).1
  have hSn := Nat.le_trans hSn (Keep.of_wr W301).1
  have N301 := Fr.snoc X301 N299 ge_b293
  refine own_aload X301 hx hby at_43 (pc' := 45) rfl rfl rfl ?_
  refine own_iconst X301 hx hby at_45 (pc' := 46) rfl (n := (4 : Int32)) (by decide) ?_
  refine own_lloadN X301 hx hby at_46 (pc' := 47) rfl rfl ?_
  refine own_bipush X301 hx hby at_47 (pc' := 49) rfl (n := (32 : Int32)) (by decide) ?_
  refine own_lushr X301 hx hby at_49 (pc' := 50) rfl ?_
  refine own_l2i X301 hx hby at_50 (pc' := 51) rfl ?_
  refine own_i2b X301 hx hby at_51 (pc' := 52) rfl ?_
  obtain ⟨cl302, Ar302, q302, S302, M302, H302, G302⟩ := id f_V_b293
  have hin302 : ¬ ((4 : Int32) < 0 ∨ cl302.slots.size ≤ ((4 : Int32)).toNatClampNeg) := inb_of S302 ⟨by decide, by decide⟩
  refine own_bastore X301 hx hZ hby e301 Ar302 hin302 at_52 (pc' := 53) rfl (fun T303 h303 X303 e303 W303 => ?_)
  have f_V_b293 := Arv.set Ar302 q302 S302 M302 H302 G302 (fits_nar_byte _) W303 4 rfl (Nat.le_of_ble_eq_true rfl)
  have f_V_b293 : Arv Z h303 b293 k293 .byte (10 : Int32) [(.int ((p0.toInt32).toInt8.toInt32)), (.int ((((p0.toUInt64 >>> ((8 : Int32) &&& 0x3f).toInt64.toUInt64).toInt64).toInt32).toInt8.toInt32)), (.int ((((p0.toUInt64 >>> ((16 : Int32) &&& 0x3f).toInt64.toUInt64).toInt64).toInt32).toInt8.toInt32)), (.int ((((p0.toUInt64 >>> ((24 : Int32) &&& 0x3f).toInt64.toUInt64).toInt64).toInt32).toInt8.toInt32)), (.int (((((p0.toUInt64 >>> ((32 : Int32) &&& 0x3f).toInt64.toUInt64).toInt64).toInt32).toInt8.toInt32).toInt8.toInt32)), (.int (0 : Int32)), (.int (0 : Int32)), (.int (0 : Int32)), (.int (0 : Int32)), (.int (0 : Int32))] (.int (0 : Int32)) := f_V_b293
  rw [own_b8 (((p0.toUInt64 >>> ((32 : Int32) &&& 0x3f).toInt64.toUInt64).toInt64).toInt32)] at f_V_b293
  have f_S_java_lang_String_COMPACT_STRINGS := f_S_java_lang_String_COMPACT_STRINGS.wr W303
  have Zn := Nat.le_trans Zn (Keep.of_wr W303).1
  have hSn := Nat.le_trans hSn (Keep.of_wr W303).1
  have N303 := Fr.snoc X303 N301 ge_b293
  refine own_aload X303 hx hby at_53 (pc' := 55) rfl rfl rfl ?_
  refine own_iconst X303 hx hby at_55 (pc' := 56) rfl (n := (5 : Int32)) (by decide) ?_
  refine own_lloadN X303 hx hby at_56 (pc' := 57) rfl rfl ?_
  refine own_bipush X303 hx hby at_57 (pc' := 59) rfl (n := (40 : Int32)) (by decide) ?_
  refine own_lushr X303 hx hby at_59 (pc' := 60) rfl ?_
  refine own_l2i X303 hx hby at_60 (pc' := 61) rfl ?_
  refine own_i2b X303 hx hby at_61 (pc' := 62) rfl ?_
  obtain ⟨cl304, Ar304, q304, S304, M304, H304, G304⟩ := id f_V_b293
  have hin304 : ¬ ((5 : Int32) < 0 ∨ cl304.slots.size ≤ ((5 : Int32)).toNatClampNeg) := inb_of S304 ⟨by decide, by decide⟩
  refine own_bastore X303 hx hZ hby e303 Ar304 hin304 at_62 (pc' := 63) rfl (fun T305 h305 X305 e305 W305 => ?_)
  have f_V_b293 := Arv.set Ar304 q304 S304 M304 H304 G304 (fits_nar_byte _) W305 5 rfl (Nat.le_of_ble_eq_true rfl)
  have f_V_b293 : Arv Z h305 b293 k293 .byte (10 : Int32) [(.int ((p0.toInt32).toInt8.toInt32)), (.int ((((p0.toUInt64 >>> ((8 : Int32) &&& 0x3f).toInt64.toUInt64).toInt64).toInt32).toInt8.toInt32)), (.int ((((p0.toUInt64 >>> ((16 : Int32) &&& 0x3f).toInt64.toUInt64).toInt64).toInt32).toInt8.toInt32)), (.int ((((p0.toUInt64 >>> ((24 : Int32) &&& 0x3f).toInt64.toUInt64).toInt64).toInt32).toInt8.toInt32)), (.int ((((p0.toUInt64 >>> ((32 : Int32) &&& 0x3f).toInt64.toUInt64).toInt64).toInt32).toInt8.toInt32)), (.int (((((p0.toUInt64 >>> ((40 : Int32) &&& 0x3f).toInt64.toUInt64).toInt64).toInt32).toInt8.toInt32).toInt8.toInt32)), (.int (0 : Int32)), (.int (0 : Int32)), (.int (0 : Int32)), (.int (0 : Int32))] (.int (0 : Int32)) := f_V_b293
  rw [own_b8 (((p0.toUInt64 >>> ((40 : Int32) &&& 0x3f).toInt64.toUInt64).toInt64).toInt32)] at f_V_b293
  have f_S_java_lang_String_COMPACT_STRINGS := f_S_java_lang_String_COMPACT_STRINGS.wr W305
  have Zn := Nat.le_trans Zn (Keep.of_wr W305).1
  have hSn := Nat.le_trans hSn (Keep.of_wr W305).1
  have N305 := Fr.snoc X305 N303 ge_b293
  refine own_aload X305 hx hby at_63 (pc' := 65) rfl rfl rfl ?_
  refine own_bipush X305 hx hby at_65 (pc' := 67) rfl (n := (6 : Int32)) (by decide) ?_
  refine own_lloadN X305 hx hby at_67 (pc' := 68) rfl rfl ?_
  refine own_bipush X305 hx hby at_68 (pc' := 70) rfl (n := (48 : Int32)) (by decide) ?_
  refine own_lushr X305 hx hby at_70 (pc' := 71) rfl ?_
  refine own_l2i X305 hx hby at_71 (pc' := 72) rfl ?_
  refine own_i2b X305 hx hby at_72 (pc' := 73) rfl ?_
  obtain ⟨cl306, Ar306, q306, S306, M306, H306, G306⟩ := id f_V_b293
  have hin306 : ¬ ((6 : Int32) < 0 ∨ cl306.slots.size ≤ ((6 : Int32)).toNatClampNeg) := inb_of S306 ⟨by decide, by decide⟩
  refine own_bastore X305 hx hZ hby e305 Ar306 hin306 at_73 (pc' := 74) rfl (fun T307 h307 X307 e307 W307 => ?_)
  have f_V_b293 := Arv.set Ar306 q306 S306 M306 H306 G306 (fits_nar_byte _) W307 6 rfl (Nat.le_of_ble_eq_true rfl)
  have f_V_b293 : Arv Z h307 b293 k293 .byte (10 : Int32) [(.int ((p0.toInt32).toInt8.toInt32)), (.int ((((p0.toUInt64 >>> ((8 : Int32) &&& 0x3f).toInt64.toUInt64).toInt64).toInt32).toInt8.toInt32)), (.int ((((p0.toUInt64 >>> ((16 : Int32) &&& 0x3f).toInt64.toUInt64).toInt64).toInt32).toInt8.toInt32)), (.int ((((p0.toUInt64 >>> ((24 : Int32) &&& 0x3f).toInt64.toUInt64).toInt64).toInt32).toInt8.toInt32)), (.int ((((p0.toUInt64 >>> ((32 : Int32) &&& 0x3f).toInt64.toUInt64).toInt64).toInt32).toInt8.toInt32)), (.int ((((p0.toUInt64 >>> ((40 : Int32) &&& 0x3f).toInt64.toUInt64).toInt64).toInt32).toInt8.toInt32)), (.int (((((p0.toUInt64 >>> ((48 : Int32) &&& 0x3f).toInt64.toUInt64).toInt64).toInt32).toInt8.toInt32).toInt8.toInt32)), (.int (0 : Int32)), (.int (0 : Int32)), (.int (0 : Int32))] (.int (0 : Int32)) := f_V_b293
  rw [own_b8 (((p0.toUInt64 >>> ((48 : Int32) &&& 0x3f).toInt64.toUInt64).toInt64).toInt32)] at f_V_b293
  have f_S_java_lang_String_COMPACT_STRINGS := f_S_java_lang_String_COMPACT_STRINGS.wr W307
  have Zn := Nat.le_trans Zn (Keep.of_wr W307).1
  have hSn := Nat.le_trans hSn (Keep.of_wr W307).1
  have N307 := Fr.snoc X307 N305 ge_b293
  refine own_aload X307 hx hby at_74 (pc' := 76) rfl rfl rfl ?_
  refine own_bipush X307 hx hby at_76 (pc' := 78) rfl (n := (7 : Int32)) (by decide) ?_
  refine own_lloadN X307 hx hby at_78 (pc' := 79) rfl rfl ?_
  refine own_bipush X307 hx hby at_79 (pc' := 81) rfl (n := (56 : Int32)) (by decide) ?_
  refine own_lushr X307 hx hby at_81 (pc' := 82) rfl ?_
  refine own_l2i X307 hx hby at_82 (pc' := 83) rfl ?_
  refine own_i2b X307 hx hby at_83 (pc' := 84) rfl ?_
  obtain ⟨cl308, Ar308, q308, S308, M308, H308, G308⟩ := id f_V_b293
  have hin308 : ¬ ((7 : Int32) < 0 ∨ cl308.slots.size ≤ ((7 : Int32)).toNatClampNeg) := inb_of S308 ⟨by decide, by decide⟩
  refine own_bastore X307 hx hZ hby e307 Ar308 hin308 at_84 (pc' := 85) rfl (fun T309 h309 X309 e309 W309 => ?_)
  have f_V_b293 := Arv.set Ar308 q308 S308 M308 H308 G308 (fits_nar_byte _) W309 7 rfl (Nat.le_of_ble_eq_true rfl)
  have f_V_b293 : Arv Z h309 b293 k293 .byte (10 : Int32) [(.int ((p0.toInt32).toInt8.toInt32)), (.int ((((p0.toUInt64 >>> ((8 : Int32) &&& 0x3f).toInt64.toUInt64).toInt64).toInt32).toInt8.toInt32)), (.int ((((p0.toUInt64 >>> ((16 : Int32) &&& 0x3f).toInt64.toUInt64).toInt64).toInt32).toInt8.toInt32)), (.int ((((p0.toUInt64 >>> ((24 : Int32) &&& 0x3f).toInt64.toUInt64).toInt64).toInt32).toInt8.toInt32)), (.int ((((p0.toUInt64 >>> ((32 : Int32) &&& 0x3f).toInt64.toUInt64).toInt64).toInt32).toInt8.toInt32)), (.int ((((p0.toUInt64 >>> ((40 : Int32) &&& 0x3f).toInt64.toUInt64).toInt64).toInt32).toInt8.toInt32)), (.int ((((p0.toUInt64 >>> ((48 : Int32) &&& 0x3f).toInt64.toUInt64).toInt64).toInt32).toInt8.toInt32)), (.int (((((p0.toUInt64 >>> ((56 : Int32) &&& 0x3f).toInt64.toUInt64).toInt64).toInt32).toInt8.toInt32).toInt8.toInt32)), (.int (0 : Int32)), (.int (0 : Int32))] (.int (0 : Int32)) := f_V_b293
  rw [own_b8 (((p0.toUInt64 >>> ((56 : Int32) &&& 0x3f).toInt64.toUInt64).toInt64).toInt32)] at f_V_b293
  have f_S_java_lang_String_COMPACT_STRINGS := f_S_java_lang_String_COMPACT_STRINGS.wr W309
  have Zn := Nat.le_trans Zn (Keep.of_wr W309).1
  have hSn := Nat.le_trans hSn (Keep.of_wr W309).1
  have N309 := Fr.snoc X309 N307 ge_b293
  refine own_aload X309 hx hby at_85 (pc' := 87) rfl rfl rfl ?_
  refine own_bipush X309 hx hby at_87 (pc' := 89) rfl (n := (8 : Int32)) (by decide) ?_
  refine own_iloadN X309 hx hby at_89 (pc' := 90) rfl rfl ?_
  refine own_i2b X309 hx hby at_90 (pc' := 91) rfl ?_
  obtain ⟨cl310, Ar310, q310, S310, M310, H310, G310⟩ := id f_V_b293
  have hin310 : ¬ ((8 : Int32) < 0 ∨ cl310.slots.size ≤ ((8 : Int32)).toNatClampNeg) := inb_of S310 ⟨by decide, by decide⟩
  refine own_bastore X309 hx hZ hby e309 Ar310 hin310 at_91 (pc' := 92) rfl (fun T311 h311 X311 e311 W311 => ?_)
  have f_V_b293 := Arv.set Ar310 q310 S310 M310 H310 G310 (fits_nar_byte _) W311 8 rfl (Nat.le_of_ble_eq_true rfl)
  have f_V_b293 : Arv Z h311 b293 k293 .byte (10 : Int32) [(.int ((p0.toInt32).toInt8.toInt32)), (.int ((((p0.toUInt64 >>> ((8 : Int32) &&& 0x3f).toInt64.toUInt64).toInt64).toInt32).toInt8.toInt32)), (.int ((((p0.toUInt64 >>> ((16 : Int32) &&& 0x3f).toInt64.toUInt64).toInt64).toInt32).toInt8.toInt32)), (.int ((((p0.toUInt64 >>> ((24 : Int32) &&& 0x3f).toInt64.toUInt64).toInt64).toInt32).toInt8.toInt32)), (.int ((((p0.toUInt64 >>> ((32 : Int32) &&& 0x3f).toInt64.toUInt64).toInt64).toInt32).toInt8.toInt32)), (.int ((((p0.toUInt64 >>> ((40 : Int32) &&& 0x3f).toInt64.toUInt64).toInt64).toInt32).toInt8.toInt32)), (.int ((((p0.toUInt64 >>> ((48 : Int32) &&& 0x3f).toInt64.toUInt64).toInt64).toInt32).toInt8.toInt32)), (.int ((((p0.toUInt64 >>> ((56 : Int32) &&& 0x3f).toInt64.toUInt64).toInt64).toInt32).toInt8.toInt32)), (.int ((p1.toInt8.toInt32).toInt8.toInt32)), (.int (0 : Int32))] (.int (0 : Int32)) := f_V_b293
  rw [own_b8 p1] at f_V_b293
  have f_S_java_lang_String_COMPACT_STRINGS := f_S_java_lang_String_COMPACT_STRINGS.wr W311
  have Zn := Nat.le_trans Zn (Keep.of_wr W311).1
  have hSn := Nat.le_trans hSn (Keep.of_wr W311).1
  have N311 := Fr.snoc X311 N309 ge_b293
  refine own_aload X311 hx hby at_92 (pc' := 94) rfl rfl rfl ?_
  refine own_bipush X311 hx hby at_94 (pc' := 96) rfl (n := (9 : Int32)) (by decide) ?_
  refine own_iloadN X311 hx hby at_96 (pc' := 97) rfl rfl ?_
  refine own_bipush X311 hx hby at_97 (pc' := 99) rfl (n := (8 : Int32)) (by decide) ?_
  refine own_iushr X311 hx hby at_99 (pc' := 100) rfl ?_
  refine own_i2b X311 hx hby at_100 (pc' := 101) rfl ?_
  obtain ⟨cl312, Ar312, q312, S312, M312, H312, G312⟩ := id f_V_b293
  have hin312 : ¬ ((9 : Int32) < 0 ∨ cl312.slots.size ≤ ((9 : Int32)).toNatClampNeg) := inb_of S312 ⟨by decide, by decide⟩
  refine own_bastore X311 hx hZ hby e311 Ar312 hin312 at_101 (pc' := 102) rfl (fun T313 h313 X313 e313 W313 => ?_)
  have f_V_b293 := Arv.set Ar312 q312 S312 M312 H312 G312 (fits_nar_byte _) W313 9 rfl (Nat.le_of_ble_eq_true rfl)
  have f_V_b293 : Arv Z h313 b293 k293 .byte (10 : Int32) [(.int ((p0.toInt32).toInt8.toInt32)), (.int ((((p0.toUInt64 >>> ((8 : Int32) &&& 0x3f).toInt64.toUInt64).toInt64).toInt32).toInt8.toInt32)), (.int ((((p0.toUInt64 >>> ((16 : Int32) &&& 0x3f).toInt64.toUInt64).toInt64).toInt32).toInt8.toInt32)), (.int ((((p0.toUInt64 >>> ((24 : Int32) &&& 0x3f).toInt64.toUInt64).toInt64).toInt32).toInt8.toInt32)), (.int ((((p0.toUInt64 >>> ((32 : Int32) &&& 0x3f).toInt64.toUInt64).toInt64).toInt32).toInt8.toInt32)), (.int ((((p0.toUInt64 >>> ((40 : Int32) &&& 0x3f).toInt64.toUInt64).toInt64).toInt32).toInt8.toInt32)), (.int ((((p0.toUInt64 >>> ((48 : Int32) &&& 0x3f).toInt64.toUInt64).toInt64).toInt32).toInt8.toInt32)), (.int ((((p0.toUInt64 >>> ((56 : Int32) &&& 0x3f).toInt64.toUInt64).toInt64).toInt32).toInt8.toInt32)), (.int (p1.toInt8.toInt32)), (.int ((((p1.toUInt32 >>> ((8 : Int32) &&& 31).toUInt32).toInt32).toInt8.toInt32).toInt8.toInt32))] (.int (0 : Int32)) := f_V_b293
  rw [own_b8 ((p1.toUInt32 >>> ((8 : Int32) &&& 31).toUInt32).toInt32)] at f_V_b293
  have f_S_java_lang_String_COMPACT_STRINGS := f_S_java_lang_String_COMPACT_STRINGS.wr W313
  have Zn := Nat.le_trans Zn (Keep.of_wr W313).1
  have hSn := Nat.le_trans hSn (Keep.of_wr W313).1
  have N313 := Fr.snoc X313 N311 ge_b293
  refine own_iloadN X313 hx hby at_102 (pc' := 103) rfl rfl ?_
  refine own_iconst X313 hx hby at_103 (pc' := 104) rfl (n := (3 : Int32)) (by decide) ?_
  refine own_iand X313 hx hby at_104 (pc' := 105) rfl ?_
  refine own_istore X313 hx hby at_105 (pc' := 107) rfl (l' := #[.val (.long p0), .second, .val (.int p1), .val (.int p2), .val (.ref b293), .val (.int (p2 &&& (3 : Int32))), .unset, .unset, .unset, .unset, .unset, .unset, .unset, .unset, .unset, .unset, .unset]) rfl ?_
  refine own_iloadN X313 hx hby at_107 (pc' := 108) rfl rfl ?_
  refine own_iconst X313 hx hby at_108 (pc' := 109) rfl (n := (2 : Int32)) (by decide) ?_
  refine own_iushr X313 hx hby at_109 (pc' := 110) rfl ?_
  refine own_iconst X313 hx hby at_110 (pc' := 111) rfl (n := (1 : Int32)) (by decide) ?_
  refine own_iand X313 hx hby at_111 (pc' := 112) rfl ?_
  refine own_if2 X313 hx hby at_112 (pc1 := 119) (by decide) (by decide) (pc2 := 115) rfl (fun (hc112 : (((p2.toUInt32 >>> ((2 : Int32) &&& 31).toUInt32).toInt32) &&& (1 : Int32)) = (0 : Int32)) => ?_) (fun (hc112 : ¬ (((p2.toUInt32 >>> ((2 : Int32) &&& 31).toUInt32).toInt32) &&& (1 : Int32)) = (0 : Int32)) => ?_)
  · refine own_iconst X313 hx hby at_119 (pc' := 120) rfl (n := (0 : Int32)) (by decide) ?_
    refine own_istore X313 hx hby at_120 (pc' := 122) rfl (l' := #[.val (.long p0), .second, .val (.int p1), .val (.int p2), .val (.ref b293), .val (.int (p2 &&& (3 : Int32))), .val (.int (0 : Int32)), .unset, .unset, .unset, .unset, .unset, .unset, .unset, .unset, .unset, .unset]) rfl ?_
    exact own_s122 Z a0 hw p0 p1 p2 cs b293 k293 (.int ((p0.toInt32).toInt8.toInt32)) (.int ((((p0.toUInt64 >>> ((8 : Int32) &&& 0x3f).toInt64.toUInt64).toInt64).toInt32).toInt8.toInt32)) (.int ((((p0.toUInt64 >>> ((16 : Int32) &&& 0x3f).toInt64.toUInt64).toInt64).toInt32).toInt8.toInt32)) (.int ((((p0.toUInt64 >>> ((24 : Int32) &&& 0x3f).toInt64.toUInt64).toInt64).toInt32).toInt8.toInt32)) (.int ((((p0.toUInt64 >>> ((32 : Int32) &&& 0x3f).toInt64.toUInt64).toInt64).toInt32).toInt8.toInt32)) (.int ((((p0.toUInt64 >>> ((40 : Int32) &&& 0x3f).toInt64.toUInt64).toInt64).toInt32).toInt8.toInt32)) (.int ((((p0.toUInt64 >>> ((48 : Int32) &&& 0x3f).toInt64.toUInt64).toInt64).toInt32).toInt8.toInt32)) (.int ((((p0.toUInt64 >>> ((56 : Int32) &&& 0x3f).toInt64.toUInt64).toInt64).toInt32).toInt8.toInt32)) (.int (p1.toInt8.toInt32)) (.int (((p1.toUInt32 >>> ((8 : Int32) &&& 31).toUInt32).toInt32).toInt8.toInt32)) (0 : Int32)  h0 n0 h313 (own_mono X313 (by decide) (by decide)) hx hby hlk hml hown hret hZ e313 N313 Zn hS hSn  f_V_b293 ge_b293 f_S_java_lang_String_COMPACT_STRINGS hcs (Or.inl rfl)
  · refine own_iconst X313 hx hby at_115 (pc' := 116) rfl (n := (1 : Int32)) (by decide) ?_
    refine own_goto X313 hx hby at_116 (pc' := 120) (by decide) (by decide) ?_
    refine own_istore X313 hx hby at_120 (pc' := 122) rfl (l' := #[.val (.long p0), .second, .val (.int p1), .val (.int p2), .val (.ref b293), .val (.int (p2 &&& (3 : Int32))), .val (.int (1 : Int32)), .unset, .unset, .unset, .unset, .unset, .unset, .unset, .unset, .unset, .unset]) rfl ?_
    exact own_s122 Z a0 hw p0 p1 p2 cs b293 k293 (.int ((p0.toInt32).toInt8.toInt32)) (.int ((((p0.toUInt64 >>> ((8 : Int32) &&& 0x3f).toInt64.toUInt64).toInt64).toInt32).toInt8.toInt32)) (.int ((((p0.toUInt64 >>> ((16 : Int32) &&& 0x3f).toInt64.toUInt64).toInt64).toInt32).toInt8.toInt32)) (.int ((((p0.toUInt64 >>> ((24 : Int32) &&& 0x3f).toInt64.toUInt64).toInt64).toInt32).toInt8.toInt32)) (.int ((((p0.toUInt64 >>> ((32 : Int32) &&& 0x3f).toInt64.toUInt64).toInt64).toInt32).toInt8.toInt32)) (.int ((((p0.toUInt64 >>> ((40 : Int32) &&& 0x3f).toInt64.toUInt64).toInt64).toInt32).toInt8.toInt32)) (.int ((((p0.toUInt64 >>> ((48 : Int32) &&& 0x3f).toInt64.toUInt64).toInt64).toInt32).toInt8.toInt32)) (.int ((((p0.toUInt64 >>> ((56 : Int32) &&& 0x3f).toInt64.toUInt64).toInt64).toInt32).toInt8.toInt32)) (.int (p1.toInt8.toInt32)) (.int (((p1.toUInt32 >>> ((8 : Int32) &&& 31).toUInt32).toInt32).toInt8.toInt32)) (1 : Int32)  h0 n0 h313 (own_mono X313 (by decide) (by decide)) hx hby hlk hml hown hret hZ e313 N313 Zn hS hSn  f_V_b293 ge_b293 f_S_java_lang_String_COMPACT_STRINGS hcs (Or.inr rfl)
set_option maxRecDepth 65536 in
set_option maxHeartbeats 40000000 in
theorem comes_1 {Post : Tables → Env → Array Value → State → Outcome → State → Prop} (hpost : ∀ tb e args s v u, (limb_1_1.after args s (.returned v) u = true ∧ limb_1_2.after args s (.returned v) u = true ∧ True) → ReturnedEndW s (.returned v) u (Jvm.fieldLocs frame_1_writes args s ++ Jvm.arrayLocs frame_1_arrays args s ++ Jvm.staticLocs frame_1_statics s) 24 1152 → Post tb e args s (.returned v) u) :
    ArmFor flags0 classFile x code maxLocals ret World_1 tables_1 room_1 Calls_1 rest_1 Pre_1 Post := by
  intro l hfl _ _ p e ha hc hk s m args below hf hA hF happ hP
  obtain ⟨hcalls, hrest, hpre⟩ := hP
  obtain ⟨-, -, -, hnamed, -, -, -, hat⟩ := (Spec.applies_iff hf).mp happ
  obtain ⟨hg, hn⟩ := and_e (Cond.before_iff.mp (show (Jvm.Cond.and given_1 narrow_1).before args s = true from hpre))
  obtain ⟨g1, g2⟩ := and_e hg
  obtain ⟨g3, g4⟩ := and_e g2
  obtain ⟨g5, g6⟩ := and_e g4
  obtain ⟨w0, w1, w2, rfl⟩ : ∃ w0 w1 w2 : Value, args = #[w0, w1, w2] := by
    have hs : args.size = 3 := by simpa [Cond.value, given_1] using g1
    obtain ⟨L⟩ := args
    match L, hs with
    | [w0, w1, w2], _ => exact ⟨w0, w1, w2, rfl⟩
  have hw := fun d (hd : d ∈ tables_1) => atoms_spec (ws := Jvm.Cond.code x code maxLocals ret :: tables_1) hat d (List.mem_cons_of_mem _ hd)
  have hfit : Fit s := fun {y c} hc i hi => by
    obtain ⟨ha, rfl⟩ := Array.getElem?_eq_some_iff.mp hc
    have q := List.all_eq_true.mp ((Array.all_eq_true_iff_forall_mem.mp hF) _ (Array.getElem_mem ha)) i (List.mem_range.mpr hi)
    simpa [Array.getElem?_eq_getElem hi] using q
  obtain ⟨hsets, hown0⟩ := atoms_of _ (rest_1_c_eq ▸ (show rest_1_c.before _ s = true from hrest))
  have hr0 := Cond.before_iff.mp hown0
  obtain ⟨i0, ei0⟩ := isL_v g3
  obtain rfl : w0 = (.long i0) := Option.some.inj ei0
  obtain ⟨i1, ei1⟩ := is_v g5
  obtain rfl : w1 = (.int i1) := Option.some.inj ei1
  obtain ⟨i2, ei2⟩ := is_v g6
  obtain rfl : w2 = (.int i2) := Option.some.inj ei2
  have s0 := hsets _ (List.mem_of_getElem? (i := 0) rfl)
  have s1 := hsets _ (List.mem_of_getElem? (i := 1) rfl)
  have s2 := hsets _ (List.mem_of_getElem? (i := 2) rfl)
  obtain ⟨cs, ecs⟩ := is_v (Cond.before_iff.mp s1)
  have hS := Sta.start ecs (Or.inl s0)
  have hcs : ¬ cs = (0 : Int32) := fun q => by
    have q2 := not_v (Cond.before_iff.mp s2)
    subst q
    exact Bool.noConfusion (Option.some.inj ((eq_i ecs (Term.int_eval 0) rfl).symm.trans q2))
  obtain ⟨n, o, h1, h2, h3, _, L, rfl, ⟨rfl, N⟩, hq⟩ := rm0 l s _ hw tables_1 i0 i1 i2 cs s.heap s.heap.size (Nat.le_refl _) hS hcs p e ha hc hk s m _ below hf ((Spec.applies_iff_loose hf).mp happ).1 ⟨rfl, State.Warmed39.refl s, rfl⟩ trivial
  refine ⟨n, _, h1, h2, h3, hpost _ _ _ _ _ _ ⟨Cond.after_iff.mpr rfl, Cond.after_iff.mpr (eq_i res_at (Term.int_eval (1)) rfl), trivial⟩ ⟨hq.1, hq.2.1, hq.2.2.1, (hq.2.2.2.sift fun y hy => Or.inr (N y hy)).mono (by decide) (by decide)⟩⟩
theorem main_1_1 : Claimed_1_1 := comes_1 fun _ _ _ _ _ _ h hF => ⟨h.1, hF⟩
theorem main_1_2 : Claimed_1_2 := comes_1 fun _ _ _ _ _ _ h hF => ⟨h.2.1, hF⟩
end Jvm.Pilot.@@N@@
namespace Jvm.Pilot.@@N@@
open Jvm Jvm.ClassFile Sem Op Lib Jvm.Free Jvm.Stand Jvm.Pilot.@@N@@.Jvm.D
/-! MADE BY PROGRAM (witnessworld.py) out of the Statement's table words and the real class files: 19 classes; the members and pool entries that the words name. The judged class is class 1, her method 1. -/
namespace start1
open Jvm.ClassFile
def u (s : String) : CpInfo := .utf8 (stringToUtf16 s)
/-- a pool by its gaps: so many unusable entries, then the entry; so many at the end -/
def gap : Nat → List CpInfo → List CpInfo
  | 0, r => r
  | n + 1, r => .unusable :: gap n r
def poolList (es : List (Nat × CpInfo)) (last : Nat) : List CpInfo := es.foldr (fun e r => gap e.1 (e.2 :: r)) (gap last [])
def pool (es : List (Nat × CpInfo)) (last : Nat) : Array CpInfo := ⟨poolList es last⟩
def fileOf (pool : Array CpInfo) (this : Nat) (attrs : Array Attribute := #[]) (ms : Array MethodInfo := #[]) (fl : Nat := 33) (sup : Nat := 0) (ifs : Array Nat := #[]) (fds : Array FieldInfo := #[]) : ClassFile where
  minorVersion := 0
  majorVersion := 65
  constantPool := pool
  accessFlags := fl
  thisClass := this
  superClass := sup
  interfaces := ifs
  fields := fds
  methods := ms
  attributes := attrs
def plain (name : String) (sup : Option ClassId) : Class where
  name := name
  kind := .ordinary
  loader := none
  accessFlags := 33
  super := sup
  interfaces := #[]
  cf := none
  fields := #[]
  methods := #[]
  instanceTypes := #[]
  staticTypes := #[]
  resolved := #[]
  callSites := []
  init := .initialized
  statics := none
  mirror := none

def pool0 : Array CpInfo := pool [(5, u "<init>"), (0, u "()V"), (1, .class_ 10), (1, u "java/lang/Object")] 113

def k0c0 : Code := { maxStack := 0, maxLocals := 1, code := object_method_1_code, exceptionTable := #[], attributes := #[] }
def k0m0 : Method := { name := "<init>", desc := "()V", sig := { parameters := [], returnType := none }, accessFlags := 1, code := some k0c0 }
/-- java/lang/Object -/
def k0 : Class := { plain "java/lang/Object" none with
  accessFlags := 33
  interfaces := #[]
  cf := some (fileOf pool0 8 #[] #[{ accessFlags := 1, nameIndex := 5, descriptorIndex := 6, attributes := #[] }] 33 0 #[] #[])
  fields := #[]
  methods := #[k0m0]
  instanceTypes := #[]
  staticTypes := #[]
  resolved := Array.replicate 124 none
  statics := none }

def pool1 : Array CpInfo := pool [(2, .class_ 4), (1, u "java/lang/Object"), (0, u "<init>"), (0, u "()V"), (0, .integer 65535), (0, .class_ 9), (0, u "com/example/halyard/halyard/base/XmlScan$StartTag"), (0, .string 11), (0, u ""), (0, .methodref 13 14), (0, .class_ 15), (0, .nameAndType 16 17), (0, u "java/lang/String"), (0, u "valueOf"), (0, u "(C)Ljava/lang/String;"), (0, .methodref 8 19), (0, .nameAndType 5 20), (0, u "(IIIILjava/lang/String;Ljava/lang/String;[ILjava/util/Map;)V"), (0, .class_ 22), (0, u "com/example/halyard/halyard/base/XmlSlice"), (0, .methodref 21 24), (0, .nameAndType 5 25), (0, u "([BLcom/example/halyard/halyard/base/XmlScan$StartTag;ILjava/util/List;[I)V"), (0, .methodref 21 27), (0, .nameAndType 28 29), (0, u "startTagClose"), (0, u "()I"), (0, .class_ 31), (0, u "com/example/halyard/halyard/base/XmlSliceStartTagClosePinLaw"), (2, u "law"), (0, u "(JII)Z")] 9

def k1m0 : Method := { name := "<init>", desc := "()V", sig := { parameters := [], returnType := none }, accessFlags := 1, code := none }
def k1c1 : Code := { maxStack := 10, maxLocals := 17, code := code, exceptionTable := #[], attributes := #[] }
def k1m1 : Method := { name := "law", desc := "(JII)Z", sig := { parameters := [.long, .int, .int], returnType := some .boolean }, accessFlags := 9, code := some k1c1 }
/-- com/example/halyard/halyard/base/XmlSliceStartTagClosePinLaw -/
def k1 : Class := { plain "com/example/halyard/halyard/base/XmlSliceStartTagClosePinLaw" (some 0) with
  accessFlags := 49
  interfaces := #[]
  cf := some (fileOf pool1 30 #[] #[{ accessFlags := 1, nameIndex := 5, descriptorIndex := 6, attributes := #[] }, { accessFlags := 9, nameIndex := 34, descriptorIndex := 35, attributes := #[] }] 49 2 #[] #[])
  fields := #[]
  methods := #[k1m0, k1m1]
  instanceTypes := #[]
  staticTypes := #[]
  resolved := Array.replicate 45 none
  statics := none }

def pool2 : Array CpInfo := pool [(1, .methodref 2 3), (0, .class_ 4), (0, .nameAndType 5 6), (0, u "java/lang/Object"), (0, u "<init>"), (0, u "()V"), (0, .class_ 8), (0, u "java/lang/Record")] 13

def k2c0 : Code := { maxStack := 1, maxLocals := 1, code := jdk_30_method_1_code, exceptionTable := #[], attributes := #[] }
def k2m0 : Method := { name := "<init>", desc := "()V", sig := { parameters := [], returnType := none }, accessFlags := 4, code := some k2c0 }
/-- java/lang/Record -/
def k2 : Class := { plain "java/lang/Record" (some 0) with
  accessFlags := 1057
  interfaces := #[]
  cf := some (fileOf pool2 7 #[] #[{ accessFlags := 4, nameIndex := 5, descriptorIndex := 6, attributes := #[] }] 1057 2 #[] #[])
  fields := #[]
  methods := #[k2m0]
  instanceTypes := #[]
  staticTypes := #[]
  resolved := Array.replicate 22 none
  statics := none }

def pool3 : Array CpInfo := pool [(1, .methodref 2 3), (0, .class_ 4), (0, .nameAndType 5 6), (0, u "java/lang/Record"), (0, u "<init>"), (0, u "()V"), (0, .fieldref 8 9), (0, .class_ 10), (0, .nameAndType 11 12), (0, u "com/example/halyard/halyard/base/XmlScan$StartTag"), (0, u "depth"), (0, u "I"), (0, .fieldref 8 14), (0, .nameAndType 15 12), (0, u "start"), (0, .fieldref 8 17), (0, .nameAndType 18 12), (0, u "nameEnd"), (0, .fieldref 8 20), (0, .nameAndType 21 12), (0, u "end"), (0, .fieldref 8 23), (0, .nameAndType 24 25), (0, u "namespace"), (0, u "Ljava/lang/String;"), (0, .fieldref 8 27), (0, .nameAndType 28 25), (0, u "localName"), (0, .fieldref 8 30), (0, .nameAndType 31 32), (0, u "attributes"), (0, u "[I"), (0, .fieldref 8 34), (0, .nameAndType 35 36), (0, u "scope"), (0, u "Ljava/util/Map;"), (14, u "(IIIILjava/lang/String;Ljava/lang/String;[ILjava/util/Map;)V"), (5, u "()I"), (7, .class_ 66), (0, u "com/example/halyard/halyard/base/XmlScan")] 26

def k3c0 : Code := { maxStack := 2, maxLocals := 9, code := prog_23_method_1_code, exceptionTable := #[], attributes := #[] }
def k3m0 : Method := { name := "<init>", desc := "(IIIILjava/lang/String;Ljava/lang/String;[ILjava/util/Map;)V", sig := { parameters := [.int, .int, .int, .int, (.object "java/lang/String"), (.object "java/lang/String"), (.array .int), (.object "java/util/Map")], returnType := none }, accessFlags := 0, code := some k3c0 }
def k3c1 : Code := { maxStack := 1, maxLocals := 1, code := prog_23_method_8_code, exceptionTable := #[], attributes := #[] }
def k3m1 : Method := { name := "end", desc := "()I", sig := { parameters := [], returnType := some .int }, accessFlags := 1, code := some k3c1 }
/-- com/example/halyard/halyard/base/XmlScan$StartTag -/
def k3 : Class := { plain "com/example/halyard/halyard/base/XmlScan$StartTag" (some 2) with
  accessFlags := 48
  interfaces := #[]
  cf := some (fileOf pool3 8 #[.nestHost 65] #[{ accessFlags := 0, nameIndex := 5, descriptorIndex := 51, attributes := #[] }, { accessFlags := 1, nameIndex := 21, descriptorIndex := 57, attributes := #[] }] 48 2 #[] #[{ accessFlags := 18, nameIndex := 11, descriptorIndex := 12, attributes := #[] }, { accessFlags := 18, nameIndex := 15, descriptorIndex := 12, attributes := #[] }, { accessFlags := 18, nameIndex := 18, descriptorIndex := 12, attributes := #[] }, { accessFlags := 18, nameIndex := 21, descriptorIndex := 12, attributes := #[] }, { accessFlags := 18, nameIndex := 24, descriptorIndex := 25, attributes := #[] }, { accessFlags := 18, nameIndex := 28, descriptorIndex := 25, attributes := #[] }, { accessFlags := 18, nameIndex := 31, descriptorIndex := 32, attributes := #[] }, { accessFlags := 18, nameIndex := 35, descriptorIndex := 36, attributes := #[] }])
  fields := #[{ name := "depth", type := .int, accessFlags := 18, slot := 0, constantValue := 0 }, { name := "start", type := .int, accessFlags := 18, slot := 1, constantValue := 0 }, { name := "nameEnd", type := .int, accessFlags := 18, slot := 2, constantValue := 0 }, { name := "end", type := .int, accessFlags := 18, slot := 3, constantValue := 0 }, { name := "namespace", type := (.object "java/lang/String"), accessFlags := 18, slot := 4, constantValue := 0 }, { name := "localName", type := (.object "java/lang/String"), accessFlags := 18, slot := 5, constantValue := 0 }, { name := "attributes", type := (.array .int), accessFlags := 18, slot := 6, constantValue := 0 }, { name := "scope", type := (.object "java/util/Map"), accessFlags := 18, slot := 7, constantValue := 0 }]
  methods := #[k3m0, k3m1]
  instanceTypes := #[.int, .int, .int, .int, (.object "java/lang/String"), (.object "java/lang/String"), (.array .int), (.object "java/util/Map")]
  staticTypes := #[]
  resolved := Array.replicate 93 none
  statics := none }

def pool4 : Array CpInfo := pool [(1, .class_ 2), (0, u "java/io/Serializable"), (0, .class_ 4), (0, u "java/lang/Object")] 2

/-- java/io/Serializable -/
def k4 : Class := { plain "java/io/Serializable" (some 0) with
  accessFlags := 1537
  interfaces := #[]
  cf := some (fileOf pool4 1 #[] #[] 1537 3 #[] #[])
  fields := #[]
  methods := #[]
  instanceTypes := #[]
  staticTypes := #[]
  resolved := Array.replicate 7 none
  statics := none }

def pool5 : Array CpInfo := pool [(1, .class_ 2), (0, u "java/lang/Comparable"), (0, .class_ 4), (0, u "java/lang/Object")] 7

/-- java/lang/Comparable -/
def k5 : Class := { plain "java/lang/Comparable" (some 0) with
  accessFlags := 1537
  interfaces := #[]
  cf := some (fileOf pool5 1 #[] #[] 1537 3 #[] #[])
  fields := #[]
  methods := #[]
  instanceTypes := #[]
  staticTypes := #[]
  resolved := Array.replicate 12 none
  statics := none }

def pool6 : Array CpInfo := pool [(2, .class_ 4), (1, u "java/lang/CharSequence"), (42, .class_ 48), (0, u "java/lang/CharSequence$1CodePointIterator"), (10, .class_ 60), (0, u "java/lang/CharSequence$1CharIterator"), (5, .class_ 67), (0, u "java/lang/Object")] 63

/-- java/lang/CharSequence -/
def k6 : Class := { plain "java/lang/CharSequence" (some 0) with
  accessFlags := 1537
  interfaces := #[]
  cf := some (fileOf pool6 2 #[.nestMembers #[47, 59]] #[] 1537 66 #[] #[])
  fields := #[]
  methods := #[]
  instanceTypes := #[]
  staticTypes := #[]
  resolved := Array.replicate 131 none
  statics := none }

def pool7 : Array CpInfo := pool [(1, .class_ 2), (0, u "java/lang/constant/Constable"), (0, .class_ 4), (0, u "java/lang/Object")] 6

/-- java/lang/constant/Constable -/
def k7 : Class := { plain "java/lang/constant/Constable" (some 0) with
  accessFlags := 1537
  interfaces := #[]
  cf := some (fileOf pool7 1 #[] #[] 1537 3 #[] #[])
  fields := #[]
  methods := #[]
  instanceTypes := #[]
  staticTypes := #[]
  resolved := Array.replicate 11 none
  statics := none }

def pool8 : Array CpInfo := pool [(1, .class_ 2), (0, u "java/lang/constant/ConstantDesc"), (0, .class_ 4), (0, u "java/lang/Object")] 32

/-- java/lang/constant/ConstantDesc -/
def k8 : Class := { plain "java/lang/constant/ConstantDesc" (some 0) with
  accessFlags := 1537
  interfaces := #[]
  cf := some (fileOf pool8 1 #[] #[] 1537 3 #[] #[])
  fields := #[]
  methods := #[]
  instanceTypes := #[]
  staticTypes := #[]
  resolved := Array.replicate 37 none
  statics := none }

def pool9 : Array CpInfo := pool [(1, .methodref 2 3), (0, .class_ 4), (0, .nameAndType 5 6), (0, u "java/lang/Object"), (0, u "<init>"), (0, u "()V"), (2, .fieldref 10 11), (0, .class_ 12), (0, .nameAndType 13 14), (0, u "java/lang/String"), (0, u "value"), (0, u "[B"), (0, .fieldref 10 16), (0, .nameAndType 17 18), (0, u "coder"), (0, u "B"), (2, u "hash"), (0, u "I"), (2, u "hashIsZero"), (0, u "Z"), (11, .fieldref 10 39), (0, .nameAndType 40 26), (0, u "COMPACT_STRINGS"), (12, u "toBytes"), (53, .class_ 109), (1, u "java/lang/StringLatin1"), (99, .methodref 10 210), (0, .nameAndType 5 211), (0, u "([BB)V"), (157, u "(C)Z"), (205, .class_ 576), (0, u "java/lang/CharSequence"), (22, u "CASE_INSENSITIVE_ORDER"), (0, u "Ljava/util/Comparator;"), (181, u "valueOf"), (0, u "(C)Ljava/lang/String;"), (231, .methodref 107 1016), (0, .nameAndType 1017 369), (0, u "canEncode"), (0, .methodref 107 1019), (0, .nameAndType 53 1020), (0, u "(C)[B"), (80, u "serialPersistentFields"), (0, u "[Ljava/io/ObjectStreamField;"), (0, .class_ 1104), (0, u "java/lang/String$CaseInsensitiveComparator"), (1, .class_ 1107), (0, u "java/io/Serializable"), (0, .class_ 1109), (0, u "java/lang/Comparable"), (0, .class_ 1111), (0, u "java/lang/constant/Constable"), (0, .class_ 1113), (0, u "java/lang/constant/ConstantDesc"), (2, u "serialVersionUID"), (0, u "J"), (3, u "REPL"), (0, u "C"), (2, u "LATIN1"), (1, u "UTF16")] 323

def k9m0 : Method := { name := "<init>", desc := "()V", sig := { parameters := [], returnType := none }, accessFlags := 1, code := none }
def k9c1 : Code := { maxStack := 4, maxLocals := 1, code := jdk_42_method_139_code, exceptionTable := #[], attributes := #[] }
def k9m1 : Method := { name := "valueOf", desc := "(C)Ljava/lang/String;", sig := { parameters := [.char], returnType := some (.object "java/lang/String") }, accessFlags := 9, code := some k9c1 }
def k9c2 : Code := { maxStack := 2, maxLocals := 3, code := jdk_42_method_151_code, exceptionTable := #[], attributes := #[] }
def k9m2 : Method := { name := "<init>", desc := "([BB)V", sig := { parameters := [(.array .byte), .byte], returnType := none }, accessFlags := 0, code := some k9c2 }
/-- java/lang/String -/
def k9 : Class := { plain "java/lang/String" (some 0) with
  accessFlags := 49
  interfaces := #[4, 5, 6, 7, 8]
  cf := some (fileOf pool9 10 #[.nestMembers #[1103]] #[{ accessFlags := 1, nameIndex := 5, descriptorIndex := 6, attributes := #[] }, { accessFlags := 9, nameIndex := 782, descriptorIndex := 783, attributes := #[] }, { accessFlags := 0, nameIndex := 5, descriptorIndex := 211, attributes := #[] }] 49 2 #[1106, 1108, 575, 1110, 1112] #[{ accessFlags := 18, nameIndex := 13, descriptorIndex := 14, attributes := #[] }, { accessFlags := 18, nameIndex := 17, descriptorIndex := 18, attributes := #[] }, { accessFlags := 2, nameIndex := 21, descriptorIndex := 22, attributes := #[] }, { accessFlags := 2, nameIndex := 25, descriptorIndex := 26, attributes := #[] }, { accessFlags := 26, nameIndex := 1116, descriptorIndex := 1117, attributes := #[] }, { accessFlags := 24, nameIndex := 40, descriptorIndex := 26, attributes := #[] }, { accessFlags := 26, nameIndex := 1101, descriptorIndex := 1102, attributes := #[] }, { accessFlags := 26, nameIndex := 1121, descriptorIndex := 1122, attributes := #[] }, { accessFlags := 25, nameIndex := 599, descriptorIndex := 600, attributes := #[] }, { accessFlags := 24, nameIndex := 1125, descriptorIndex := 18, attributes := #[] }, { accessFlags := 24, nameIndex := 1127, descriptorIndex := 18, attributes := #[] }])
  fields := #[{ name := "value", type := (.array .byte), accessFlags := 18, slot := 0, constantValue := 0 }, { name := "coder", type := .byte, accessFlags := 18, slot := 1, constantValue := 0 }, { name := "hash", type := .int, accessFlags := 2, slot := 2, constantValue := 0 }, { name := "hashIsZero", type := .boolean, accessFlags := 2, slot := 3, constantValue := 0 }, { name := "serialVersionUID", type := .long, accessFlags := 26, slot := 0, constantValue := 0 }, { name := "COMPACT_STRINGS", type := .boolean, accessFlags := 24, slot := 1, constantValue := 0 }, { name := "serialPersistentFields", type := (.array (.object "java/io/ObjectStreamField")), accessFlags := 26, slot := 2, constantValue := 0 }, { name := "REPL", type := .char, accessFlags := 26, slot := 3, constantValue := 0 }, { name := "CASE_INSENSITIVE_ORDER", type := (.object "java/util/Comparator"), accessFlags := 25, slot := 4, constantValue := 0 }, { name := "LATIN1", type := .byte, accessFlags := 24, slot := 5, constantValue := 0 }, { name := "UTF16", type := .byte, accessFlags := 24, slot := 6, constantValue := 0 }]
  methods := #[k9m0, k9m1, k9m2]
  instanceTypes := #[(.array .byte), .byte, .int, .boolean]
  staticTypes := #[.long, .boolean, (.array (.object "java/io/ObjectStreamField")), .char, (.object "java/util/Comparator"), .byte, .byte]
  resolved := Array.replicate 1451 none
  statics := some 0 }

def pool10 : Array CpInfo := pool [(4, .class_ 6), (1, u "java/lang/Object"), (0, u "<init>"), (0, u "()V"), (5, .class_ 16), (1, u "java/lang/StringLatin1"), (73, u "canEncode"), (14, u "(C)Z"), (15, u "$assertionsDisabled"), (0, u "Z"), (98, .class_ 223), (1, u "java/lang/StringLatin1$LinesSpliterator"), (156, u "toBytes"), (1, u "(C)[B"), (7, .class_ 391), (0, u "java/lang/StringLatin1$CharsSpliterator")] 3

def k10m0 : Method := { name := "<init>", desc := "()V", sig := { parameters := [], returnType := none }, accessFlags := 0, code := none }
def k10c1 : Code := { maxStack := 2, maxLocals := 1, code := jdk_43_method_3_code, exceptionTable := #[], attributes := #[] }
def k10m1 : Method := { name := "canEncode", desc := "(C)Z", sig := { parameters := [.char], returnType := some .boolean }, accessFlags := 9, code := some k10c1 }
def k10c2 : Code := { maxStack := 4, maxLocals := 1, code := jdk_43_method_46_code, exceptionTable := #[], attributes := #[] }
def k10m2 : Method := { name := "toBytes", desc := "(C)[B", sig := { parameters := [.char], returnType := some (.array .byte) }, accessFlags := 9, code := some k10c2 }
/-- java/lang/StringLatin1 -/
def k10 : Class := { plain "java/lang/StringLatin1" (some 0) with
  accessFlags := 48
  interfaces := #[]
  cf := some (fileOf pool10 14 #[.nestMembers #[390, 221]] #[{ accessFlags := 0, nameIndex := 7, descriptorIndex := 8, attributes := #[] }, { accessFlags := 9, nameIndex := 90, descriptorIndex := 105, attributes := #[] }, { accessFlags := 9, nameIndex := 380, descriptorIndex := 382, attributes := #[] }] 48 4 #[] #[{ accessFlags := 4120, nameIndex := 121, descriptorIndex := 122, attributes := #[] }])
  fields := #[{ name := "$assertionsDisabled", type := .boolean, accessFlags := 4120, slot := 0, constantValue := 0 }]
  methods := #[k10m0, k10m1, k10m2]
  instanceTypes := #[]
  staticTypes := #[.boolean]
  resolved := Array.replicate 395 none
  statics := none }

def pool11 : Array CpInfo := pool [(1, .methodref 2 3), (0, .class_ 4), (0, .nameAndType 5 6), (0, u "java/lang/Object"), (0, u "<init>"), (0, u "()V"), (0, .fieldref 8 9), (0, .class_ 10), (0, .nameAndType 11 12), (0, u "com/example/halyard/halyard/base/XmlSlice"), (0, u "document"), (0, u "[B"), (0, .fieldref 8 14), (0, .nameAndType 15 16), (0, u "tag"), (0, u "Lcom/example/halyard/halyard/base/XmlScan$StartTag;"), (0, .fieldref 8 18), (0, .nameAndType 19 20), (0, u "end"), (0, u "I"), (0, .fieldref 8 22), (0, .nameAndType 23 24), (0, u "children"), (0, u "Ljava/util/List;"), (0, .fieldref 8 26), (0, .nameAndType 27 28), (0, u "held"), (0, u "[I"), (0, .class_ 30), (0, u "com/example/halyard/halyard/base/XmlSlice$Reader"), (10, .class_ 43), (1, u "com/example/halyard/halyard/base/XmlScan$StartTag"), (90, u "()I"), (6, .methodref 41 142), (0, .nameAndType 19 134), (53, u "([BLcom/example/halyard/halyard/base/XmlScan$StartTag;ILjava/util/List;[I)V"), (20, u "startTagClose"), (14, .class_ 233), (0, u "com/example/halyard/halyard/base/XmlSlice$Finder")] 32

def k11c0 : Code := { maxStack := 2, maxLocals := 6, code := prog_24_method_1_code, exceptionTable := #[], attributes := #[] }
def k11m0 : Method := { name := "<init>", desc := "([BLcom/example/halyard/halyard/base/XmlScan$StartTag;ILjava/util/List;[I)V", sig := { parameters := [(.array .byte), (.object "com/example/halyard/halyard/base/XmlScan$StartTag"), .int, (.object "java/util/List"), (.array .int)], returnType := none }, accessFlags := 0, code := some k11c0 }
def k11c1 : Code := { maxStack := 3, maxLocals := 1, code := prog_24_method_14_code, exceptionTable := #[], attributes := #[] }
def k11m1 : Method := { name := "startTagClose", desc := "()I", sig := { parameters := [], returnType := some .int }, accessFlags := 0, code := some k11c1 }
/-- com/example/halyard/halyard/base/XmlSlice -/
def k11 : Class := { plain "com/example/halyard/halyard/base/XmlSlice" (some 0) with
  accessFlags := 49
  interfaces := #[]
  cf := some (fileOf pool11 8 #[.nestMembers #[29, 232]] #[{ accessFlags := 0, nameIndex := 5, descriptorIndex := 196, attributes := #[] }, { accessFlags := 0, nameIndex := 217, descriptorIndex := 134, attributes := #[] }] 49 2 #[] #[{ accessFlags := 18, nameIndex := 11, descriptorIndex := 12, attributes := #[] }, { accessFlags := 18, nameIndex := 15, descriptorIndex := 16, attributes := #[] }, { accessFlags := 18, nameIndex := 19, descriptorIndex := 20, attributes := #[] }, { accessFlags := 18, nameIndex := 23, descriptorIndex := 24, attributes := #[] }, { accessFlags := 18, nameIndex := 27, descriptorIndex := 28, attributes := #[] }])
  fields := #[{ name := "document", type := (.array .byte), accessFlags := 18, slot := 0, constantValue := 0 }, { name := "tag", type := (.object "com/example/halyard/halyard/base/XmlScan$StartTag"), accessFlags := 18, slot := 1, constantValue := 0 }, { name := "end", type := .int, accessFlags := 18, slot := 2, constantValue := 0 }, { name := "children", type := (.object "java/util/List"), accessFlags := 18, slot := 3, constantValue := 0 }, { name := "held", type := (.array .int), accessFlags := 18, slot := 4, constantValue := 0 }]
  methods := #[k11m0, k11m1]
  instanceTypes := #[(.array .byte), (.object "com/example/halyard/halyard/base/XmlScan$StartTag"), .int, (.object "java/util/List"), (.array .int)]
  staticTypes := #[]
  resolved := Array.replicate 266 none
  statics := none }

def pool12 : Array CpInfo := pool [(2, .class_ 4), (1, u "java/lang/Object"), (0, u "<init>"), (0, u "()V"), (17, .class_ 26), (1, u "jdk/internal/util/Preconditions"), (28, .class_ 56), (0, u "jdk/internal/util/Preconditions$4"), (57, .class_ 115), (0, u "jdk/internal/util/Preconditions$1"), (7, u "SIOOBE_FORMATTER"), (0, u "Ljava/util/function/BiFunction;"), (0, .class_ 126), (0, u "jdk/internal/util/Preconditions$2"), (3, u "AIOOBE_FORMATTER"), (0, .class_ 132), (0, u "jdk/internal/util/Preconditions$3"), (3, u "IOOBE_FORMATTER")] 57

def k12m0 : Method := { name := "<init>", desc := "()V", sig := { parameters := [], returnType := none }, accessFlags := 1, code := none }
/-- jdk/internal/util/Preconditions -/
def k12 : Class := { plain "jdk/internal/util/Preconditions" (some 0) with
  accessFlags := 33
  interfaces := #[]
  cf := some (fileOf pool12 24 #[.nestMembers #[55, 131, 125, 114]] #[{ accessFlags := 1, nameIndex := 5, descriptorIndex := 6, attributes := #[] }] 33 2 #[] #[{ accessFlags := 25, nameIndex := 123, descriptorIndex := 124, attributes := #[] }, { accessFlags := 25, nameIndex := 130, descriptorIndex := 124, attributes := #[] }, { accessFlags := 25, nameIndex := 136, descriptorIndex := 124, attributes := #[] }])
  fields := #[{ name := "SIOOBE_FORMATTER", type := (.object "java/util/function/BiFunction"), accessFlags := 25, slot := 0, constantValue := 0 }, { name := "AIOOBE_FORMATTER", type := (.object "java/util/function/BiFunction"), accessFlags := 25, slot := 1, constantValue := 0 }, { name := "IOOBE_FORMATTER", type := (.object "java/util/function/BiFunction"), accessFlags := 25, slot := 2, constantValue := 0 }]
  methods := #[k12m0]
  instanceTypes := #[]
  staticTypes := #[(.object "java/util/function/BiFunction"), (.object "java/util/function/BiFunction"), (.object "java/util/function/BiFunction")]
  resolved := Array.replicate 194 none
  statics := some 1 }

def pool13 : Array CpInfo := pool [(9, u "<init>"), (6, .class_ 18), (1, u "java/lang/Object"), (0, u "()V"), (1, .class_ 23), (1, u "jdk/internal/util/ArraysSupport"), (0, u "LOG2_ARRAY_LONG_INDEX_SCALE"), (0, u "I"), (2, u "U"), (0, u "Ljdk/internal/misc/Unsafe;"), (8, u "BIG_ENDIAN"), (0, u "Z"), (8, u "LOG2_BYTE_BIT_SIZE"), (4, u "LOG2_ARRAY_INT_INDEX_SCALE"), (54, u "JLA"), (0, u "Ljdk/internal/access/JavaLangAccess;"), (11, u "LOG2_ARRAY_BOOLEAN_INDEX_SCALE"), (9, u "LOG2_ARRAY_BYTE_INDEX_SCALE"), (5, u "LOG2_ARRAY_CHAR_INDEX_SCALE"), (5, u "LOG2_ARRAY_SHORT_INDEX_SCALE"), (18, u "LOG2_ARRAY_FLOAT_INDEX_SCALE"), (24, u "LOG2_ARRAY_DOUBLE_INDEX_SCALE"), (89, u "T_BOOLEAN"), (2, u "T_CHAR"), (1, u "T_FLOAT"), (1, u "T_DOUBLE"), (1, u "T_BYTE"), (1, u "T_SHORT"), (1, u "T_INT"), (1, u "T_LONG"), (1, u "SOFT_MAX_ARRAY_LENGTH")] 83

def k13m0 : Method := { name := "<init>", desc := "()V", sig := { parameters := [], returnType := none }, accessFlags := 2, code := none }
/-- jdk/internal/util/ArraysSupport -/
def k13 : Class := { plain "jdk/internal/util/ArraysSupport" (some 0) with
  accessFlags := 33
  interfaces := #[]
  cf := some (fileOf pool13 21 #[] #[{ accessFlags := 2, nameIndex := 9, descriptorIndex := 19, attributes := #[] }] 33 16 #[] #[{ accessFlags := 24, nameIndex := 28, descriptorIndex := 29, attributes := #[] }, { accessFlags := 26, nameIndex := 38, descriptorIndex := 39, attributes := #[] }, { accessFlags := 25, nameIndex := 121, descriptorIndex := 25, attributes := #[] }, { accessFlags := 25, nameIndex := 131, descriptorIndex := 25, attributes := #[] }, { accessFlags := 25, nameIndex := 137, descriptorIndex := 25, attributes := #[] }, { accessFlags := 25, nameIndex := 143, descriptorIndex := 25, attributes := #[] }, { accessFlags := 25, nameIndex := 53, descriptorIndex := 25, attributes := #[] }, { accessFlags := 25, nameIndex := 24, descriptorIndex := 25, attributes := #[] }, { accessFlags := 25, nameIndex := 162, descriptorIndex := 25, attributes := #[] }, { accessFlags := 25, nameIndex := 187, descriptorIndex := 25, attributes := #[] }, { accessFlags := 26, nameIndex := 48, descriptorIndex := 25, attributes := #[] }, { accessFlags := 25, nameIndex := 277, descriptorIndex := 25, attributes := #[] }, { accessFlags := 25, nameIndex := 280, descriptorIndex := 25, attributes := #[] }, { accessFlags := 25, nameIndex := 282, descriptorIndex := 25, attributes := #[] }, { accessFlags := 25, nameIndex := 284, descriptorIndex := 25, attributes := #[] }, { accessFlags := 25, nameIndex := 286, descriptorIndex := 25, attributes := #[] }, { accessFlags := 25, nameIndex := 288, descriptorIndex := 25, attributes := #[] }, { accessFlags := 25, nameIndex := 290, descriptorIndex := 25, attributes := #[] }, { accessFlags := 25, nameIndex := 292, descriptorIndex := 25, attributes := #[] }, { accessFlags := 26, nameIndex := 108, descriptorIndex := 109, attributes := #[] }, { accessFlags := 25, nameIndex := 294, descriptorIndex := 25, attributes := #[] }])
  fields := #[{ name := "U", type := (.object "jdk/internal/misc/Unsafe"), accessFlags := 24, slot := 0, constantValue := 0 }, { name := "BIG_ENDIAN", type := .boolean, accessFlags := 26, slot := 1, constantValue := 0 }, { name := "LOG2_ARRAY_BOOLEAN_INDEX_SCALE", type := .int, accessFlags := 25, slot := 2, constantValue := 0 }, { name := "LOG2_ARRAY_BYTE_INDEX_SCALE", type := .int, accessFlags := 25, slot := 3, constantValue := 0 }, { name := "LOG2_ARRAY_CHAR_INDEX_SCALE", type := .int, accessFlags := 25, slot := 4, constantValue := 0 }, { name := "LOG2_ARRAY_SHORT_INDEX_SCALE", type := .int, accessFlags := 25, slot := 5, constantValue := 0 }, { name := "LOG2_ARRAY_INT_INDEX_SCALE", type := .int, accessFlags := 25, slot := 6, constantValue := 0 }, { name := "LOG2_ARRAY_LONG_INDEX_SCALE", type := .int, accessFlags := 25, slot := 7, constantValue := 0 }, { name := "LOG2_ARRAY_FLOAT_INDEX_SCALE", type := .int, accessFlags := 25, slot := 8, constantValue := 0 }, { name := "LOG2_ARRAY_DOUBLE_INDEX_SCALE", type := .int, accessFlags := 25, slot := 9, constantValue := 0 }, { name := "LOG2_BYTE_BIT_SIZE", type := .int, accessFlags := 26, slot := 10, constantValue := 0 }, { name := "T_BOOLEAN", type := .int, accessFlags := 25, slot := 11, constantValue := 0 }, { name := "T_CHAR", type := .int, accessFlags := 25, slot := 12, constantValue := 0 }, { name := "T_FLOAT", type := .int, accessFlags := 25, slot := 13, constantValue := 0 }, { name := "T_DOUBLE", type := .int, accessFlags := 25, slot := 14, constantValue := 0 }, { name := "T_BYTE", type := .int, accessFlags := 25, slot := 15, constantValue := 0 }, { name := "T_SHORT", type := .int, accessFlags := 25, slot := 16, constantValue := 0 }, { name := "T_INT", type := .int, accessFlags := 25, slot := 17, constantValue := 0 }, { name := "T_LONG", type := .int, accessFlags := 25, slot := 18, constantValue := 0 }, { name := "JLA", type := (.object "jdk/internal/access/JavaLangAccess"), accessFlags := 26, slot := 19, constantValue := 0 }, { name := "SOFT_MAX_ARRAY_LENGTH", type := .int, accessFlags := 25, slot := 20, constantValue := 0 }]
  methods := #[k13m0]
  instanceTypes := #[]
  staticTypes := #[(.object "jdk/internal/misc/Unsafe"), .boolean, .int, .int, .int, .int, .int, .int, .int, .int, .int, .int, .int, .int, .int, .int, .int, .int, .int, (.object "jdk/internal/access/JavaLangAccess"), .int]
  resolved := Array.replicate 378 none
  statics := none }

def pool14 : Array CpInfo := pool [(1, u "java/lang/Cloneable"), (0, .class_ 1), (0, u "java/lang/Object"), (0, .class_ 3)] 3

/-- java/lang/Cloneable -/
def k14 : Class := { plain "java/lang/Cloneable" (some 0) with
  accessFlags := 1537
  interfaces := #[]
  cf := some (fileOf pool14 2 #[] #[] 1537 4 #[] #[])
  fields := #[]
  methods := #[]
  instanceTypes := #[]
  staticTypes := #[]
  resolved := Array.replicate 8 none
  statics := none }

/-- the primitive byte -/
def k15 : Class := { plain "byte" none with kind := .primitive 'B', accessFlags := 0x411 }
/-- [B -/
def k16 : Class := { plain "[B" (some 0) with kind := .array 15 .byte, interfaces := #[14, 4], accessFlags := 1041 }

/-- the primitive int -/
def k17 : Class := { plain "int" none with kind := .primitive 'I', accessFlags := 0x411 }
/-- [I -/
def k18 : Class := { plain "[I" (some 0) with kind := .array 17 .int, interfaces := #[14, 4], accessFlags := 1041 }

def heap : Heap := #[{ cls := 9, slots := #[.long 0, .int 1, .null, .int 0, .null, .int 0, .int 0], vm := .statics 9 },
  { cls := 12, slots := #[.null, .null, .null], vm := .statics 12 }]
def classes : Array Class := #[k0, k1, k2, k3, k4, k5, k6, k7, k8, k9, k10, k11, k12, k13, k14, k15, k16, k17, k18]
def interned : List (Array UInt16 × Addr) := []
def slotsUsed : Nat := 10
def theMethod : MethodId := ⟨1, 1⟩
def args0 : Array Value := #[.long 5, .int 5, .int 5]
def aboutOver (below : List Frame) : State where
  vm := { classes := classes, interned := interned.toArray }
  heap := heap
  slotsUsed := slotsUsed
  threads := #[{ frames := .invoking theMethod args0 :: below }]
def below0 : List Frame := [.native { method := ⟨0, 0⟩, args := #[] }]
def about1 : State := aboutOver below0
def p0 : Program := .bare "" "" ""
def e0 : Env := launch0.env 0 0 0
theorem w_frames : about1.frames = Frame.invoking theMethod args0 :: below0 := rfl
set_option maxRecDepth 65536 in
theorem w_args : argsFit about1.vm theMethod args0 = true := by decide +kernel
set_option maxRecDepth 65536 in
theorem w_heap : heapFits about1 = true := by decide +kernel
set_option maxRecDepth 65536 in
theorem w_runnable : about1.curStatus? = some .runnable := by decide +kernel
set_option maxRecDepth 65536 in
theorem w_alone : about1.alone = true := by decide +kernel
set_option maxRecDepth 65536 in
theorem w_named : about1.methodNamed? x = some theMethod := by decide +kernel
set_option maxRecDepth 65536 in
theorem w_hears : about1.hears theMethod below0 = true := by decide +kernel
set_option maxRecDepth 65536 in
theorem w_ripe : about1.ripe theMethod args0 below0 = true := by decide +kernel
theorem w_running : about1.status = .running := rfl
set_option maxRecDepth 65536 in
theorem w_room : about1.hasRoom e0.platform room_1 = true :=
  launch0.hasRoom_least _ room_1 (by decide +kernel) (by decide +kernel) (by decide +kernel) (by decide +kernel) (by decide +kernel) (by decide +kernel)
theorem allAtoms_all (ts : List Jvm.Cond) (a : Array Jvm.Value) (st : Jvm.State) : (allAtoms ts).before a st = ts.all (fun c => c.before a st) := by
  induction ts with
  | nil => rfl
  | cons c t ih =>
    show (Jvm.Cond.and c (allAtoms t)).before a st = _
    rw [Jvm.Cond.before_and, ih, List.all_cons]
def words1 : List Jvm.Cond := Jvm.Cond.code x code maxLocals ret :: tables_1
/-- a 'code' word, met by the world's own term for the bytes: nothing is compared byte by byte -/
theorem code_word {y : MethodName} {bytes : ByteArray} {mx : Nat} {rt : Option FieldType} {a : Array Value} {s : State} {m : MethodId} {meth : Method} {c : Code} (h1 : s.methodNamed? y = some m) (h2 : s.vm.method? m = some meth) (h3 : meth.code = some c) (h4 : c.code = bytes)
    (h5 : (c.maxLocals == mx && c.exceptionTable.isEmpty && decide (c.maxStack ≤ mostOperands) && decide (meth.sig.returnType = rt) && !meth.locks && decide (parseMethodDescriptor y.desc = some meth.sig)) = true) : (Jvm.Cond.code y bytes mx rt).before a s = true := by
  simp only [Bool.and_eq_true, beq_iff_eq, Bool.not_eq_true', decide_eq_true_eq] at h5
  obtain ⟨⟨⟨⟨⟨g1, g2⟩, g3⟩, g4⟩, g5⟩, g6⟩ := h5
  simp [Cond.before, Cond.holds, Cond.value, h1, h2, h3, h4, g1, g2, g3, g4, g5, g6]
def isCode : Jvm.Cond → Bool
  | .code _ _ _ _ => true
  | _ => false
theorem all_split {L : List Jvm.Cond} {P : Jvm.Cond → Bool} (h1 : L.all (fun c => isCode c || P c) = true) (h2 : ∀ c ∈ L.filter isCode, P c = true) : L.all P = true := by
  refine List.all_eq_true.mpr fun c hc => ?_
  have h := List.all_eq_true.mp h1 c hc
  rcases Bool.eq_false_or_eq_true (isCode c) with hi | hi
  · exact h2 c (List.mem_filter.mpr ⟨hc, hi⟩)
  · simpa [hi] using h
set_option maxRecDepth 65536 in
theorem w_c0 : (Jvm.Cond.code x code maxLocals ret).before args0 about1 = true := code_word (m := ⟨1, 1⟩) (meth := k1m1) (c := k1c1) (by decide +kernel) rfl rfl rfl (by decide +kernel)
set_option maxRecDepth 65536 in
theorem w_c1 : (Jvm.Cond.code ({ cls := "java/lang/String", name := "valueOf", desc := "(C)Ljava/lang/String;" } : Jvm.MethodName) jdk_42_method_139_code (1 : Nat) (Option.some (Jvm.ClassFile.FieldType.object "java/lang/String"))).before args0 about1 = true := code_word (m := ⟨9, 1⟩) (meth := k9m1) (c := k9c1) (by decide +kernel) rfl rfl rfl (by decide +kernel)
set_option maxRecDepth 65536 in
theorem w_c2 : (Jvm.Cond.code ({ cls := "java/lang/StringLatin1", name := "canEncode", desc := "(C)Z" } : Jvm.MethodName) jdk_43_method_3_code (1 : Nat) (Option.some Jvm.ClassFile.FieldType.boolean)).before args0 about1 = true := code_word (m := ⟨10, 1⟩) (meth := k10m1) (c := k10c1) (by decide +kernel) rfl rfl rfl (by decide +kernel)
set_option maxRecDepth 65536 in
theorem w_c3 : (Jvm.Cond.code ({ cls := "java/lang/StringLatin1", name := "toBytes", desc := "(C)[B" } : Jvm.MethodName) jdk_43_method_46_code (1 : Nat) (Option.some (Jvm.ClassFile.FieldType.array Jvm.ClassFile.FieldType.byte))).before args0 about1 = true := code_word (m := ⟨10, 2⟩) (meth := k10m2) (c := k10c2) (by decide +kernel) rfl rfl rfl (by decide +kernel)
set_option maxRecDepth 65536 in
theorem w_c4 : (Jvm.Cond.code ({ cls := "java/lang/String", name := "<init>", desc := "([BB)V" } : Jvm.MethodName) jdk_42_method_151_code (3 : Nat) (Option.none : Option Jvm.ClassFile.FieldType)).before args0 about1 = true := code_word (m := ⟨9, 2⟩) (meth := k9m2) (c := k9c2) (by decide +kernel) rfl rfl rfl (by decide +kernel)
set_option maxRecDepth 65536 in
theorem w_c5 : (Jvm.Cond.code ({ cls := "java/lang/Object", name := "<init>", desc := "()V" } : Jvm.MethodName) object_method_1_code (1 : Nat) (Option.none : Option Jvm.ClassFile.FieldType)).before args0 about1 = true := code_word (m := ⟨0, 0⟩) (meth := k0m0) (c := k0c0) (by decide +kernel) rfl rfl rfl (by decide +kernel)
set_option maxRecDepth 65536 in
theorem w_c6 : (Jvm.Cond.code ({ cls := "com/example/halyard/halyard/base/XmlScan$StartTag", name := "<init>", desc := "(IIIILjava/lang/String;Ljava/lang/String;[ILjava/util/Map;)V" } : Jvm.MethodName) prog_23_method_1_code (9 : Nat) (Option.none : Option Jvm.ClassFile.FieldType)).before args0 about1 = true := code_word (m := ⟨3, 0⟩) (meth := k3m0) (c := k3c0) (by decide +kernel) rfl rfl rfl (by decide +kernel)
set_option maxRecDepth 65536 in
theorem w_c7 : (Jvm.Cond.code ({ cls := "java/lang/Record", name := "<init>", desc := "()V" } : Jvm.MethodName) jdk_30_method_1_code (1 : Nat) (Option.none : Option Jvm.ClassFile.FieldType)).before args0 about1 = true := code_word (m := ⟨2, 0⟩) (meth := k2m0) (c := k2c0) (by decide +kernel) rfl rfl rfl (by decide +kernel)
set_option maxRecDepth 65536 in
theorem w_c8 : (Jvm.Cond.code ({ cls := "com/example/halyard/halyard/base/XmlSlice", name := "<init>", desc := "([BLcom/example/halyard/halyard/base/XmlScan$StartTag;ILjava/util/List;[I)V" } : Jvm.MethodName) prog_24_method_1_code (6 : Nat) (Option.none : Option Jvm.ClassFile.FieldType)).before args0 about1 = true := code_word (m := ⟨11, 0⟩) (meth := k11m0) (c := k11c0) (by decide +kernel) rfl rfl rfl (by decide +kernel)
set_option maxRecDepth 65536 in
theorem w_c9 : (Jvm.Cond.code ({ cls := "com/example/halyard/halyard/base/XmlSlice", name := "startTagClose", desc := "()I" } : Jvm.MethodName) prog_24_method_14_code (1 : Nat) (Option.some Jvm.ClassFile.FieldType.int)).before args0 about1 = true := code_word (m := ⟨11, 1⟩) (meth := k11m1) (c := k11c1) (by decide +kernel) rfl rfl rfl (by decide +kernel)
set_option maxRecDepth 65536 in
theorem w_c10 : (Jvm.Cond.code ({ cls := "com/example/halyard/halyard/base/XmlScan$StartTag", name := "end", desc := "()I" } : Jvm.MethodName) prog_23_method_8_code (1 : Nat) (Option.some Jvm.ClassFile.FieldType.int)).before args0 about1 = true := code_word (m := ⟨3, 1⟩) (meth := k3m1) (c := k3c1) (by decide +kernel) rfl rfl rfl (by decide +kernel)
def codes1 : List Jvm.Cond := [Jvm.Cond.code x code maxLocals ret, Jvm.Cond.code ({ cls := "java/lang/String", name := "valueOf", desc := "(C)Ljava/lang/String;" } : Jvm.MethodName) jdk_42_method_139_code (1 : Nat) (Option.some (Jvm.ClassFile.FieldType.object "java/lang/String")), Jvm.Cond.code ({ cls := "java/lang/StringLatin1", name := "canEncode", desc := "(C)Z" } : Jvm.MethodName) jdk_43_method_3_code (1 : Nat) (Option.some Jvm.ClassFile.FieldType.boolean), Jvm.Cond.code ({ cls := "java/lang/StringLatin1", name := "toBytes", desc := "(C)[B" } : Jvm.MethodName) jdk_43_method_46_code (1 : Nat) (Option.some (Jvm.ClassFile.FieldType.array Jvm.ClassFile.FieldType.byte)), Jvm.Cond.code ({ cls := "java/lang/String", name := "<init>", desc := "([BB)V" } : Jvm.MethodName) jdk_42_method_151_code (3 : Nat) (Option.none : Option Jvm.ClassFile.FieldType), Jvm.Cond.code ({ cls := "java/lang/Object", name := "<init>", desc := "()V" } : Jvm.MethodName) object_method_1_code (1 : Nat) (Option.none : Option Jvm.ClassFile.FieldType), Jvm.Cond.code ({ cls := "com/example/halyard/halyard/base/XmlScan$StartTag", name := "<init>", desc := "(IIIILjava/lang/String;Ljava/lang/String;[ILjava/util/Map;)V" } : Jvm.MethodName) prog_23_method_1_code (9 : Nat) (Option.none : Option Jvm.ClassFile.FieldType), Jvm.Cond.code ({ cls := "java/lang/Record", name := "<init>", desc := "()V" } : Jvm.MethodName) jdk_30_method_1_code (1 : Nat) (Option.none : Option Jvm.ClassFile.FieldType), Jvm.Cond.code ({ cls := "com/example/halyard/halyard/base/XmlSlice", name := "<init>", desc := "([BLcom/example/halyard/halyard/base/XmlScan$StartTag;ILjava/util/List;[I)V" } : Jvm.MethodName) prog_24_method_1_code (6 : Nat) (Option.none : Option Jvm.ClassFile.FieldType), Jvm.Cond.code ({ cls := "com/example/halyard/halyard/base/XmlSlice", name := "startTagClose", desc := "()I" } : Jvm.MethodName) prog_24_method_14_code (1 : Nat) (Option.some Jvm.ClassFile.FieldType.int), Jvm.Cond.code ({ cls := "com/example/halyard/halyard/base/XmlScan$StartTag", name := "end", desc := "()I" } : Jvm.MethodName) prog_23_method_8_code (1 : Nat) (Option.some Jvm.ClassFile.FieldType.int)]
set_option maxRecDepth 65536 in
theorem codes_eq : words1.filter isCode = codes1 := rfl
theorem w_codes : ∀ c ∈ words1.filter isCode, c.before args0 about1 = true := by
  rw [codes_eq]
  intro c hc
  simp only [codes1, List.mem_cons, List.not_mem_nil, or_false] at hc
  rcases hc with rfl | rfl | rfl | rfl | rfl | rfl | rfl | rfl | rfl | rfl | rfl
  · exact w_c0
  · exact w_c1
  · exact w_c2
  · exact w_c3
  · exact w_c4
  · exact w_c5
  · exact w_c6
  · exact w_c7
  · exact w_c8
  · exact w_c9
  · exact w_c10
set_option maxRecDepth 65536 in
theorem w_t1 : (words1.take 24).all (fun c => isCode c || c.before args0 about1) = true := by decide +kernel
set_option maxRecDepth 65536 in
theorem w_t2 : ((words1.drop 24).take 24).all (fun c => isCode c || c.before args0 about1) = true := by decide +kernel
set_option maxRecDepth 65536 in
theorem w_t3 : (((words1.drop 24).drop 24).take 24).all (fun c => isCode c || c.before args0 about1) = true := by decide +kernel
set_option maxRecDepth 65536 in
theorem w_t4 : (((words1.drop 24).drop 24).drop 24).all (fun c => isCode c || c.before args0 about1) = true := by decide +kernel
theorem w_tables : (allAtoms (Jvm.Cond.code x code maxLocals ret :: tables_1)).before args0 about1 = true := by
  rw [allAtoms_all]
  show words1.all (fun c => c.before args0 about1) = true
  refine all_split ?_ w_codes
  rw [← List.take_append_drop 24 words1, List.all_append, w_t1, ← List.take_append_drop 24 (words1.drop 24), List.all_append, w_t2, ← List.take_append_drop 24 ((words1.drop 24).drop 24), List.all_append, w_t3, w_t4]
  rfl
set_option maxRecDepth 65536 in
theorem w_rest : rest_1_c.before args0 about1 = true := by decide +kernel
set_option maxRecDepth 65536 in
theorem w_case : (Jvm.Cond.and given_1 narrow_1).before args0 about1 = true := by decide +kernel
theorem w_applies : (headSpec (Jvm.Cond.code x code maxLocals ret :: tables_1) room_1).applies x e0.platform about1 = true :=
  (Spec.applies_iff w_frames).mpr ⟨w_running, w_runnable, w_alone, w_named, w_hears, w_ripe, w_room, w_tables⟩
theorem atStart : AtStart classFile x code maxLocals ret World_1 tables_1 room_1 Calls_1 rest_1 Pre_1 launch0 p0 e0 about1 theMethod args0 below0 :=
  ⟨lists_1, trivial, launch0.admits_env _ _ _, launch0.least_env, fairChoices_fair.cas, fairChoices_fair.clock, w_frames, w_args, w_heap, w_applies, trivial, w_rest, w_case⟩
end start1
theorem witness_1 : WitnessClaimed_1 := ⟨start1.p0, start1.e0, start1.about1, start1.theMethod, start1.args0, start1.below0, start1.atStart⟩
end Jvm.Pilot.@@N@@
