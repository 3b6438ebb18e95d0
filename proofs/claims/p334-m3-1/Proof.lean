import JvmDerived
import JvmDerived.Pilot.@@N@@Statement
import JvmDerived.Pilot.@@N@@Code
set_option linter.unusedVariables false
set_option linter.unusedSimpArgs false
namespace Jvm.Pilot.@@N@@
open Jvm Jvm.ClassFile Sem Op Lib Jvm.Free Jvm.Stand Jvm.LawKit Jvm.RoadKit Bundle Jvm.Pilot.@@N@@.Jvm.D
section OwnKit
variable {p : Program} {l : Launch} {e : Env} {R : Room} {s : State} {m : MethodId} {args : Array Value} {below : List Frame} {meth : Method} {c : Code} {T : State} {locs : List Loc} {cells slots : Nat} {Q : Option Value → Heap → List Loc → Prop} {F : Option Value → State → Prop} {KC KS : Nat} {bs : ByteArray} {pc pc' : Nat} {Ls l' : Array Slot} {st : List Value}
/-- from U the run comes to its end: it returns v, and F says what it leaves -/
def own_End (p : Program) (e : Env) (below : List Frame) (F : Option Value → State → Prop) (U : State) : Prop :=
  ∃ s₂ v, Steps p.tables e below U s₂ ∧ s₂.status = .running ∧ Ended s₂ below (.returned v) ∧ F v s₂
def own_F (s : State) (Q : Option Value → Heap → List Loc → Prop) (KC KS : Nat) : Option Value → State → Prop := fun v s₂ => ∃ L, Q v s₂.heap L ∧ FrameEnd s (.returned v) s₂ L KC KS
def own_FS (s : State) (Q : Option Value → Heap → List Loc → Prop) (KC KS : Nat) : Option Value → State → Prop := fun v s₂ => ∃ L, Q v s₂.heap L ∧ ReturnedEndW s (.returned v) s₂ L KC KS
theorem own_body {U : State} (h : own_End p e below (own_F s Q KC KS) U) : ∃ s₂ o, Steps p.tables e below U s₂ ∧ s₂.status = .running ∧ Ended s₂ below o ∧ ∃ v L, o = .returned v ∧ Q v s₂.heap L ∧ FrameEnd s o s₂ L KC KS := by
  obtain ⟨s2, v, h1, h2, h3, L, h4, h5⟩ := h
  exact ⟨s2, _, h1, h2, h3, v, L, rfl, h4, h5⟩
theorem own_bodyS {U : State} (h : own_End p e below (own_FS s Q KC KS) U) : ∃ s₂ o, Steps p.tables e below U s₂ ∧ s₂.status = .running ∧ Ended s₂ below o ∧ ∃ v L, o = .returned v ∧ Q v s₂.heap L ∧ ReturnedEndW s o s₂ L KC KS := by
  obtain ⟨s2, v, h1, h2, h3, L, h4, h5⟩ := h
  exact ⟨s2, _, h1, h2, h3, v, L, rfl, h4, h5⟩
theorem own_step {U U' : State} (k : ∀ t, Steps p.tables e below U' t → Steps p.tables e below U t) (h : own_End p e below F U') : own_End p e below F U := by
  obtain ⟨s2, v, h1, h2⟩ := h
  exact ⟨s2, v, k _ h1, h2⟩
theorem own_trans {U U' : State} (k : Steps p.tables e below U U') (h : own_End p e below F U') : own_End p e below F U := by
  obtain ⟨s2, v, h1, h2⟩ := h
  exact ⟨s2, v, k.trans h1, h2⟩
theorem own_mono {cells' slots' : Nat} (X : Stand p l e R s m args below meth c T locs cells slots) (hc : cells ≤ cells') (hs : slots ≤ slots') : Stand p l e R s m args below meth c T locs cells' slots' := X.mono hc hs
theorem own_selPriv {y : MethodName} {n : Nat} (wi : (Cond.instantiable y.cls n).before args s = true) (hp : s.PrivateAt y) (hi : (Cond.instanceMethod y).before args s = true) (hy : y.cls ≠ "java/lang/invoke/MethodHandle" ∧ y.cls ≠ "java/lang/invoke/VarHandle") : (Cond.selects y.cls y y).before args s = true := by
  obtain ⟨c, k, h1, h2, -, h4, -⟩ := Cond.instantiable_spec wi
  exact selects_self_of_private h1 h2 (by simp only [Bool.or_eq_false_iff] at h4; exact h4.1) hp hi hy
theorem own_sta0 {Z : State} {h h' : Heap} {C n d : String} {v : Value} (S : Sta Z h C n d v) (K : Keep h h' []) : Sta Z h' C n d v := by
  obtain ⟨cf, i, k, f, st, cell, h1, h2, h3, h4, h5, h6, h7⟩ := S
  exact ⟨cf, i, k, f, st, cell, h1, h2, h3, h4, K.2.1 _ _ h5 nin0, h6, h7⟩
theorem own_sta1 {Z : State} {h h' : Heap} {C n d D : String} {v : Value} {a : Addr} (S : Sta Z h C n d v) (K : Keep h h' [a]) (E : Exa Z h a D) : Sta Z h' C n d v := by
  obtain ⟨cf, i, k, f, st, cell, h1, h2, h3, h4, h5, h6, h7⟩ := S
  obtain ⟨c', k', g1, -, -, g4, -⟩ := E
  have ne : st ≠ a := fun q => by subst q; cases h5.symm.trans g1; rw [g4] at h6; cases h6
  exact ⟨cf, i, k, f, st, cell, h1, h2, h3, h4, K.2.1 _ _ h5 (ninS ne nin0), h6, h7⟩
theorem own_cat1 {w : Value} (h : w.isRef = true) : w.category = 1 := by rcases ref_cases h with rfl | ⟨z, rfl⟩ <;> rfl
theorem own_nar {w : Value} {t : FieldType} (h : w.isRef = true) (ht : t.isReference = true) : narrow t w = w := by rcases ref_cases h with rfl | ⟨z, rfl⟩ <;> cases t <;> first | rfl | cases ht
theorem own_fit {w : Value} {t : FieldType} (h : w.isRef = true) (ht : t.isReference = true) : fits t w = true := by rcases ref_cases h with rfl | ⟨z, rfl⟩ <;> cases t <;> first | rfl | cases ht
/-- what the frame says where the run leaves -/
def own_Lv (F : Option Value → State → Prop) (s T : State) (locs : List Loc) (cells slots : Nat) (v : Option Value) : Prop := ∀ fs, s.WarmedH (T.setFrames fs).vm → s.sameButNew ({ T.setFrames fs with vm := s.vm } : State) locs cells slots → F v (T.setFrames fs)
theorem own_lv {v : Option Value} (hQ : Q v T.heap locs) (hc : cells ≤ KC) (hs : slots ≤ KS) : own_Lv (own_F s Q KC KS) s T locs cells slots v := fun fs hW hsm => ⟨locs, hQ, ⟨_, rfl⟩, hW, hsm.mono hc hs⟩
theorem own_lvS {v : Option Value} {vm₁ : Vm} {n : Nat} (hS : s.Since vm₁ n) (hn : n ≤ T.heap.size) (hQ : Q v T.heap locs) (hc : cells ≤ KC) (hs : slots ≤ KS) : own_Lv (own_FS s Q KC KS) (s.setVm vm₁) T locs cells slots v := fun fs hW hsm => by
  obtain ⟨a, b, c'⟩ := hS.ended (U := T.setFrames fs) hW hn hsm
  exact ⟨locs, hQ, ⟨_, rfl⟩, a, b, c'.mono hc hs⟩
theorem own_retW (X : Stand p l e R s m args below meth c T locs cells slots) (hx : p.tables.exec = Jvm.exec) (hlk : meth.locks = false) (hby : c.code = bs) {w : Value} {t : FieldType} {i : Instr} {rest : List Value} (hret : meth.sig.returnType = some t) (hn : narrow t w = w)
    (hi : (i = .ireturn ∧ (t = .int ∨ t = .boolean ∨ t = .byte ∨ t = .char ∨ t = .short) ∧ ∃ z, w = .int z) ∨ (i = .lreturn ∧ t = .long ∧ ∃ z, w = .long z) ∨ (i = .dreturn ∧ t = .double ∧ ∃ z, w = .double z) ∨ (i = .freturn ∧ t = .float ∧ ∃ z, w = .float z) ∨ (i = .areturn ∧ t.isReference = true ∧ w.isRef = true))
    (hd : decode bs pc = .ok (i, 1)) (hF : own_Lv F s T locs cells slots (some w)) : own_End p e below F (T.setTop (mkF m pc Ls (w :: rest))) := by
  obtain ⟨fs, hr, hrun, hended, hW, hsame⟩ := X.leave (v := some w) (fun h => by rw [hret] at h; cases h) hlk
  exact ⟨_, _, retOut X hx hret hn hi (hb hby hd) hr, hrun, hended, hF fs hW hsame⟩
theorem own_ireturn (X : Stand p l e R s m args below meth c T locs cells slots) (hx : p.tables.exec = Jvm.exec) (hlk : meth.locks = false) (hby : c.code = bs) {z : Int32} {rest : List Value} (hret : meth.sig.returnType = some .int)
    (hd : decode bs pc = .ok (.ireturn, 1)) (hF : own_Lv F s T locs cells slots (some (.int z))) : own_End p e below F (T.setTop (mkF m pc Ls (.int z :: rest))) :=
  own_retW X hx hlk hby hret rfl (Or.inl ⟨rfl, Or.inl rfl, _, rfl⟩) hd hF
theorem own_zreturn (X : Stand p l e R s m args below meth c T locs cells slots) (hx : p.tables.exec = Jvm.exec) (hlk : meth.locks = false) (hby : c.code = bs) {z : Int32} {rest : List Value} (hret : meth.sig.returnType = some .boolean) (hz : z = 0 ∨ z = 1)
    (hd : decode bs pc = .ok (.ireturn, 1)) (hF : own_Lv F s T locs cells slots (some (.int z))) : own_End p e below F (T.setTop (mkF m pc Ls (.int z :: rest))) :=
  own_retW X hx hlk hby hret (by rcases hz with rfl | rfl <;> rfl) (Or.inl ⟨rfl, Or.inr (Or.inl rfl), _, rfl⟩) hd hF
theorem own_breturn (X : Stand p l e R s m args below meth c T locs cells slots) (hx : p.tables.exec = Jvm.exec) (hlk : meth.locks = false) (hby : c.code = bs) {z : Int32} {rest : List Value} (hret : meth.sig.returnType = some .byte) (hz : z.toInt8.toInt32 = z)
    (hd : decode bs pc = .ok (.ireturn, 1)) (hF : own_Lv F s T locs cells slots (some (.int z))) : own_End p e below F (T.setTop (mkF m pc Ls (.int z :: rest))) :=
  own_retW X hx hlk hby hret (show Value.int z.toInt8.toInt32 = .int z by rw [hz]) (Or.inl ⟨rfl, Or.inr (Or.inr (Or.inl rfl)), _, rfl⟩) hd hF
theorem own_lreturn (X : Stand p l e R s m args below meth c T locs cells slots) (hx : p.tables.exec = Jvm.exec) (hlk : meth.locks = false) (hby : c.code = bs) {z : Int64} {rest : List Value} (hret : meth.sig.returnType = some .long)
    (hd : decode bs pc = .ok (.lreturn, 1)) (hF : own_Lv F s T locs cells slots (some (.long z))) : own_End p e below F (T.setTop (mkF m pc Ls (.long z :: rest))) :=
  own_retW X hx hlk hby hret rfl (Or.inr (Or.inl ⟨rfl, rfl, _, rfl⟩)) hd hF
theorem own_areturn (X : Stand p l e R s m args below meth c T locs cells slots) (hx : p.tables.exec = Jvm.exec) (hlk : meth.locks = false) (hby : c.code = bs) {w : Value} {t : FieldType} {rest : List Value} (hret : meth.sig.returnType = some t) (ht : t.isReference = true) (hw : w.isRef = true)
    (hd : decode bs pc = .ok (.areturn, 1)) (hF : own_Lv F s T locs cells slots (some w)) : own_End p e below F (T.setTop (mkF m pc Ls (w :: rest))) :=
  own_retW X hx hlk hby hret (own_nar hw ht) (Or.inr (Or.inr (Or.inr (Or.inr ⟨rfl, ht, hw⟩)))) hd hF
theorem own_return (X : Stand p l e R s m args below meth c T locs cells slots) (hx : p.tables.exec = Jvm.exec) (hlk : meth.locks = false) (hby : c.code = bs) (hret : meth.sig.returnType = none)
    (hd : decode bs pc = .ok (.return_, 1)) (hF : own_Lv F s T locs cells slots none) : own_End p e below F (T.setTop (mkF m pc Ls [])) := by
  obtain ⟨fs, hr, hrun, hended, hW, hsame⟩ := X.leave (v := none) (fun _ => rfl) hlk
  exact ⟨_, _, X.returnOut hx hret (hb hby hd) hr, hrun, hended, hF fs hW hsame⟩
section Plain
theorem own_iload (X : Stand p l e R s m args below meth c T locs cells slots) (hx : p.tables.exec = Jvm.exec) (hby : c.code = bs) {k : Nat} {v : Int32} (hd : decode bs pc = .ok (.iload k, 2)) (hp : pc + 2 = pc') (hl : Ls[k]? = some (.val (.int v))) (h : own_End p e below F (T.setTop (mkF m pc' Ls (.int v :: st)))) : own_End p e below F (T.setTop (mkF m pc Ls st)) := by
  subst hp; exact own_step (fun t k => XS.iload X.here hx rfl (hb hby hd) hl k) h
theorem own_iloadN (X : Stand p l e R s m args below meth c T locs cells slots) (hx : p.tables.exec = Jvm.exec) (hby : c.code = bs) {k : Fin 4} {v : Int32} (hd : decode bs pc = .ok (.iload_n k, 1)) (hp : pc + 1 = pc') (hl : Ls[k.val]? = some (.val (.int v))) (h : own_End p e below F (T.setTop (mkF m pc' Ls (.int v :: st)))) : own_End p e below F (T.setTop (mkF m pc Ls st)) := by
  subst hp; exact own_step (fun t k => XS.iloadN X.here hx rfl (hb hby hd) hl k) h
theorem own_lload (X : Stand p l e R s m args below meth c T locs cells slots) (hx : p.tables.exec = Jvm.exec) (hby : c.code = bs) {k : Nat} {v : Int64} (hd : decode bs pc = .ok (.lload k, 2)) (hp : pc + 2 = pc') (hl : Ls[k]? = some (.val (.long v))) (h : own_End p e below F (T.setTop (mkF m pc' Ls (.long v :: st)))) : own_End p e below F (T.setTop (mkF m pc Ls st)) := by
  subst hp; exact own_step (fun t k => XS.lload X.here hx rfl (hb hby hd) hl k) h
theorem own_lloadN (X : Stand p l e R s m args below meth c T locs cells slots) (hx : p.tables.exec = Jvm.exec) (hby : c.code = bs) {k : Fin 4} {v : Int64} (hd : decode bs pc = .ok (.lload_n k, 1)) (hp : pc + 1 = pc') (hl : Ls[k.val]? = some (.val (.long v))) (h : own_End p e below F (T.setTop (mkF m pc' Ls (.long v :: st)))) : own_End p e below F (T.setTop (mkF m pc Ls st)) := by
  subst hp; exact own_step (fun t k => XS.lloadN X.here hx rfl (hb hby hd) hl k) h
theorem own_aload (X : Stand p l e R s m args below meth c T locs cells slots) (hx : p.tables.exec = Jvm.exec) (hby : c.code = bs) {k : Nat} {v : Value} (hd : decode bs pc = .ok (.aload k, 2)) (hp : pc + 2 = pc') (hl : Ls[k]? = some (.val v)) (hv : v.isRef = true) (h : own_End p e below F (T.setTop (mkF m pc' Ls (v :: st)))) : own_End p e below F (T.setTop (mkF m pc Ls st)) := by
  subst hp; exact own_step (fun t k => XS.aload X.here hx rfl (hb hby hd) hl hv k) h
theorem own_aloadN (X : Stand p l e R s m args below meth c T locs cells slots) (hx : p.tables.exec = Jvm.exec) (hby : c.code = bs) {k : Fin 4} {v : Value} (hd : decode bs pc = .ok (.aload_n k, 1)) (hp : pc + 1 = pc') (hl : Ls[k.val]? = some (.val v)) (hv : v.isRef = true) (h : own_End p e below F (T.setTop (mkF m pc' Ls (v :: st)))) : own_End p e below F (T.setTop (mkF m pc Ls st)) := by
  subst hp; exact own_step (fun t k => XS.aloadN X.here hx rfl (hb hby hd) hl hv k) h
theorem own_istore (X : Stand p l e R s m args below meth c T locs cells slots) (hx : p.tables.exec = Jvm.exec) (hby : c.code = bs) {k : Nat} {x : Int32} (hd : decode bs pc = .ok (.istore k, 2)) (hp : pc + 2 = pc') (hl : storeLocals Ls k (.int x) = some l') (h : own_End p e below F (T.setTop (mkF m pc' l' st))) : own_End p e below F (T.setTop (mkF m pc Ls (.int x :: st))) := by
  subst hp; exact own_step (fun t k => XS.istore X.here hx rfl (hb hby hd) rfl hl k) h
theorem own_istoreN (X : Stand p l e R s m args below meth c T locs cells slots) (hx : p.tables.exec = Jvm.exec) (hby : c.code = bs) {k : Fin 4} {x : Int32} (hd : decode bs pc = .ok (.istore_n k, 1)) (hp : pc + 1 = pc') (hl : storeLocals Ls k.val (.int x) = some l') (h : own_End p e below F (T.setTop (mkF m pc' l' st))) : own_End p e below F (T.setTop (mkF m pc Ls (.int x :: st))) := by
  subst hp; exact own_step (fun t k => XS.istoreN X.here hx rfl (hb hby hd) rfl hl k) h
theorem own_lstore (X : Stand p l e R s m args below meth c T locs cells slots) (hx : p.tables.exec = Jvm.exec) (hby : c.code = bs) {k : Nat} {x : Int64} (hd : decode bs pc = .ok (.lstore k, 2)) (hp : pc + 2 = pc') (hl : storeLocals Ls k (.long x) = some l') (h : own_End p e below F (T.setTop (mkF m pc' l' st))) : own_End p e below F (T.setTop (mkF m pc Ls (.long x :: st))) := by
  subst hp; exact own_step (fun t k => XS.lstore X.here hx rfl (hb hby hd) rfl hl k) h
theorem own_lstoreN (X : Stand p l e R s m args below meth c T locs cells slots) (hx : p.tables.exec = Jvm.exec) (hby : c.code = bs) {k : Fin 4} {x : Int64} (hd : decode bs pc = .ok (.lstore_n k, 1)) (hp : pc + 1 = pc') (hl : storeLocals Ls k.val (.long x) = some l') (h : own_End p e below F (T.setTop (mkF m pc' l' st))) : own_End p e below F (T.setTop (mkF m pc Ls (.long x :: st))) := by
  subst hp; exact own_step (fun t k => XS.lstoreN X.here hx rfl (hb hby hd) rfl hl k) h
theorem own_astore (X : Stand p l e R s m args below meth c T locs cells slots) (hx : p.tables.exec = Jvm.exec) (hby : c.code = bs) {k : Nat} {x : Value} (hd : decode bs pc = .ok (.astore k, 2)) (hp : pc + 2 = pc') (hv : x.isRef = true) (hl : storeLocals Ls k x = some l') (h : own_End p e below F (T.setTop (mkF m pc' l' st))) : own_End p e below F (T.setTop (mkF m pc Ls (x :: st))) := by
  subst hp; exact own_step (fun t k => XS.astore X.here hx rfl (hb hby hd) rfl hv hl k) h
theorem own_astoreN (X : Stand p l e R s m args below meth c T locs cells slots) (hx : p.tables.exec = Jvm.exec) (hby : c.code = bs) {k : Fin 4} {x : Value} (hd : decode bs pc = .ok (.astore_n k, 1)) (hp : pc + 1 = pc') (hv : x.isRef = true) (hl : storeLocals Ls k.val x = some l') (h : own_End p e below F (T.setTop (mkF m pc' l' st))) : own_End p e below F (T.setTop (mkF m pc Ls (x :: st))) := by
  subst hp; exact own_step (fun t k => XS.astoreN X.here hx rfl (hb hby hd) rfl hv hl k) h
theorem own_iinc (X : Stand p l e R s m args below meth c T locs cells slots) (hx : p.tables.exec = Jvm.exec) (hby : c.code = bs) {k : Nat} {cst : Int} {x y : Int32} (hd : decode bs pc = .ok (.iinc k cst, 3)) (hp : pc + 3 = pc') (hl : Ls[k]? = some (.val (.int x))) (hy : x + Int32.ofInt cst = y) (hl' : storeLocals Ls k (.int y) = some l') (h : own_End p e below F (T.setTop (mkF m pc' l' st))) : own_End p e below F (T.setTop (mkF m pc Ls st)) := by
  subst hp hy; exact own_step (fun t k => XS.iinc X.here hx rfl (hb hby hd) hl hl' k) h
theorem own_iconst (X : Stand p l e R s m args below meth c T locs cells slots) (hx : p.tables.exec = Jvm.exec) (hby : c.code = bs) {i : Int} {n : Int32} (hd : decode bs pc = .ok (.iconst i, 1)) (hp : pc + 1 = pc') (hn : Int32.ofInt i = n) (h : own_End p e below F (T.setTop (mkF m pc' Ls (.int n :: st)))) : own_End p e below F (T.setTop (mkF m pc Ls st)) := by
  subst hp hn; exact own_step (fun t k => XS.iconst X.here hx rfl (hb hby hd) k) h
theorem own_bipush (X : Stand p l e R s m args below meth c T locs cells slots) (hx : p.tables.exec = Jvm.exec) (hby : c.code = bs) {i : Int} {n : Int32} (hd : decode bs pc = .ok (.bipush i, 2)) (hp : pc + 2 = pc') (hn : (Int8.ofInt i).toInt32 = n) (h : own_End p e below F (T.setTop (mkF m pc' Ls (.int n :: st)))) : own_End p e below F (T.setTop (mkF m pc Ls st)) := by
  subst hp hn; exact own_step (fun t k => XS.bipush X.here hx rfl (hb hby hd) k) h
theorem own_sipush (X : Stand p l e R s m args below meth c T locs cells slots) (hx : p.tables.exec = Jvm.exec) (hby : c.code = bs) {i : Int} {n : Int32} (hd : decode bs pc = .ok (.sipush i, 3)) (hp : pc + 3 = pc') (hn : (Int16.ofInt i).toInt32 = n) (h : own_End p e below F (T.setTop (mkF m pc' Ls (.int n :: st)))) : own_End p e below F (T.setTop (mkF m pc Ls st)) := by
  subst hp hn; exact own_step (fun t k => XS.sipush X.here hx rfl (hb hby hd) k) h
theorem own_lconst (X : Stand p l e R s m args below meth c T locs cells slots) (hx : p.tables.exec = Jvm.exec) (hby : c.code = bs) {i : Fin 2} {n : Int64} (hd : decode bs pc = .ok (.lconst i, 1)) (hp : pc + 1 = pc') (hn : Int64.ofNat i.val = n) (h : own_End p e below F (T.setTop (mkF m pc' Ls (.long n :: st)))) : own_End p e below F (T.setTop (mkF m pc Ls st)) := by
  subst hp hn; exact own_step (fun t k => XS.lconst X.here hx rfl (hb hby hd) k) h
theorem own_aconst_null (X : Stand p l e R s m args below meth c T locs cells slots) (hx : p.tables.exec = Jvm.exec) (hby : c.code = bs) (hd : decode bs pc = .ok (.aconst_null, 1)) (hp : pc + 1 = pc') (h : own_End p e below F (T.setTop (mkF m pc' Ls (.null :: st)))) : own_End p e below F (T.setTop (mkF m pc Ls st)) := by
  subst hp; exact own_step (fun t k => XS.aconstNull X.here hx rfl (hb hby hd) k) h
theorem own_goto (X : Stand p l e R s m args below meth c T locs cells slots) (hx : p.tables.exec = Jvm.exec) (hby : c.code = bs) {o : Int} (hd : decode bs pc = .ok (.goto o, 3)) (ho : 0 ≤ (pc : Int) + o) (hp : ((pc : Int) + o).toNat = pc') (h : own_End p e below F (T.setTop (mkF m pc' Ls st))) : own_End p e below F (T.setTop (mkF m pc Ls st)) :=
  own_step (fun t k => XS.goto X.here hx rfl (pc0 := pc) (pc' := pc') rfl (hb hby hd) ho hp k) h
theorem own_dup (X : Stand p l e R s m args below meth c T locs cells slots) (hx : p.tables.exec = Jvm.exec) (hby : c.code = bs) {x : Value} (hd : decode bs pc = .ok (.dup, 1)) (hp : pc + 1 = pc') (hc : x.category = 1) (h : own_End p e below F (T.setTop (mkF m pc' Ls (x :: x :: st)))) : own_End p e below F (T.setTop (mkF m pc Ls (x :: st))) := by
  subst hp; exact own_step (fun t k => XS.dup X.here hx rfl (hb hby hd) rfl hc k) h
theorem own_dup_x1 (X : Stand p l e R s m args below meth c T locs cells slots) (hx : p.tables.exec = Jvm.exec) (hby : c.code = bs) {x y : Value} (hd : decode bs pc = .ok (.dup_x1, 1)) (hp : pc + 1 = pc') (hc : x.category = 1) (hc2 : y.category = 1) (h : own_End p e below F (T.setTop (mkF m pc' Ls (x :: y :: x :: st)))) : own_End p e below F (T.setTop (mkF m pc Ls (x :: y :: st))) := by
  subst hp; exact own_step (fun t k => XS.dupX1 X.here hx rfl (hb hby hd) rfl hc hc2 k) h
theorem own_pop (X : Stand p l e R s m args below meth c T locs cells slots) (hx : p.tables.exec = Jvm.exec) (hby : c.code = bs) {x : Value} (hd : decode bs pc = .ok (.pop, 1)) (hp : pc + 1 = pc') (hc : x.category = 1) (h : own_End p e below F (T.setTop (mkF m pc' Ls st))) : own_End p e below F (T.setTop (mkF m pc Ls (x :: st))) := by
  subst hp; exact own_step (fun t k => XS.pop X.here hx rfl (hb hby hd) rfl hc k) h
theorem own_pop2 (X : Stand p l e R s m args below meth c T locs cells slots) (hx : p.tables.exec = Jvm.exec) (hby : c.code = bs) {x : Int64} (hd : decode bs pc = .ok (.pop2, 1)) (hp : pc + 1 = pc') (h : own_End p e below F (T.setTop (mkF m pc' Ls st))) : own_End p e below F (T.setTop (mkF m pc Ls (.long x :: st))) := by
  subst hp
  refine own_step (fun t k => ?_) h
  have hd' := hb hby hd
  have hc : (Value.long x).category = 2 := rfl
  jvm_step X.here [X.here.top, hx, hd', Op.pop2.wp_sem, hc]
  exact k
theorem own_iadd (X : Stand p l e R s m args below meth c T locs cells slots) (hx : p.tables.exec = Jvm.exec) (hby : c.code = bs) {x y : Int32} (hd : decode bs pc = .ok (.iadd, 1)) (hp : pc + 1 = pc') (h : own_End p e below F (T.setTop (mkF m pc' Ls (.int (x + y) :: st)))) : own_End p e below F (T.setTop (mkF m pc Ls (.int y :: .int x :: st))) := by
  subst hp; exact own_step (fun t k => XS.iadd X.here hx rfl (hb hby hd) rfl k) h
theorem own_isub (X : Stand p l e R s m args below meth c T locs cells slots) (hx : p.tables.exec = Jvm.exec) (hby : c.code = bs) {x y : Int32} (hd : decode bs pc = .ok (.isub, 1)) (hp : pc + 1 = pc') (h : own_End p e below F (T.setTop (mkF m pc' Ls (.int (x - y) :: st)))) : own_End p e below F (T.setTop (mkF m pc Ls (.int y :: .int x :: st))) := by
  subst hp; exact own_step (fun t k => XS.isub X.here hx rfl (hb hby hd) rfl k) h
theorem own_imul (X : Stand p l e R s m args below meth c T locs cells slots) (hx : p.tables.exec = Jvm.exec) (hby : c.code = bs) {x y : Int32} (hd : decode bs pc = .ok (.imul, 1)) (hp : pc + 1 = pc') (h : own_End p e below F (T.setTop (mkF m pc' Ls (.int (x * y) :: st)))) : own_End p e below F (T.setTop (mkF m pc Ls (.int y :: .int x :: st))) := by
  subst hp; exact own_step (fun t k => XS.imul X.here hx rfl (hb hby hd) rfl k) h
theorem own_iand (X : Stand p l e R s m args below meth c T locs cells slots) (hx : p.tables.exec = Jvm.exec) (hby : c.code = bs) {x y : Int32} (hd : decode bs pc = .ok (.iand, 1)) (hp : pc + 1 = pc') (h : own_End p e below F (T.setTop (mkF m pc' Ls (.int (x &&& y) :: st)))) : own_End p e below F (T.setTop (mkF m pc Ls (.int y :: .int x :: st))) := by
  subst hp; exact own_step (fun t k => XS.iand X.here hx rfl (hb hby hd) rfl k) h
theorem own_ior (X : Stand p l e R s m args below meth c T locs cells slots) (hx : p.tables.exec = Jvm.exec) (hby : c.code = bs) {x y : Int32} (hd : decode bs pc = .ok (.ior, 1)) (hp : pc + 1 = pc') (h : own_End p e below F (T.setTop (mkF m pc' Ls (.int (x ||| y) :: st)))) : own_End p e below F (T.setTop (mkF m pc Ls (.int y :: .int x :: st))) := by
  subst hp; exact own_step (fun t k => XS.ior X.here hx rfl (hb hby hd) rfl k) h
theorem own_ixor (X : Stand p l e R s m args below meth c T locs cells slots) (hx : p.tables.exec = Jvm.exec) (hby : c.code = bs) {x y : Int32} (hd : decode bs pc = .ok (.ixor, 1)) (hp : pc + 1 = pc') (h : own_End p e below F (T.setTop (mkF m pc' Ls (.int (x ^^^ y) :: st)))) : own_End p e below F (T.setTop (mkF m pc Ls (.int y :: .int x :: st))) := by
  subst hp; exact own_step (fun t k => XS.ixor X.here hx rfl (hb hby hd) rfl k) h
theorem own_ladd (X : Stand p l e R s m args below meth c T locs cells slots) (hx : p.tables.exec = Jvm.exec) (hby : c.code = bs) {x y : Int64} (hd : decode bs pc = .ok (.ladd, 1)) (hp : pc + 1 = pc') (h : own_End p e below F (T.setTop (mkF m pc' Ls (.long (x + y) :: st)))) : own_End p e below F (T.setTop (mkF m pc Ls (.long y :: .long x :: st))) := by
  subst hp; exact own_step (fun t k => XS.ladd X.here hx rfl (hb hby hd) rfl k) h
theorem own_lsub (X : Stand p l e R s m args below meth c T locs cells slots) (hx : p.tables.exec = Jvm.exec) (hby : c.code = bs) {x y : Int64} (hd : decode bs pc = .ok (.lsub, 1)) (hp : pc + 1 = pc') (h : own_End p e below F (T.setTop (mkF m pc' Ls (.long (x - y) :: st)))) : own_End p e below F (T.setTop (mkF m pc Ls (.long y :: .long x :: st))) := by
  subst hp; exact own_step (fun t k => XS.lsub X.here hx rfl (hb hby hd) rfl k) h
theorem own_lmul (X : Stand p l e R s m args below meth c T locs cells slots) (hx : p.tables.exec = Jvm.exec) (hby : c.code = bs) {x y : Int64} (hd : decode bs pc = .ok (.lmul, 1)) (hp : pc + 1 = pc') (h : own_End p e below F (T.setTop (mkF m pc' Ls (.long (x * y) :: st)))) : own_End p e below F (T.setTop (mkF m pc Ls (.long y :: .long x :: st))) := by
  subst hp; exact own_step (fun t k => XS.lmul X.here hx rfl (hb hby hd) rfl k) h
theorem own_land (X : Stand p l e R s m args below meth c T locs cells slots) (hx : p.tables.exec = Jvm.exec) (hby : c.code = bs) {x y : Int64} (hd : decode bs pc = .ok (.land, 1)) (hp : pc + 1 = pc') (h : own_End p e below F (T.setTop (mkF m pc' Ls (.long (x &&& y) :: st)))) : own_End p e below F (T.setTop (mkF m pc Ls (.long y :: .long x :: st))) := by
  subst hp; exact own_step (fun t k => XS.land X.here hx rfl (hb hby hd) rfl k) h
theorem own_lor (X : Stand p l e R s m args below meth c T locs cells slots) (hx : p.tables.exec = Jvm.exec) (hby : c.code = bs) {x y : Int64} (hd : decode bs pc = .ok (.lor, 1)) (hp : pc + 1 = pc') (h : own_End p e below F (T.setTop (mkF m pc' Ls (.long (x ||| y) :: st)))) : own_End p e below F (T.setTop (mkF m pc Ls (.long y :: .long x :: st))) := by
  subst hp; exact own_step (fun t k => XS.lor X.here hx rfl (hb hby hd) rfl k) h
theorem own_lxor (X : Stand p l e R s m args below meth c T locs cells slots) (hx : p.tables.exec = Jvm.exec) (hby : c.code = bs) {x y : Int64} (hd : decode bs pc = .ok (.lxor, 1)) (hp : pc + 1 = pc') (h : own_End p e below F (T.setTop (mkF m pc' Ls (.long (x ^^^ y) :: st)))) : own_End p e below F (T.setTop (mkF m pc Ls (.long y :: .long x :: st))) := by
  subst hp; exact own_step (fun t k => XS.lxor X.here hx rfl (hb hby hd) rfl k) h
theorem own_ishl (X : Stand p l e R s m args below meth c T locs cells slots) (hx : p.tables.exec = Jvm.exec) (hby : c.code = bs) {x y : Int32} (hd : decode bs pc = .ok (.ishl, 1)) (hp : pc + 1 = pc') (h : own_End p e below F (T.setTop (mkF m pc' Ls (.int (x <<< (y &&& 31)) :: st)))) : own_End p e below F (T.setTop (mkF m pc Ls (.int y :: .int x :: st))) := by
  subst hp; exact own_step (fun t k => XS.ishl X.here hx rfl (hb hby hd) rfl k) h
theorem own_ishr (X : Stand p l e R s m args below meth c T locs cells slots) (hx : p.tables.exec = Jvm.exec) (hby : c.code = bs) {x y : Int32} (hd : decode bs pc = .ok (.ishr, 1)) (hp : pc + 1 = pc') (h : own_End p e below F (T.setTop (mkF m pc' Ls (.int (x >>> (y &&& 31)) :: st)))) : own_End p e below F (T.setTop (mkF m pc Ls (.int y :: .int x :: st))) := by
  subst hp; exact own_step (fun t k => XS.ishr X.here hx rfl (hb hby hd) rfl k) h
theorem own_iushr (X : Stand p l e R s m args below meth c T locs cells slots) (hx : p.tables.exec = Jvm.exec) (hby : c.code = bs) {x y : Int32} (hd : decode bs pc = .ok (.iushr, 1)) (hp : pc + 1 = pc') (h : own_End p e below F (T.setTop (mkF m pc' Ls (.int ((x.toUInt32 >>> (y &&& 31).toUInt32).toInt32) :: st)))) : own_End p e below F (T.setTop (mkF m pc Ls (.int y :: .int x :: st))) := by
  subst hp; exact own_step (fun t k => XS.iushr X.here hx rfl (hb hby hd) rfl k) h
theorem own_lshl (X : Stand p l e R s m args below meth c T locs cells slots) (hx : p.tables.exec = Jvm.exec) (hby : c.code = bs) {x : Int64} {y : Int32} (hd : decode bs pc = .ok (.lshl, 1)) (hp : pc + 1 = pc') (h : own_End p e below F (T.setTop (mkF m pc' Ls (.long (x <<< (y &&& 0x3f).toInt64) :: st)))) : own_End p e below F (T.setTop (mkF m pc Ls (.int y :: .long x :: st))) := by
  subst hp; exact own_step (fun t k => XS.lshl X.here hx rfl (hb hby hd) rfl k) h
theorem own_lshr (X : Stand p l e R s m args below meth c T locs cells slots) (hx : p.tables.exec = Jvm.exec) (hby : c.code = bs) {x : Int64} {y : Int32} (hd : decode bs pc = .ok (.lshr, 1)) (hp : pc + 1 = pc') (h : own_End p e below F (T.setTop (mkF m pc' Ls (.long (x >>> (y &&& 0x3f).toInt64) :: st)))) : own_End p e below F (T.setTop (mkF m pc Ls (.int y :: .long x :: st))) := by
  subst hp; exact own_step (fun t k => XS.lshr X.here hx rfl (hb hby hd) rfl k) h
theorem own_lushr (X : Stand p l e R s m args below meth c T locs cells slots) (hx : p.tables.exec = Jvm.exec) (hby : c.code = bs) {x : Int64} {y : Int32} (hd : decode bs pc = .ok (.lushr, 1)) (hp : pc + 1 = pc') (h : own_End p e below F (T.setTop (mkF m pc' Ls (.long ((x.toUInt64 >>> (y &&& 0x3f).toInt64.toUInt64).toInt64) :: st)))) : own_End p e below F (T.setTop (mkF m pc Ls (.int y :: .long x :: st))) := by
  subst hp; exact own_step (fun t k => XS.lushr X.here hx rfl (hb hby hd) rfl k) h
theorem own_lcmp (X : Stand p l e R s m args below meth c T locs cells slots) (hx : p.tables.exec = Jvm.exec) (hby : c.code = bs) {x y : Int64} (hd : decode bs pc = .ok (.lcmp, 1)) (hp : pc + 1 = pc') (h : own_End p e below F (T.setTop (mkF m pc' Ls (.int (lcmpW x y) :: st)))) : own_End p e below F (T.setTop (mkF m pc Ls (.long y :: .long x :: st))) := by
  subst hp; exact own_step (fun t k => XS.lcmp X.here hx rfl (hb hby hd) rfl k) h
theorem own_ineg (X : Stand p l e R s m args below meth c T locs cells slots) (hx : p.tables.exec = Jvm.exec) (hby : c.code = bs) {x : Int32} (hd : decode bs pc = .ok (.ineg, 1)) (hp : pc + 1 = pc') (h : own_End p e below F (T.setTop (mkF m pc' Ls (.int (-x) :: st)))) : own_End p e below F (T.setTop (mkF m pc Ls (.int x :: st))) := by
  subst hp; exact own_step (fun t k => XS.ineg X.here hx rfl (hb hby hd) rfl k) h
theorem own_i2b (X : Stand p l e R s m args below meth c T locs cells slots) (hx : p.tables.exec = Jvm.exec) (hby : c.code = bs) {x : Int32} (hd : decode bs pc = .ok (.i2b, 1)) (hp : pc + 1 = pc') (h : own_End p e below F (T.setTop (mkF m pc' Ls (.int (x.toInt8.toInt32) :: st)))) : own_End p e below F (T.setTop (mkF m pc Ls (.int x :: st))) := by
  subst hp; exact own_step (fun t k => XS.i2b X.here hx rfl (hb hby hd) rfl k) h
theorem own_i2s (X : Stand p l e R s m args below meth c T locs cells slots) (hx : p.tables.exec = Jvm.exec) (hby : c.code = bs) {x : Int32} (hd : decode bs pc = .ok (.i2s, 1)) (hp : pc + 1 = pc') (h : own_End p e below F (T.setTop (mkF m pc' Ls (.int (x.toInt16.toInt32) :: st)))) : own_End p e below F (T.setTop (mkF m pc Ls (.int x :: st))) := by
  subst hp; exact own_step (fun t k => XS.i2s X.here hx rfl (hb hby hd) rfl k) h
theorem own_i2c (X : Stand p l e R s m args below meth c T locs cells slots) (hx : p.tables.exec = Jvm.exec) (hby : c.code = bs) {x : Int32} (hd : decode bs pc = .ok (.i2c, 1)) (hp : pc + 1 = pc') (h : own_End p e below F (T.setTop (mkF m pc' Ls (.int (x.toUInt32.toUInt16.toUInt32.toInt32) :: st)))) : own_End p e below F (T.setTop (mkF m pc Ls (.int x :: st))) := by
  subst hp; exact own_step (fun t k => XS.i2c X.here hx rfl (hb hby hd) rfl k) h
theorem own_i2l (X : Stand p l e R s m args below meth c T locs cells slots) (hx : p.tables.exec = Jvm.exec) (hby : c.code = bs) {x : Int32} (hd : decode bs pc = .ok (.i2l, 1)) (hp : pc + 1 = pc') (h : own_End p e below F (T.setTop (mkF m pc' Ls (.long (x.toInt64) :: st)))) : own_End p e below F (T.setTop (mkF m pc Ls (.int x :: st))) := by
  subst hp; exact own_step (fun t k => XS.i2l X.here hx rfl (hb hby hd) rfl k) h
theorem own_lneg (X : Stand p l e R s m args below meth c T locs cells slots) (hx : p.tables.exec = Jvm.exec) (hby : c.code = bs) {x : Int64} (hd : decode bs pc = .ok (.lneg, 1)) (hp : pc + 1 = pc') (h : own_End p e below F (T.setTop (mkF m pc' Ls (.long (-x) :: st)))) : own_End p e below F (T.setTop (mkF m pc Ls (.long x :: st))) := by
  subst hp; exact own_step (fun t k => XS.lneg X.here hx rfl (hb hby hd) rfl k) h
theorem own_l2i (X : Stand p l e R s m args below meth c T locs cells slots) (hx : p.tables.exec = Jvm.exec) (hby : c.code = bs) {x : Int64} (hd : decode bs pc = .ok (.l2i, 1)) (hp : pc + 1 = pc') (h : own_End p e below F (T.setTop (mkF m pc' Ls (.int (x.toInt32) :: st)))) : own_End p e below F (T.setTop (mkF m pc Ls (.long x :: st))) := by
  subst hp; exact own_step (fun t k => XS.l2i X.here hx rfl (hb hby hd) rfl k) h
theorem own_idiv (X : Stand p l e R s m args below meth c T locs cells slots) (hx : p.tables.exec = Jvm.exec) (hby : c.code = bs) {x y : Int32} (hd : decode bs pc = .ok (.idiv, 1)) (hp : pc + 1 = pc') (hy : ¬ y = 0) (h : own_End p e below F (T.setTop (mkF m pc' Ls (.int (x / y) :: st)))) : own_End p e below F (T.setTop (mkF m pc Ls (.int y :: .int x :: st))) := by
  subst hp; exact own_step (fun t k => XS.idiv X.here hx rfl (hb hby hd) rfl hy k) h
theorem own_irem (X : Stand p l e R s m args below meth c T locs cells slots) (hx : p.tables.exec = Jvm.exec) (hby : c.code = bs) {x y : Int32} (hd : decode bs pc = .ok (.irem, 1)) (hp : pc + 1 = pc') (hy : ¬ y = 0) (h : own_End p e below F (T.setTop (mkF m pc' Ls (.int (x % y) :: st)))) : own_End p e below F (T.setTop (mkF m pc Ls (.int y :: .int x :: st))) := by
  subst hp; exact own_step (fun t k => iremM X hx rfl (hb hby hd) rfl hy k) h
theorem own_ldiv (X : Stand p l e R s m args below meth c T locs cells slots) (hx : p.tables.exec = Jvm.exec) (hby : c.code = bs) {x y : Int64} (hd : decode bs pc = .ok (.ldiv, 1)) (hp : pc + 1 = pc') (hy : ¬ y = 0) (h : own_End p e below F (T.setTop (mkF m pc' Ls (.long (x / y) :: st)))) : own_End p e below F (T.setTop (mkF m pc Ls (.long y :: .long x :: st))) := by
  subst hp; exact own_step (fun t k => XS.ldiv X.here hx rfl (hb hby hd) rfl hy k) h
theorem own_lrem (X : Stand p l e R s m args below meth c T locs cells slots) (hx : p.tables.exec = Jvm.exec) (hby : c.code = bs) {x y : Int64} (hd : decode bs pc = .ok (.lrem, 1)) (hp : pc + 1 = pc') (hy : ¬ y = 0) (h : own_End p e below F (T.setTop (mkF m pc' Ls (.long (x % y) :: st)))) : own_End p e below F (T.setTop (mkF m pc Ls (.long y :: .long x :: st))) := by
  subst hp; exact own_step (fun t k => XS.lrem X.here hx rfl (hb hby hd) rfl hy (by rw [lrem_mod]; exact k)) h
/-- the branch's condition, and its contrary -/
abbrev own_ct (cd : ClassFile.Cond) (x y : Int32) : Prop := match cd with | .eq => x = y | .ne => ¬ x = y | .lt => x < y | .ge => ¬ x < y | .gt => y < x | .le => ¬ y < x
abbrev own_cf (cd : ClassFile.Cond) (x y : Int32) : Prop := match cd with | .eq => ¬ x = y | .ne => x = y | .lt => ¬ x < y | .ge => x < y | .gt => ¬ y < x | .le => y < x
abbrev own_ctL (cd : ClassFile.Cond) (x y : Int64) : Prop := match cd with | .eq => x = y | .ne => ¬ x = y | .lt => x < y | .ge => ¬ x < y | .gt => y < x | .le => ¬ y < x
abbrev own_cfL (cd : ClassFile.Cond) (x y : Int64) : Prop := match cd with | .eq => ¬ x = y | .ne => x = y | .lt => ¬ x < y | .ge => x < y | .gt => ¬ y < x | .le => y < x
theorem own_ct_y {cd : ClassFile.Cond} {x y : Int32} (h : own_ct cd x y) : if_icmp.holds cd x y = true := by
  cases cd
  · exact (teq h).1
  · exact (feq h).2
  · exact (tlt h).1
  · exact (flt h).2.1
  · exact (tlt h).2.2.1
  · exact (flt h).2.2.2
theorem own_ct_n {cd : ClassFile.Cond} {x y : Int32} (h : own_cf cd x y) : if_icmp.holds cd x y = false := by
  cases cd
  · exact (feq h).1
  · exact (teq h).2
  · exact (flt h).1
  · exact (tlt h).2.1
  · exact (flt h).2.2.1
  · exact (tlt h).2.2.2
theorem own_ct_or (cd : ClassFile.Cond) (x y : Int32) : own_ct cd x y ∨ own_cf cd x y := by
  cases cd
  · exact Decidable.em _
  · exact (Decidable.em _).symm
  · exact Decidable.em _
  · exact (Decidable.em _).symm
  · exact Decidable.em _
  · exact (Decidable.em _).symm
theorem own_ctL_or (cd : ClassFile.Cond) (x y : Int64) : own_ctL cd x y ∨ own_cfL cd x y := by
  cases cd
  · exact Decidable.em _
  · exact (Decidable.em _).symm
  · exact Decidable.em _
  · exact (Decidable.em _).symm
  · exact Decidable.em _
  · exact (Decidable.em _).symm
theorem own_ctL_y {cd : ClassFile.Cond} {x y : Int64} (h : own_ctL cd x y) : own_ct cd (lcmpW x y) 0 := by
  cases cd
  · exact (lw_eq x y).mpr h
  · exact fun q => h ((lw_eq x y).mp q)
  · exact (lw_lt x y).mpr h
  · exact fun q => h ((lw_lt x y).mp q)
  · exact (lw_gt x y).mpr h
  · exact fun q => h ((lw_gt x y).mp q)
theorem own_ctL_n {cd : ClassFile.Cond} {x y : Int64} (h : own_cfL cd x y) : own_cf cd (lcmpW x y) 0 := by
  cases cd
  · exact fun q => h ((lw_eq x y).mp q)
  · exact (lw_eq x y).mpr h
  · exact fun q => h ((lw_lt x y).mp q)
  · exact (lw_lt x y).mpr h
  · exact fun q => h ((lw_gt x y).mp q)
  · exact (lw_gt x y).mpr h
theorem own_ifY (X : Stand p l e R s m args below meth c T locs cells slots) (hx : p.tables.exec = Jvm.exec) (hby : c.code = bs) {cd : ClassFile.Cond} {x : Int32} {o : Int} (hd : decode bs pc = .ok (.ifCond cd o, 3)) (ho : 0 ≤ (pc : Int) + o) (hp : ((pc : Int) + o).toNat = pc') (hc : own_ct cd x 0) (h : own_End p e below F (T.setTop (mkF m pc' Ls st))) : own_End p e below F (T.setTop (mkF m pc Ls (.int x :: st))) :=
  own_step (fun t k => XS.ifYes X.here hx rfl (pc0 := pc) (pc' := pc') rfl (hb hby hd) rfl ((if0 _ _).trans (own_ct_y hc)) ho hp k) h
theorem own_ifN (X : Stand p l e R s m args below meth c T locs cells slots) (hx : p.tables.exec = Jvm.exec) (hby : c.code = bs) {cd : ClassFile.Cond} {x : Int32} {o : Int} (hd : decode bs pc = .ok (.ifCond cd o, 3)) (hp : pc + 3 = pc') (hc : own_cf cd x 0) (h : own_End p e below F (T.setTop (mkF m pc' Ls st))) : own_End p e below F (T.setTop (mkF m pc Ls (.int x :: st))) := by
  subst hp; exact own_step (fun t k => XS.ifNo X.here hx rfl (hb hby hd) rfl ((if0 _ _).trans (own_ct_n hc)) k) h
theorem own_icY (X : Stand p l e R s m args below meth c T locs cells slots) (hx : p.tables.exec = Jvm.exec) (hby : c.code = bs) {cd : ClassFile.Cond} {x y : Int32} {o : Int} (hd : decode bs pc = .ok (.if_icmp cd o, 3)) (ho : 0 ≤ (pc : Int) + o) (hp : ((pc : Int) + o).toNat = pc') (hc : own_ct cd x y) (h : own_End p e below F (T.setTop (mkF m pc' Ls st))) : own_End p e below F (T.setTop (mkF m pc Ls (.int y :: .int x :: st))) :=
  own_step (fun t k => XS.icmpYes X.here hx rfl (pc0 := pc) (pc' := pc') rfl (hb hby hd) rfl (own_ct_y hc) ho hp k) h
theorem own_icN (X : Stand p l e R s m args below meth c T locs cells slots) (hx : p.tables.exec = Jvm.exec) (hby : c.code = bs) {cd : ClassFile.Cond} {x y : Int32} {o : Int} (hd : decode bs pc = .ok (.if_icmp cd o, 3)) (hp : pc + 3 = pc') (hc : own_cf cd x y) (h : own_End p e below F (T.setTop (mkF m pc' Ls st))) : own_End p e below F (T.setTop (mkF m pc Ls (.int y :: .int x :: st))) := by
  subst hp; exact own_step (fun t k => XS.icmpNo X.here hx rfl (hb hby hd) rfl (own_ct_n hc) k) h
theorem own_if2 (X : Stand p l e R s m args below meth c T locs cells slots) (hx : p.tables.exec = Jvm.exec) (hby : c.code = bs) {cd : ClassFile.Cond} {x : Int32} {o : Int} {pc1 pc2 : Nat} (hd : decode bs pc = .ok (.ifCond cd o, 3)) (ho : 0 ≤ (pc : Int) + o) (hp : ((pc : Int) + o).toNat = pc1) (hp2 : pc + 3 = pc2) (h1 : own_ct cd x 0 → own_End p e below F (T.setTop (mkF m pc1 Ls st))) (h2 : own_cf cd x 0 → own_End p e below F (T.setTop (mkF m pc2 Ls st))) : own_End p e below F (T.setTop (mkF m pc Ls (.int x :: st))) :=
  (own_ct_or cd x 0).elim (fun q => own_ifY X hx hby hd ho hp q (h1 q)) (fun q => own_ifN X hx hby hd hp2 q (h2 q))
theorem own_ic2 (X : Stand p l e R s m args below meth c T locs cells slots) (hx : p.tables.exec = Jvm.exec) (hby : c.code = bs) {cd : ClassFile.Cond} {x y : Int32} {o : Int} {pc1 pc2 : Nat} (hd : decode bs pc = .ok (.if_icmp cd o, 3)) (ho : 0 ≤ (pc : Int) + o) (hp : ((pc : Int) + o).toNat = pc1) (hp2 : pc + 3 = pc2) (h1 : own_ct cd x y → own_End p e below F (T.setTop (mkF m pc1 Ls st))) (h2 : own_cf cd x y → own_End p e below F (T.setTop (mkF m pc2 Ls st))) : own_End p e below F (T.setTop (mkF m pc Ls (.int y :: .int x :: st))) :=
  (own_ct_or cd x y).elim (fun q => own_icY X hx hby hd ho hp q (h1 q)) (fun q => own_icN X hx hby hd hp2 q (h2 q))
theorem own_ifL2 (X : Stand p l e R s m args below meth c T locs cells slots) (hx : p.tables.exec = Jvm.exec) (hby : c.code = bs) {cd : ClassFile.Cond} {x y : Int64} {o : Int} {pc1 pc2 : Nat} (hd : decode bs pc = .ok (.ifCond cd o, 3)) (ho : 0 ≤ (pc : Int) + o) (hp : ((pc : Int) + o).toNat = pc1) (hp2 : pc + 3 = pc2) (h1 : own_ctL cd x y → own_End p e below F (T.setTop (mkF m pc1 Ls st))) (h2 : own_cfL cd x y → own_End p e below F (T.setTop (mkF m pc2 Ls st))) : own_End p e below F (T.setTop (mkF m pc Ls (.int (lcmpW x y) :: st))) :=
  (own_ctL_or cd x y).elim (fun q => own_ifY X hx hby hd ho hp (own_ctL_y q) (h1 q)) (fun q => own_ifN X hx hby hd hp2 (own_ctL_n q) (h2 q))
theorem own_ifnullY (X : Stand p l e R s m args below meth c T locs cells slots) (hx : p.tables.exec = Jvm.exec) (hby : c.code = bs) {o : Int} (hd : decode bs pc = .ok (.ifnull o, 3)) (ho : 0 ≤ (pc : Int) + o) (hp : ((pc : Int) + o).toNat = pc') (h : own_End p e below F (T.setTop (mkF m pc' Ls st))) : own_End p e below F (T.setTop (mkF m pc Ls (.null :: st))) :=
  own_step (fun t k => XS.ifnullYes X.here hx rfl (pc0 := pc) (pc' := pc') rfl (hb hby hd) rfl ho hp k) h
theorem own_ifnullN (X : Stand p l e R s m args below meth c T locs cells slots) (hx : p.tables.exec = Jvm.exec) (hby : c.code = bs) {o : Int} {b : Addr} (hd : decode bs pc = .ok (.ifnull o, 3)) (hp : pc + 3 = pc') (h : own_End p e below F (T.setTop (mkF m pc' Ls st))) : own_End p e below F (T.setTop (mkF m pc Ls (.ref b :: st))) := by
  subst hp; exact own_step (fun t k => XS.ifnullNo X.here hx rfl (hb hby hd) rfl k) h
theorem own_ifnonnullY (X : Stand p l e R s m args below meth c T locs cells slots) (hx : p.tables.exec = Jvm.exec) (hby : c.code = bs) {o : Int} {b : Addr} (hd : decode bs pc = .ok (.ifnonnull o, 3)) (ho : 0 ≤ (pc : Int) + o) (hp : ((pc : Int) + o).toNat = pc') (h : own_End p e below F (T.setTop (mkF m pc' Ls st))) : own_End p e below F (T.setTop (mkF m pc Ls (.ref b :: st))) :=
  own_step (fun t k => XS.ifnonnullYes X.here hx rfl (pc0 := pc) (pc' := pc') rfl (hb hby hd) rfl ho hp k) h
theorem own_ifnonnullN (X : Stand p l e R s m args below meth c T locs cells slots) (hx : p.tables.exec = Jvm.exec) (hby : c.code = bs) {o : Int} (hd : decode bs pc = .ok (.ifnonnull o, 3)) (hp : pc + 3 = pc') (h : own_End p e below F (T.setTop (mkF m pc' Ls st))) : own_End p e below F (T.setTop (mkF m pc Ls (.null :: st))) := by
  subst hp; exact own_step (fun t k => XS.ifnonnullNo X.here hx rfl (hb hby hd) rfl k) h
theorem own_acmp (X : Stand p l e R s m args below meth c T locs cells slots) (hx : p.tables.exec = Jvm.exec) (hby : c.code = bs) {cd : ACond} {x y : Value} {o : Int} {same : Bool} (hd : decode bs pc = .ok (.if_acmp cd o, 3)) (h1 : x.isRef = true) (h2 : y.isRef = true) (hq : decide (x = y) = same) (ho : 0 ≤ (pc : Int) + o) (hp : pc' = if acV cd same = true then ((pc : Int) + o).toNat else pc + 3) (h : own_End p e below F (T.setTop (mkF m pc' Ls st))) : own_End p e below F (T.setTop (mkF m pc Ls (y :: x :: st))) :=
  own_step (fun t k => Jvm.RoadKit.acmp (g := mkF m pc Ls (y :: x :: st)) X hx rfl h1 h2 (pc0 := pc) (pc' := pc') (same := same) rfl (hb hby hd) rfl hq ho hp k) h
end Plain
section Words
variable {Z : State} {a0 : Array Value}
theorem own_ldcInt (X : Stand p l e R s m args below meth c T locs cells slots) (hx : p.tables.exec = Jvm.exec) (hZ : Z.Warmed39 s.vm) (hby : c.code = bs) {own : String} {index : Nat} {v : Int32} (hown : s.vm.findClass own = some m.cls) (w : (Cond.constant own index v).before a0 Z = true) (hd : decode bs pc = .ok (.ldc index, 2)) (hp : pc + 2 = pc') (h : own_End p e below F (T.setTop (mkF m pc' Ls (.int v :: st)))) : own_End p e below F (T.setTop (mkF m pc Ls st)) := by
  subst hp; exact own_step (X.ldcInt hx hown (mvT hZ w) (g := mkF m pc Ls st) rfl (hb hby hd)) h
theorem own_ldc2Long (X : Stand p l e R s m args below meth c T locs cells slots) (hx : p.tables.exec = Jvm.exec) (hZ : Z.Warmed39 s.vm) (hby : c.code = bs) {own : String} {index : Nat} {v : Int64} (hown : s.vm.findClass own = some m.cls) (w : (Cond.constantLong own index v).before a0 Z = true) (hd : decode bs pc = .ok (.ldc2_w index, 3)) (hp : pc + 3 = pc') (h : own_End p e below F (T.setTop (mkF m pc' Ls (.long v :: st)))) : own_End p e below F (T.setTop (mkF m pc Ls st)) := by
  subst hp; exact own_step (X.ldc2Long hx hown (mvT hZ w) (g := mkF m pc Ls st) rfl (hb hby hd)) h
end Words
section Heap
variable {Z : State} {a0 : Array Value} {h : Heap}
theorem own_getF (X : Stand p l e R s m args below meth c T locs cells slots) (hx : p.tables.exec = Jvm.exec) (hZ : Z.Warmed39 s.vm) (hby : c.code = bs) {own R0 O n d host : String} {index : Nat} {a : Addr} {v : Value} (hown : s.vm.findClass own = some m.cls) (w : (Cond.fieldLink own index R0 n d).before a0 Z = true ∨ (Cond.fieldLinkNest own index R0 n d host).before a0 Z = true) (via : Via Z R0 O n d) (eT : T.heap = h) (Fd : Fld Z h a O n d v) (hd : decode bs pc = .ok (.getfield index, 3)) (hp : pc + 3 = pc')
    (k : ∀ T', Stand p l e R s m args below meth c T' locs cells slots → T'.heap = h → own_End p e below F (T'.setTop (mkF m pc' Ls (v :: st)))) : own_End p e below F (T.setTop (mkF m pc Ls (.ref a :: st))) := by
  subst hp
  obtain ⟨T', X', e', stp⟩ := getF X hx hZ hown w via eT Fd (g := mkF m pc Ls (.ref a :: st)) rfl rfl (hb hby hd)
  exact own_step stp (k T' X' e')
theorem own_getS (X : Stand p l e R s m args below meth c T locs cells slots) (hx : p.tables.exec = Jvm.exec) (hZ : Z.Warmed39 s.vm) (hby : c.code = bs) {own R0 O n d host : String} {index : Nat} {v : Value} (hown : s.vm.findClass own = some m.cls) (w : (Cond.fieldLink own index R0 n d).before a0 Z = true ∨ (Cond.fieldLinkNest own index R0 n d host).before a0 Z = true) (via : Via Z R0 O n d) (eT : T.heap = h) (Fd : Sta Z h O n d v) (hd : decode bs pc = .ok (.getstatic index, 3)) (hp : pc + 3 = pc')
    (k : ∀ T', Stand p l e R s m args below meth c T' locs cells slots → T'.heap = h → own_End p e below F (T'.setTop (mkF m pc' Ls (v :: st)))) : own_End p e below F (T.setTop (mkF m pc Ls st)) := by
  subst hp
  obtain ⟨T', X', e', stp⟩ := getS2 X hx hZ hown w via eT Fd (g := mkF m pc Ls st) rfl (hb hby hd)
  exact own_step stp (k T' X' e')
theorem own_putF (X : Stand p l e R s m args below meth c T locs cells slots) (hx : p.tables.exec = Jvm.exec) (hZ : Z.Warmed39 s.vm) (hby : c.code = bs) {own R0 O n d host C : String} {index kk : Nat} {ty : FieldType} {a : Addr} {v old : Value} (hown : s.vm.findClass own = some m.cls) (w : (Cond.fieldLink own index R0 n d).before a0 Z = true ∨ (Cond.fieldLinkNest own index R0 n d host).before a0 Z = true) (via : Via Z R0 O n d) (eT : T.heap = h) (Fd : Fld Z h a O n d old) (E : Exa Z h a C)
    (La : (Cond.lays C O n d).before a0 Z = true ∨ ((Cond.laysFinal C O n d).before a0 Z = true ∧ own = O ∧ meth.name = "<init>")) (wi : (Cond.instantiable C kk).before a0 Z = true) (hty : parseFieldDescriptor d = some ty) (hn : narrow ty v = v) (hf : fits ty v = true) (hd : decode bs pc = .ok (.putfield index, 3)) (hp : pc + 3 = pc')
    (k : ∀ T' h', Stand p l e R s m args below meth c T' (locs ++ [⟨a, Jvm.RoadKit.slotOf Z O n d⟩]) cells slots → T'.heap = h' → Wr h h' a (Jvm.RoadKit.slotOf Z O n d) v → own_End p e below F (T'.setTop (mkF m pc' Ls st))) : own_End p e below F (T.setTop (mkF m pc Ls (v :: .ref a :: st))) := by
  subst hp
  obtain ⟨T', h', X', e', W', stp⟩ := putF X hx hZ hown w via eT Fd E La wi hty hn hf (g := mkF m pc Ls (v :: .ref a :: st)) rfl rfl (hb hby hd)
  exact own_step stp (k T' h' X' e' W')
theorem own_putN (X : Stand p l e R s m args below meth c T locs cells slots) (hx : p.tables.exec = Jvm.exec) (hZ : Z.Warmed39 s.vm) (hby : c.code = bs) {own R0 O n d C : String} {index kk : Nat} {ty : FieldType} {a : Addr} {v v' old : Value} (hown : s.vm.findClass own = some m.cls) (w : (Cond.fieldLink own index R0 n d).before a0 Z = true) (via : Via Z R0 O n d) (eT : T.heap = h) (Fd : Fld Z h a O n d old) (E : Exa Z h a C)
    (La : (Cond.lays C O n d).before a0 Z = true ∨ ((Cond.laysFinal C O n d).before a0 Z = true ∧ own = O ∧ meth.name = "<init>")) (wi : (Cond.instantiable C kk).before a0 Z = true) (hty : parseFieldDescriptor d = some ty) (hn : narrow ty v = v') (hf : fits ty v' = true) (hd : decode bs pc = .ok (.putfield index, 3)) (hp : pc + 3 = pc')
    (k : ∀ T' h', Stand p l e R s m args below meth c T' (locs ++ [⟨a, Jvm.RoadKit.slotOf Z O n d⟩]) cells slots → T'.heap = h' → Wr h h' a (Jvm.RoadKit.slotOf Z O n d) v' → own_End p e below F (T'.setTop (mkF m pc' Ls st))) : own_End p e below F (T.setTop (mkF m pc Ls (v :: .ref a :: st))) := by
  subst hp
  obtain ⟨T', h', X', e', W', stp⟩ := putFN X hx hZ hown w via eT Fd E La wi hty hn hf (g := mkF m pc Ls (v :: .ref a :: st)) rfl rfl (hb hby hd)
  exact own_step stp (k T' h' X' e' W')
theorem own_new (X : Stand p l e R s m args below meth c T locs cells slots) (hx : p.tables.exec = Jvm.exec) (hZ : Z.Warmed39 s.vm) (hby : c.code = bs) {own C : String} {index n : Nat} (hown : s.vm.findClass own = some m.cls) (w : (Cond.classLink own index C).before a0 Z = true) (wi : (Cond.instantiable C n).before a0 Z = true) (wz : (Cond.initialized C).before a0 Z = true) (eT : T.heap = h) (hd : decode bs pc = .ok (.new index, 3)) (hp : pc + 3 = pc') (hc : cells + 1 ≤ R.cells) (hl : slots + n ≤ R.slots)
    (k : ∀ T' h' (b : Addr), b = h.size → Stand p l e R s m args below meth c T' locs (cells + 1) (slots + n) → T'.heap = h' → Ext h h' → Exa Z h' b C → (∀ {O nm d : String} {ty : FieldType}, Laid Z a0 C O nm d → parseFieldDescriptor d = some ty → Fld Z h' b O nm d (defaultValue ty)) → own_End p e below F (T'.setTop (mkF m pc' Ls (.ref b :: st)))) : own_End p e below F (T.setTop (mkF m pc Ls st)) := by
  subst hp
  obtain ⟨T', h', X', e', E', A', D', -, stp⟩ := newO X hx hZ hown w wi wz eT (g := mkF m pc Ls st) rfl (hb hby hd) hc hl
  exact own_step stp (k T' h' h.size rfl X' e' E' A' D')
theorem own_newP (X : Stand p l e R s m args below meth c T locs cells slots) (hx : p.tables.exec = Jvm.exec) (hZ : Z.Warmed39 s.vm) (hby : c.code = bs) {aty : ArrayType} {n : Int32} {cap : Nat} (w : (Cond.arrayClass (newarray.typeOf aty)).before a0 Z = true) (eT : T.heap = h) (hd : decode bs pc = .ok (.newarray aty, 2)) (hp : pc + 2 = pc') (hn : ¬ n < 0) (hcap : n.toNatClampNeg ≤ cap) (hb' : cap * 8 ≤ 536870912) (hc : cells + 1 ≤ R.cells) (hl : slots + cap ≤ R.slots)
    (k : ∀ T' h' cA (b : Addr), b = h.size → Stand p l e R s m args below meth c T' locs (cells + 1) (slots + cap) → T'.heap = h' → Ext h h' → Arr Z h' b (newA cA (newarray.typeOf aty) n) (newarray.typeOf aty) → own_End p e below F (T'.setTop (mkF m pc' Ls (.ref b :: st)))) : own_End p e below F (T.setTop (mkF m pc Ls (.int n :: st))) := by
  subst hp
  obtain ⟨T', h', cA, X', e', E', A', stp⟩ := newP X hx hZ w eT (g := mkF m pc Ls (.int n :: st)) rfl (hb hby hd) rfl hn hcap hb' hc hl
  exact own_step stp (k T' h' cA h.size rfl X' e' E' A')
theorem own_newPE (X : Stand p l e R s m args below meth c T locs cells slots) (hx : p.tables.exec = Jvm.exec) (hZ : Z.Warmed39 s.vm) (hby : c.code = bs) {aty : ArrayType} {n : Int32} {cap : Nat} {ad : String} (had : "[" ++ (newarray.typeOf aty).toString = ad) (w : (Cond.arrayClass (newarray.typeOf aty)).before a0 Z = true) (eT : T.heap = h) (hd : decode bs pc = .ok (.newarray aty, 2)) (hp : pc + 2 = pc') (hn : ¬ n < 0) (hcap : n.toNatClampNeg ≤ cap) (hb' : cap * 8 ≤ 536870912) (hc : cells + 1 ≤ R.cells) (hl : slots + cap ≤ R.slots)
    (k : ∀ T' h' cA (b : Addr), b = h.size → Stand p l e R s m args below meth c T' locs (cells + 1) (slots + cap) → T'.heap = h' → Ext h h' → Arr Z h' b (newA cA (newarray.typeOf aty) n) (newarray.typeOf aty) → Exa Z h' b ad → own_End p e below F (T'.setTop (mkF m pc' Ls (.ref b :: st)))) : own_End p e below F (T.setTop (mkF m pc Ls (.int n :: st))) := by
  subst hp
  obtain ⟨T', h', cA, X', e', E', A', Ex', stp⟩ := newPE X hx hZ w eT (g := mkF m pc Ls (.int n :: st)) rfl (hb hby hd) rfl hn hcap hb' hc hl had
  exact own_step stp (k T' h' cA h.size rfl X' e' E' A' Ex')
theorem own_newR (X : Stand p l e R s m args below meth c T locs cells slots) (hx : p.tables.exec = Jvm.exec) (hZ : Z.Warmed39 s.vm) (hby : c.code = bs) {own C : String} {index : Nat} {n : Int32} {cap : Nat} (hown : s.vm.findClass own = some m.cls) (w1 : (Cond.classLink own index C).before a0 Z = true) (w2 : (Cond.arrayOver (.object C)).before a0 Z = true) (eT : T.heap = h) (hd : decode bs pc = .ok (.anewarray index, 3)) (hp : pc + 3 = pc') (hn : ¬ n < 0) (hcap : n.toNatClampNeg ≤ cap) (hb' : cap * 8 ≤ 536870912) (hc : cells + 1 ≤ R.cells) (hl : slots + cap ≤ R.slots)
    (k : ∀ T' h' cA (b : Addr), b = h.size → Stand p l e R s m args below meth c T' locs (cells + 1) (slots + cap) → T'.heap = h' → Ext h h' → Arr Z h' b (newA cA (.object C) n) (.object C) → Ovr Z cA C → own_End p e below F (T'.setTop (mkF m pc' Ls (.ref b :: st)))) : own_End p e below F (T.setTop (mkF m pc Ls (.int n :: st))) := by
  subst hp
  obtain ⟨T', h', cA, X', e', E', A', O', stp⟩ := newR X hx hZ hown w1 w2 eT (g := mkF m pc Ls (.int n :: st)) rfl (hb hby hd) rfl hn hcap hb' hc hl
  exact own_step stp (k T' h' cA h.size rfl X' e' E' A' O')
theorem own_iastore (X : Stand p l e R s m args below meth c T locs cells slots) (hx : p.tables.exec = Jvm.exec) (hZ : Z.Warmed39 s.vm) (hby : c.code = bs) {a : Addr} {cl : Cell} (eT : T.heap = h) (A : Arr Z h a cl .int) {j : Int32} {x : Int32} (hj : ¬ (j < 0 ∨ cl.slots.size ≤ j.toNatClampNeg)) (hd : decode bs pc = .ok (.iastore, 1)) (hp : pc + 1 = pc')
    (k : ∀ T' h', Stand p l e R s m args below meth c T' (locs ++ [⟨a, j.toNatClampNeg⟩]) cells slots → T'.heap = h' → Wr h h' a j.toNatClampNeg (.int x) → own_End p e below F (T'.setTop (mkF m pc' Ls st))) : own_End p e below F (T.setTop (mkF m pc Ls (.int x :: .int j :: .ref a :: st))) := by
  subst hp
  obtain ⟨T', h', X', e', W', stp⟩ := stI X hx hZ eT A hj (g := mkF m pc Ls (.int x :: .int j :: .ref a :: st)) rfl rfl (hb hby hd)
  exact own_step stp (k T' h' X' e' W')
theorem own_lastore (X : Stand p l e R s m args below meth c T locs cells slots) (hx : p.tables.exec = Jvm.exec) (hZ : Z.Warmed39 s.vm) (hby : c.code = bs) {a : Addr} {cl : Cell} (eT : T.heap = h) (A : Arr Z h a cl .long) {j : Int32} {x : Int64} (hj : ¬ (j < 0 ∨ cl.slots.size ≤ j.toNatClampNeg)) (hd : decode bs pc = .ok (.lastore, 1)) (hp : pc + 1 = pc')
    (k : ∀ T' h', Stand p l e R s m args below meth c T' (locs ++ [⟨a, j.toNatClampNeg⟩]) cells slots → T'.heap = h' → Wr h h' a j.toNatClampNeg (.long x) → own_End p e below F (T'.setTop (mkF m pc' Ls st))) : own_End p e below F (T.setTop (mkF m pc Ls (.long x :: .int j :: .ref a :: st))) := by
  subst hp
  obtain ⟨T', h', X', e', W', stp⟩ := stJ X hx hZ eT A hj (g := mkF m pc Ls (.long x :: .int j :: .ref a :: st)) rfl rfl (hb hby hd)
  exact own_step stp (k T' h' X' e' W')
theorem own_castore (X : Stand p l e R s m args below meth c T locs cells slots) (hx : p.tables.exec = Jvm.exec) (hZ : Z.Warmed39 s.vm) (hby : c.code = bs) {a : Addr} {cl : Cell} (eT : T.heap = h) (A : Arr Z h a cl .char) {j : Int32} {x : Int32} (hj : ¬ (j < 0 ∨ cl.slots.size ≤ j.toNatClampNeg)) (hd : decode bs pc = .ok (.castore, 1)) (hp : pc + 1 = pc')
    (k : ∀ T' h', Stand p l e R s m args below meth c T' (locs ++ [⟨a, j.toNatClampNeg⟩]) cells slots → T'.heap = h' → Wr h h' a j.toNatClampNeg (.int (nar .char x)) → own_End p e below F (T'.setTop (mkF m pc' Ls st))) : own_End p e below F (T.setTop (mkF m pc Ls (.int x :: .int j :: .ref a :: st))) := by
  subst hp
  obtain ⟨T', h', X', e', W', stp⟩ := stC X hx hZ eT A hj (g := mkF m pc Ls (.int x :: .int j :: .ref a :: st)) rfl rfl (hb hby hd)
  exact own_step stp (k T' h' X' e' W')
theorem own_bastore (X : Stand p l e R s m args below meth c T locs cells slots) (hx : p.tables.exec = Jvm.exec) (hZ : Z.Warmed39 s.vm) (hby : c.code = bs) {a : Addr} {cl : Cell} (eT : T.heap = h) (A : Arr Z h a cl .byte) {j : Int32} {x : Int32} (hj : ¬ (j < 0 ∨ cl.slots.size ≤ j.toNatClampNeg)) (hd : decode bs pc = .ok (.bastore, 1)) (hp : pc + 1 = pc')
    (k : ∀ T' h', Stand p l e R s m args below meth c T' (locs ++ [⟨a, j.toNatClampNeg⟩]) cells slots → T'.heap = h' → Wr h h' a j.toNatClampNeg (.int (nar .byte x)) → own_End p e below F (T'.setTop (mkF m pc' Ls st))) : own_End p e below F (T.setTop (mkF m pc Ls (.int x :: .int j :: .ref a :: st))) := by
  subst hp
  obtain ⟨T', h', X', e', W', stp⟩ := stB X hx hZ eT A hj (g := mkF m pc Ls (.int x :: .int j :: .ref a :: st)) rfl rfl (hb hby hd)
  exact own_step stp (k T' h' X' e' W')
theorem own_stR (X : Stand p l e R s m args below meth c T locs cells slots) (hx : p.tables.exec = Jvm.exec) (hZ : Z.Warmed39 s.vm) (hby : c.code = bs) {a : Addr} {cl : Cell} {ty : FieldType} (eT : T.heap = h) (A : Arr Z h a cl ty) {j : Int32} {v : Value} (hj : ¬ (j < 0 ∨ cl.slots.size ≤ j.toNatClampNeg)) (hty : ty.isReference = true) (S : Sto Z h a v) (hd : decode bs pc = .ok (.aastore, 1)) (hp : pc + 1 = pc')
    (k : ∀ T' h', Stand p l e R s m args below meth c T' (locs ++ [⟨a, j.toNatClampNeg⟩]) cells slots → T'.heap = h' → Wr h h' a j.toNatClampNeg v → own_End p e below F (T'.setTop (mkF m pc' Ls st))) : own_End p e below F (T.setTop (mkF m pc Ls (v :: .int j :: .ref a :: st))) := by
  subst hp
  obtain ⟨T', h', X', e', W', stp⟩ := stR X hx hZ eT A hj hty S (g := mkF m pc Ls (v :: .int j :: .ref a :: st)) rfl rfl (hb hby hd)
  exact own_step stp (k T' h' X' e' W')
theorem own_iaload (X : Stand p l e R s m args below meth c T locs cells slots) (hx : p.tables.exec = Jvm.exec) (hZ : Z.Warmed39 s.vm) (hby : c.code = bs) {a : Addr} {cl : Cell} (eT : T.heap = h) (A : Arr Z h a cl .int) {j : Int32} {v : Value} (hj : ¬ (j < 0 ∨ cl.slots.size ≤ j.toNatClampNeg)) (hv : cl.slots[j.toNatClampNeg]? = some v) (hd : decode bs pc = .ok (.iaload, 1)) (hp : pc + 1 = pc') (k : own_End p e below F (T.setTop (mkF m pc' Ls (v :: st)))) : own_End p e below F (T.setTop (mkF m pc Ls (.int j :: .ref a :: st))) := by
  subst hp
  exact own_step (fun t q => X.iaload hx (j := j) (v := v) (by rw [eT]; exact A.1) (State.isArrayOf_alike hZ.alike A.2.1) A.2.2 hj hv (g := mkF m pc Ls (.int j :: .ref a :: st)) rfl rfl (hb hby hd) _ q) k
theorem own_laload (X : Stand p l e R s m args below meth c T locs cells slots) (hx : p.tables.exec = Jvm.exec) (hZ : Z.Warmed39 s.vm) (hby : c.code = bs) {a : Addr} {cl : Cell} (eT : T.heap = h) (A : Arr Z h a cl .long) {j : Int32} {v : Value} (hj : ¬ (j < 0 ∨ cl.slots.size ≤ j.toNatClampNeg)) (hv : cl.slots[j.toNatClampNeg]? = some v) (hd : decode bs pc = .ok (.laload, 1)) (hp : pc + 1 = pc') (k : own_End p e below F (T.setTop (mkF m pc' Ls (v :: st)))) : own_End p e below F (T.setTop (mkF m pc Ls (.int j :: .ref a :: st))) := by
  subst hp
  exact own_step (fun t q => X.laload hx (j := j) (v := v) (by rw [eT]; exact A.1) (State.isArrayOf_alike hZ.alike A.2.1) A.2.2 hj hv (g := mkF m pc Ls (.int j :: .ref a :: st)) rfl rfl (hb hby hd) _ q) k
theorem own_caload (X : Stand p l e R s m args below meth c T locs cells slots) (hx : p.tables.exec = Jvm.exec) (hZ : Z.Warmed39 s.vm) (hby : c.code = bs) {a : Addr} {cl : Cell} (eT : T.heap = h) (A : Arr Z h a cl .char) {j : Int32} {v : Value} (hj : ¬ (j < 0 ∨ cl.slots.size ≤ j.toNatClampNeg)) (hv : cl.slots[j.toNatClampNeg]? = some v) (hd : decode bs pc = .ok (.caload, 1)) (hp : pc + 1 = pc') (k : own_End p e below F (T.setTop (mkF m pc' Ls (v :: st)))) : own_End p e below F (T.setTop (mkF m pc Ls (.int j :: .ref a :: st))) := by
  subst hp
  exact own_step (fun t q => X.caload hx (j := j) (v := v) (by rw [eT]; exact A.1) (State.isArrayOf_alike hZ.alike A.2.1) A.2.2 hj hv (g := mkF m pc Ls (.int j :: .ref a :: st)) rfl rfl (hb hby hd) _ q) k
theorem own_baload (X : Stand p l e R s m args below meth c T locs cells slots) (hx : p.tables.exec = Jvm.exec) (hZ : Z.Warmed39 s.vm) (hby : c.code = bs) {a : Addr} {cl : Cell} (eT : T.heap = h) (A : Arr Z h a cl .byte) {j : Int32} {v : Value} (hj : ¬ (j < 0 ∨ cl.slots.size ≤ j.toNatClampNeg)) (hv : cl.slots[j.toNatClampNeg]? = some v) (hd : decode bs pc = .ok (.baload, 1)) (hp : pc + 1 = pc') (k : own_End p e below F (T.setTop (mkF m pc' Ls (v :: st)))) : own_End p e below F (T.setTop (mkF m pc Ls (.int j :: .ref a :: st))) := by
  subst hp
  exact own_step (fun t q => X.baloadBytes hx (j := j) (v := v) (by rw [eT]; exact A.1) (State.isArrayOf_alike hZ.alike A.2.1) A.2.2 hj hv (g := mkF m pc Ls (.int j :: .ref a :: st)) rfl rfl (hb hby hd) _ q) k
theorem own_aaload (X : Stand p l e R s m args below meth c T locs cells slots) (hx : p.tables.exec = Jvm.exec) (hZ : Z.Warmed39 s.vm) (hby : c.code = bs) {a : Addr} {cl : Cell} {ty : FieldType} (eT : T.heap = h) (A : Arr Z h a cl ty) (hty : ty.isReference = true) {j : Int32} {v : Value} (hj : ¬ (j < 0 ∨ cl.slots.size ≤ j.toNatClampNeg)) (hv : cl.slots[j.toNatClampNeg]? = some v) (hd : decode bs pc = .ok (.aaload, 1)) (hp : pc + 1 = pc') (k : own_End p e below F (T.setTop (mkF m pc' Ls (v :: st)))) : own_End p e below F (T.setTop (mkF m pc Ls (.int j :: .ref a :: st))) := by
  subst hp
  exact own_step (fun t q => X.aaload hx (j := j) (v := v) (by rw [eT]; exact A.1) (State.isArrayOf_alike hZ.alike A.2.1) hty A.2.2 hj hv (g := mkF m pc Ls (.int j :: .ref a :: st)) rfl rfl (hb hby hd) _ q) k
theorem own_alen (X : Stand p l e R s m args below meth c T locs cells slots) (hx : p.tables.exec = Jvm.exec) (hZ : Z.Warmed39 s.vm) (hby : c.code = bs) {a : Addr} {cl : Cell} {ty : FieldType} {z : Int32} (eT : T.heap = h) (A : Arr Z h a cl ty) (S : cl.slots.size = z.toNatClampNeg) (M : ¬ z < 0) (hd : decode bs pc = .ok (.arraylength, 1)) (hp : pc + 1 = pc') (k : own_End p e below F (T.setTop (mkF m pc' Ls (.int z :: st)))) : own_End p e below F (T.setTop (mkF m pc Ls (.ref a :: st))) := by
  subst hp
  have hl := len_of S M
  exact own_step (fun t q => X.arraylength hx (by rw [eT]; exact A.1) (State.isArrayOf_alike hZ.alike A.2.1) (g := mkF m pc Ls (.ref a :: st)) rfl rfl (hb hby hd) _ (by rw [hl]; exact q)) k
theorem own_init (X : Stand p l e R s m args below meth c T locs cells slots) (hx : p.tables.exec = Jvm.exec) (hZ : Z.Warmed39 s.vm) (hby : c.code = bs) {own : String} {index : Nat} {a : Addr} {W : Nat} (hown : s.vm.findClass own = some m.cls) (w1 : (Cond.methodLink own index Lib.objectInit).before a0 Z = true) (w2 : (Cond.instanceMethod Lib.objectInit).before a0 Z = true) (w3 : (Cond.code Lib.objectInit ⟨#[0xb1]⟩ 1 none).before a0 Z = true) (eT : T.heap = h) (hsz : Ls.size = c.maxLocals) (hd : decode bs pc = .ok (.invokespecial index, 3)) (hp : pc + 3 = pc') (hf : 1 ≤ R.frames) (hW : (st.map fun v => v.category).sum ≤ W) (hl : W + 12 ≤ R.locals)
    (k : ∀ T', Stand p l e R s m args below meth c T' locs cells slots → T'.heap = h → own_End p e below F (T'.setTop (mkF m pc' Ls st))) : own_End p e below F (T.setTop (mkF m pc Ls (.ref a :: st))) := by
  subst hp
  obtain ⟨T', X', e', stp⟩ := initO X hx hZ hown w1 w2 w3 eT (g := mkF m pc Ls (.ref a :: st)) rfl hsz rfl (hb hby hd) hf (W := W) (by show 2 * 0 + _ ≤ _; omega) hl
  exact own_step stp (k T' X' e')
theorem own_cast (X : Stand p l e R s m args below meth c T locs cells slots) (hx : p.tables.exec = Jvm.exec) (hZ : Z.Warmed39 s.vm) (hby : c.code = bs) {own K : String} {index : Nat} {a : Addr} (hown : s.vm.findClass own = some m.cls) (w : (Cond.classLink own index K).before a0 Z = true) (eT : T.heap = h) (I : Ins Z h a K true) (hd : decode bs pc = .ok (.checkcast index, 3)) (hp : pc + 3 = pc')
    (k : ∀ T', Stand p l e R s m args below meth c T' locs cells slots → T'.heap = h → own_End p e below F (T'.setTop (mkF m pc' Ls (.ref a :: st)))) : own_End p e below F (T.setTop (mkF m pc Ls (.ref a :: st))) := by
  subst hp
  obtain ⟨T', X', e', stp⟩ := castY X hx hZ hown w eT I (g := mkF m pc Ls (.ref a :: st)) rfl rfl (hb hby hd)
  exact own_step stp (k T' X' e')
theorem own_inst (X : Stand p l e R s m args below meth c T locs cells slots) (hx : p.tables.exec = Jvm.exec) (hZ : Z.Warmed39 s.vm) (hby : c.code = bs) {own K : String} {index : Nat} {a : Addr} (hown : s.vm.findClass own = some m.cls) (w : (Cond.classLink own index K).before a0 Z = true) (eT : T.heap = h) (I : Ins Z h a K true) (hd : decode bs pc = .ok (.instanceof index, 3)) (hp : pc + 3 = pc')
    (k : ∀ T', Stand p l e R s m args below meth c T' locs cells slots → T'.heap = h → own_End p e below F (T'.setTop (mkF m pc' Ls (.int 1 :: st)))) : own_End p e below F (T.setTop (mkF m pc Ls (.ref a :: st))) := by
  subst hp
  obtain ⟨T', X', e', stp⟩ := instY X hx hZ hown w eT I (g := mkF m pc Ls (.ref a :: st)) rfl rfl (hb hby hd)
  exact own_step stp (k T' X' e')
theorem own_instNull (X : Stand p l e R s m args below meth c T locs cells slots) (hx : p.tables.exec = Jvm.exec) (hby : c.code = bs) {index : Nat} (hd : decode bs pc = .ok (.instanceof index, 3)) (hp : pc + 3 = pc') (k : own_End p e below F (T.setTop (mkF m pc' Ls (.int 0 :: st)))) : own_End p e below F (T.setTop (mkF m pc Ls (.null :: st))) := by
  subst hp
  exact own_step (fun t q => X.instanceofNull hx (g := mkF m pc Ls (.null :: st)) rfl rfl (hb hby hd) _ q) k
end Heap
end OwnKit

theorem wd_0 {a0 : Array Value} {Z : State} (hw : ∀ d ∈ tables_1, d.before a0 Z = true) : (Jvm.Cond.arrayClass Jvm.ClassFile.FieldType.int).before a0 Z = true := hw _ (List.mem_of_getElem? (i := 0) rfl)
theorem wd_1 {a0 : Array Value} {Z : State} (hw : ∀ d ∈ tables_1, d.before a0 Z = true) : (Jvm.Cond.classLink "com/example/halyard/halyard/base/XmlSliceAttributeStartPinLaw" (7 : Nat) "com/example/halyard/halyard/base/XmlScan$StartTag").before a0 Z = true := hw _ (List.mem_of_getElem? (i := 1) rfl)
theorem wd_2 {a0 : Array Value} {Z : State} (hw : ∀ d ∈ tables_1, d.before a0 Z = true) : (Jvm.Cond.instantiable "com/example/halyard/halyard/base/XmlScan$StartTag" (8 : Nat)).before a0 Z = true := hw _ (List.mem_of_getElem? (i := 2) rfl)
theorem wd_3 {a0 : Array Value} {Z : State} (hw : ∀ d ∈ tables_1, d.before a0 Z = true) : (Jvm.Cond.initialized "com/example/halyard/halyard/base/XmlScan$StartTag").before a0 Z = true := hw _ (List.mem_of_getElem? (i := 3) rfl)
theorem wd_4 {a0 : Array Value} {Z : State} (hw : ∀ d ∈ tables_1, d.before a0 Z = true) : (Jvm.Cond.stringLink "com/example/halyard/halyard/base/XmlSliceAttributeStartPinLaw" (9 : Nat) "").before a0 Z = true := hw _ (List.mem_of_getElem? (i := 4) rfl)
theorem wd_5 {a0 : Array Value} {Z : State} (hw : ∀ d ∈ tables_1, d.before a0 Z = true) : (Jvm.Cond.initialized "java/lang/String").before a0 Z = true := hw _ (List.mem_of_getElem? (i := 5) rfl)
theorem wd_6 {a0 : Array Value} {Z : State} (hw : ∀ d ∈ tables_1, d.before a0 Z = true) : (Jvm.Cond.instantiable "java/lang/String" (4 : Nat)).before a0 Z = true := hw _ (List.mem_of_getElem? (i := 6) rfl)
theorem wd_7 {a0 : Array Value} {Z : State} (hw : ∀ d ∈ tables_1, d.before a0 Z = true) : (Jvm.Cond.arrayClass Jvm.ClassFile.FieldType.byte).before a0 Z = true := hw _ (List.mem_of_getElem? (i := 7) rfl)
theorem wd_8 {a0 : Array Value} {Z : State} (hw : ∀ d ∈ tables_1, d.before a0 Z = true) : (Jvm.Cond.laysFinal "java/lang/String" "java/lang/String" "value" "[B").before a0 Z = true := hw _ (List.mem_of_getElem? (i := 8) rfl)
theorem wd_9 {a0 : Array Value} {Z : State} (hw : ∀ d ∈ tables_1, d.before a0 Z = true) : (Jvm.Cond.laysFinal "java/lang/String" "java/lang/String" "coder" "B").before a0 Z = true := hw _ (List.mem_of_getElem? (i := 9) rfl)
theorem wd_10 {a0 : Array Value} {Z : State} (hw : ∀ d ∈ tables_1, d.before a0 Z = true) : (Jvm.Cond.soleField "java/lang/String" "value").before a0 Z = true := hw _ (List.mem_of_getElem? (i := 10) rfl)
theorem wd_11 {a0 : Array Value} {Z : State} (hw : ∀ d ∈ tables_1, d.before a0 Z = true) : (Jvm.Cond.soleField "java/lang/String" "coder").before a0 Z = true := hw _ (List.mem_of_getElem? (i := 11) rfl)
theorem wd_12 {a0 : Array Value} {Z : State} (hw : ∀ d ∈ tables_1, d.before a0 Z = true) : (Jvm.Cond.methodLink "com/example/halyard/halyard/base/XmlSliceAttributeStartPinLaw" (11 : Nat) ({ cls := "com/example/halyard/halyard/base/XmlScan$StartTag", name := "<init>", desc := "(IIIILjava/lang/String;Ljava/lang/String;[ILjava/util/Map;)V" } : Jvm.MethodName)).before a0 Z = true := hw _ (List.mem_of_getElem? (i := 12) rfl)
theorem wd_13 {a0 : Array Value} {Z : State} (hw : ∀ d ∈ tables_1, d.before a0 Z = true) : (Jvm.Cond.instanceMethod ({ cls := "com/example/halyard/halyard/base/XmlScan$StartTag", name := "<init>", desc := "(IIIILjava/lang/String;Ljava/lang/String;[ILjava/util/Map;)V" } : Jvm.MethodName)).before a0 Z = true := hw _ (List.mem_of_getElem? (i := 13) rfl)
theorem wd_14 {a0 : Array Value} {Z : State} (hw : ∀ d ∈ tables_1, d.before a0 Z = true) : (Jvm.Cond.code ({ cls := "com/example/halyard/halyard/base/XmlScan$StartTag", name := "<init>", desc := "(IIIILjava/lang/String;Ljava/lang/String;[ILjava/util/Map;)V" } : Jvm.MethodName) prog_23_method_1_code (9 : Nat) (Option.none : Option Jvm.ClassFile.FieldType)).before a0 Z = true := hw _ (List.mem_of_getElem? (i := 14) rfl)
theorem wd_15 {a0 : Array Value} {Z : State} (hw : ∀ d ∈ tables_1, d.before a0 Z = true) : (Jvm.Cond.methodLink "com/example/halyard/halyard/base/XmlScan$StartTag" (1 : Nat) ({ cls := "java/lang/Record", name := "<init>", desc := "()V" } : Jvm.MethodName)).before a0 Z = true := hw _ (List.mem_of_getElem? (i := 15) rfl)
theorem wd_16 {a0 : Array Value} {Z : State} (hw : ∀ d ∈ tables_1, d.before a0 Z = true) : (Jvm.Cond.instanceMethod ({ cls := "java/lang/Record", name := "<init>", desc := "()V" } : Jvm.MethodName)).before a0 Z = true := hw _ (List.mem_of_getElem? (i := 16) rfl)
theorem wd_18 {a0 : Array Value} {Z : State} (hw : ∀ d ∈ tables_1, d.before a0 Z = true) : (Jvm.Cond.initialized "java/lang/Record").before a0 Z = true := hw _ (List.mem_of_getElem? (i := 18) rfl)
theorem wd_19 {a0 : Array Value} {Z : State} (hw : ∀ d ∈ tables_1, d.before a0 Z = true) : (Jvm.Cond.code ({ cls := "java/lang/Record", name := "<init>", desc := "()V" } : Jvm.MethodName) jdk_30_method_1_code (1 : Nat) (Option.none : Option Jvm.ClassFile.FieldType)).before a0 Z = true := hw _ (List.mem_of_getElem? (i := 19) rfl)
theorem wd_20 {a0 : Array Value} {Z : State} (hw : ∀ d ∈ tables_1, d.before a0 Z = true) : (Jvm.Cond.methodLink "java/lang/Record" (1 : Nat) ({ cls := "java/lang/Object", name := "<init>", desc := "()V" } : Jvm.MethodName)).before a0 Z = true := hw _ (List.mem_of_getElem? (i := 20) rfl)
theorem wd_21 {a0 : Array Value} {Z : State} (hw : ∀ d ∈ tables_1, d.before a0 Z = true) : (Jvm.Cond.instanceMethod ({ cls := "java/lang/Object", name := "<init>", desc := "()V" } : Jvm.MethodName)).before a0 Z = true := hw _ (List.mem_of_getElem? (i := 21) rfl)
theorem wd_22 {a0 : Array Value} {Z : State} (hw : ∀ d ∈ tables_1, d.before a0 Z = true) : (Jvm.Cond.code ({ cls := "java/lang/Object", name := "<init>", desc := "()V" } : Jvm.MethodName) object_method_1_code (1 : Nat) (Option.none : Option Jvm.ClassFile.FieldType)).before a0 Z = true := hw _ (List.mem_of_getElem? (i := 22) rfl)
theorem wd_23 {a0 : Array Value} {Z : State} (hw : ∀ d ∈ tables_1, d.before a0 Z = true) : (Jvm.Cond.fieldLink "com/example/halyard/halyard/base/XmlScan$StartTag" (7 : Nat) "com/example/halyard/halyard/base/XmlScan$StartTag" "depth" "I").before a0 Z = true := hw _ (List.mem_of_getElem? (i := 23) rfl)
theorem wd_24 {a0 : Array Value} {Z : State} (hw : ∀ d ∈ tables_1, d.before a0 Z = true) : (Jvm.Cond.laysFinal "com/example/halyard/halyard/base/XmlScan$StartTag" "com/example/halyard/halyard/base/XmlScan$StartTag" "depth" "I").before a0 Z = true := hw _ (List.mem_of_getElem? (i := 24) rfl)
theorem wd_25 {a0 : Array Value} {Z : State} (hw : ∀ d ∈ tables_1, d.before a0 Z = true) : (Jvm.Cond.fieldLink "com/example/halyard/halyard/base/XmlScan$StartTag" (13 : Nat) "com/example/halyard/halyard/base/XmlScan$StartTag" "start" "I").before a0 Z = true := hw _ (List.mem_of_getElem? (i := 25) rfl)
theorem wd_26 {a0 : Array Value} {Z : State} (hw : ∀ d ∈ tables_1, d.before a0 Z = true) : (Jvm.Cond.laysFinal "com/example/halyard/halyard/base/XmlScan$StartTag" "com/example/halyard/halyard/base/XmlScan$StartTag" "start" "I").before a0 Z = true := hw _ (List.mem_of_getElem? (i := 26) rfl)
theorem wd_27 {a0 : Array Value} {Z : State} (hw : ∀ d ∈ tables_1, d.before a0 Z = true) : (Jvm.Cond.fieldLink "com/example/halyard/halyard/base/XmlScan$StartTag" (16 : Nat) "com/example/halyard/halyard/base/XmlScan$StartTag" "nameEnd" "I").before a0 Z = true := hw _ (List.mem_of_getElem? (i := 27) rfl)
theorem wd_28 {a0 : Array Value} {Z : State} (hw : ∀ d ∈ tables_1, d.before a0 Z = true) : (Jvm.Cond.laysFinal "com/example/halyard/halyard/base/XmlScan$StartTag" "com/example/halyard/halyard/base/XmlScan$StartTag" "nameEnd" "I").before a0 Z = true := hw _ (List.mem_of_getElem? (i := 28) rfl)
theorem wd_29 {a0 : Array Value} {Z : State} (hw : ∀ d ∈ tables_1, d.before a0 Z = true) : (Jvm.Cond.fieldLink "com/example/halyard/halyard/base/XmlScan$StartTag" (19 : Nat) "com/example/halyard/halyard/base/XmlScan$StartTag" "end" "I").before a0 Z = true := hw _ (List.mem_of_getElem? (i := 29) rfl)
theorem wd_30 {a0 : Array Value} {Z : State} (hw : ∀ d ∈ tables_1, d.before a0 Z = true) : (Jvm.Cond.laysFinal "com/example/halyard/halyard/base/XmlScan$StartTag" "com/example/halyard/halyard/base/XmlScan$StartTag" "end" "I").before a0 Z = true := hw _ (List.mem_of_getElem? (i := 30) rfl)
theorem wd_31 {a0 : Array Value} {Z : State} (hw : ∀ d ∈ tables_1, d.before a0 Z = true) : (Jvm.Cond.fieldLink "com/example/halyard/halyard/base/XmlScan$StartTag" (22 : Nat) "com/example/halyard/halyard/base/XmlScan$StartTag" "namespace" "Ljava/lang/String;").before a0 Z = true := hw _ (List.mem_of_getElem? (i := 31) rfl)
theorem wd_32 {a0 : Array Value} {Z : State} (hw : ∀ d ∈ tables_1, d.before a0 Z = true) : (Jvm.Cond.laysFinal "com/example/halyard/halyard/base/XmlScan$StartTag" "com/example/halyard/halyard/base/XmlScan$StartTag" "namespace" "Ljava/lang/String;").before a0 Z = true := hw _ (List.mem_of_getElem? (i := 32) rfl)
theorem wd_33 {a0 : Array Value} {Z : State} (hw : ∀ d ∈ tables_1, d.before a0 Z = true) : (Jvm.Cond.fieldLink "com/example/halyard/halyard/base/XmlScan$StartTag" (26 : Nat) "com/example/halyard/halyard/base/XmlScan$StartTag" "localName" "Ljava/lang/String;").before a0 Z = true := hw _ (List.mem_of_getElem? (i := 33) rfl)
theorem wd_34 {a0 : Array Value} {Z : State} (hw : ∀ d ∈ tables_1, d.before a0 Z = true) : (Jvm.Cond.laysFinal "com/example/halyard/halyard/base/XmlScan$StartTag" "com/example/halyard/halyard/base/XmlScan$StartTag" "localName" "Ljava/lang/String;").before a0 Z = true := hw _ (List.mem_of_getElem? (i := 34) rfl)
theorem wd_35 {a0 : Array Value} {Z : State} (hw : ∀ d ∈ tables_1, d.before a0 Z = true) : (Jvm.Cond.fieldLink "com/example/halyard/halyard/base/XmlScan$StartTag" (29 : Nat) "com/example/halyard/halyard/base/XmlScan$StartTag" "attributes" "[I").before a0 Z = true := hw _ (List.mem_of_getElem? (i := 35) rfl)
theorem wd_36 {a0 : Array Value} {Z : State} (hw : ∀ d ∈ tables_1, d.before a0 Z = true) : (Jvm.Cond.laysFinal "com/example/halyard/halyard/base/XmlScan$StartTag" "com/example/halyard/halyard/base/XmlScan$StartTag" "attributes" "[I").before a0 Z = true := hw _ (List.mem_of_getElem? (i := 36) rfl)
theorem wd_37 {a0 : Array Value} {Z : State} (hw : ∀ d ∈ tables_1, d.before a0 Z = true) : (Jvm.Cond.fieldLink "com/example/halyard/halyard/base/XmlScan$StartTag" (33 : Nat) "com/example/halyard/halyard/base/XmlScan$StartTag" "scope" "Ljava/util/Map;").before a0 Z = true := hw _ (List.mem_of_getElem? (i := 37) rfl)
theorem wd_38 {a0 : Array Value} {Z : State} (hw : ∀ d ∈ tables_1, d.before a0 Z = true) : (Jvm.Cond.laysFinal "com/example/halyard/halyard/base/XmlScan$StartTag" "com/example/halyard/halyard/base/XmlScan$StartTag" "scope" "Ljava/util/Map;").before a0 Z = true := hw _ (List.mem_of_getElem? (i := 38) rfl)
theorem wd_39 {a0 : Array Value} {Z : State} (hw : ∀ d ∈ tables_1, d.before a0 Z = true) : (Jvm.Cond.classLink "com/example/halyard/halyard/base/XmlSliceAttributeStartPinLaw" (14 : Nat) "com/example/halyard/halyard/base/XmlSlice").before a0 Z = true := hw _ (List.mem_of_getElem? (i := 39) rfl)
theorem wd_40 {a0 : Array Value} {Z : State} (hw : ∀ d ∈ tables_1, d.before a0 Z = true) : (Jvm.Cond.instantiable "com/example/halyard/halyard/base/XmlSlice" (5 : Nat)).before a0 Z = true := hw _ (List.mem_of_getElem? (i := 40) rfl)
theorem wd_41 {a0 : Array Value} {Z : State} (hw : ∀ d ∈ tables_1, d.before a0 Z = true) : (Jvm.Cond.initialized "com/example/halyard/halyard/base/XmlSlice").before a0 Z = true := hw _ (List.mem_of_getElem? (i := 41) rfl)
theorem wd_42 {a0 : Array Value} {Z : State} (hw : ∀ d ∈ tables_1, d.before a0 Z = true) : (Jvm.Cond.methodLink "com/example/halyard/halyard/base/XmlSliceAttributeStartPinLaw" (16 : Nat) ({ cls := "com/example/halyard/halyard/base/XmlSlice", name := "<init>", desc := "([BLcom/example/halyard/halyard/base/XmlScan$StartTag;ILjava/util/List;[I)V" } : Jvm.MethodName)).before a0 Z = true := hw _ (List.mem_of_getElem? (i := 42) rfl)
theorem wd_43 {a0 : Array Value} {Z : State} (hw : ∀ d ∈ tables_1, d.before a0 Z = true) : (Jvm.Cond.instanceMethod ({ cls := "com/example/halyard/halyard/base/XmlSlice", name := "<init>", desc := "([BLcom/example/halyard/halyard/base/XmlScan$StartTag;ILjava/util/List;[I)V" } : Jvm.MethodName)).before a0 Z = true := hw _ (List.mem_of_getElem? (i := 43) rfl)
theorem wd_44 {a0 : Array Value} {Z : State} (hw : ∀ d ∈ tables_1, d.before a0 Z = true) : (Jvm.Cond.code ({ cls := "com/example/halyard/halyard/base/XmlSlice", name := "<init>", desc := "([BLcom/example/halyard/halyard/base/XmlScan$StartTag;ILjava/util/List;[I)V" } : Jvm.MethodName) prog_24_method_1_code (6 : Nat) (Option.none : Option Jvm.ClassFile.FieldType)).before a0 Z = true := hw _ (List.mem_of_getElem? (i := 44) rfl)
theorem wd_45 {a0 : Array Value} {Z : State} (hw : ∀ d ∈ tables_1, d.before a0 Z = true) : (Jvm.Cond.methodLink "com/example/halyard/halyard/base/XmlSlice" (1 : Nat) ({ cls := "java/lang/Object", name := "<init>", desc := "()V" } : Jvm.MethodName)).before a0 Z = true := hw _ (List.mem_of_getElem? (i := 45) rfl)
theorem wd_46 {a0 : Array Value} {Z : State} (hw : ∀ d ∈ tables_1, d.before a0 Z = true) : (Jvm.Cond.fieldLink "com/example/halyard/halyard/base/XmlSlice" (7 : Nat) "com/example/halyard/halyard/base/XmlSlice" "document" "[B").before a0 Z = true := hw _ (List.mem_of_getElem? (i := 46) rfl)
theorem wd_47 {a0 : Array Value} {Z : State} (hw : ∀ d ∈ tables_1, d.before a0 Z = true) : (Jvm.Cond.laysFinal "com/example/halyard/halyard/base/XmlSlice" "com/example/halyard/halyard/base/XmlSlice" "document" "[B").before a0 Z = true := hw _ (List.mem_of_getElem? (i := 47) rfl)
theorem wd_48 {a0 : Array Value} {Z : State} (hw : ∀ d ∈ tables_1, d.before a0 Z = true) : (Jvm.Cond.fieldLink "com/example/halyard/halyard/base/XmlSlice" (13 : Nat) "com/example/halyard/halyard/base/XmlSlice" "tag" "Lcom/example/halyard/halyard/base/XmlScan$StartTag;").before a0 Z = true := hw _ (List.mem_of_getElem? (i := 48) rfl)
theorem wd_49 {a0 : Array Value} {Z : State} (hw : ∀ d ∈ tables_1, d.before a0 Z = true) : (Jvm.Cond.laysFinal "com/example/halyard/halyard/base/XmlSlice" "com/example/halyard/halyard/base/XmlSlice" "tag" "Lcom/example/halyard/halyard/base/XmlScan$StartTag;").before a0 Z = true := hw _ (List.mem_of_getElem? (i := 49) rfl)
theorem wd_50 {a0 : Array Value} {Z : State} (hw : ∀ d ∈ tables_1, d.before a0 Z = true) : (Jvm.Cond.fieldLink "com/example/halyard/halyard/base/XmlSlice" (17 : Nat) "com/example/halyard/halyard/base/XmlSlice" "end" "I").before a0 Z = true := hw _ (List.mem_of_getElem? (i := 50) rfl)
theorem wd_51 {a0 : Array Value} {Z : State} (hw : ∀ d ∈ tables_1, d.before a0 Z = true) : (Jvm.Cond.laysFinal "com/example/halyard/halyard/base/XmlSlice" "com/example/halyard/halyard/base/XmlSlice" "end" "I").before a0 Z = true := hw _ (List.mem_of_getElem? (i := 51) rfl)
theorem wd_52 {a0 : Array Value} {Z : State} (hw : ∀ d ∈ tables_1, d.before a0 Z = true) : (Jvm.Cond.fieldLink "com/example/halyard/halyard/base/XmlSlice" (21 : Nat) "com/example/halyard/halyard/base/XmlSlice" "children" "Ljava/util/List;").before a0 Z = true := hw _ (List.mem_of_getElem? (i := 52) rfl)
theorem wd_53 {a0 : Array Value} {Z : State} (hw : ∀ d ∈ tables_1, d.before a0 Z = true) : (Jvm.Cond.laysFinal "com/example/halyard/halyard/base/XmlSlice" "com/example/halyard/halyard/base/XmlSlice" "children" "Ljava/util/List;").before a0 Z = true := hw _ (List.mem_of_getElem? (i := 53) rfl)
theorem wd_54 {a0 : Array Value} {Z : State} (hw : ∀ d ∈ tables_1, d.before a0 Z = true) : (Jvm.Cond.fieldLink "com/example/halyard/halyard/base/XmlSlice" (25 : Nat) "com/example/halyard/halyard/base/XmlSlice" "held" "[I").before a0 Z = true := hw _ (List.mem_of_getElem? (i := 54) rfl)
theorem wd_55 {a0 : Array Value} {Z : State} (hw : ∀ d ∈ tables_1, d.before a0 Z = true) : (Jvm.Cond.laysFinal "com/example/halyard/halyard/base/XmlSlice" "com/example/halyard/halyard/base/XmlSlice" "held" "[I").before a0 Z = true := hw _ (List.mem_of_getElem? (i := 55) rfl)
theorem wd_56 {a0 : Array Value} {Z : State} (hw : ∀ d ∈ tables_1, d.before a0 Z = true) : (Jvm.Cond.methodLink "com/example/halyard/halyard/base/XmlSliceAttributeStartPinLaw" (19 : Nat) ({ cls := "com/example/halyard/halyard/base/XmlSlice", name := "attributeStart", desc := "(I)I" } : Jvm.MethodName)).before a0 Z = true := hw _ (List.mem_of_getElem? (i := 56) rfl)
theorem wd_57 {a0 : Array Value} {Z : State} (hw : ∀ d ∈ tables_1, d.before a0 Z = true) : (Jvm.Cond.declares ({ cls := "com/example/halyard/halyard/base/XmlSlice", name := "attributeStart", desc := "(I)I" } : Jvm.MethodName)).before a0 Z = true := hw _ (List.mem_of_getElem? (i := 57) rfl)
theorem wd_58 {a0 : Array Value} {Z : State} (hw : ∀ d ∈ tables_1, d.before a0 Z = true) : (Jvm.Cond.instanceMethod ({ cls := "com/example/halyard/halyard/base/XmlSlice", name := "attributeStart", desc := "(I)I" } : Jvm.MethodName)).before a0 Z = true := hw _ (List.mem_of_getElem? (i := 58) rfl)
theorem wd_59 {a0 : Array Value} {Z : State} (hw : ∀ d ∈ tables_1, d.before a0 Z = true) : (Jvm.Cond.selects "com/example/halyard/halyard/base/XmlSlice" ({ cls := "com/example/halyard/halyard/base/XmlSlice", name := "attributeStart", desc := "(I)I" } : Jvm.MethodName) ({ cls := "com/example/halyard/halyard/base/XmlSlice", name := "attributeStart", desc := "(I)I" } : Jvm.MethodName)).before a0 Z = true := hw _ (List.mem_of_getElem? (i := 59) rfl)
theorem wd_60 {a0 : Array Value} {Z : State} (hw : ∀ d ∈ tables_1, d.before a0 Z = true) : (Jvm.Cond.code ({ cls := "com/example/halyard/halyard/base/XmlSlice", name := "attributeStart", desc := "(I)I" } : Jvm.MethodName) prog_24_method_19_code (2 : Nat) (Option.some Jvm.ClassFile.FieldType.int)).before a0 Z = true := hw _ (List.mem_of_getElem? (i := 60) rfl)
theorem wd_61 {a0 : Array Value} {Z : State} (hw : ∀ d ∈ tables_1, d.before a0 Z = true) : (Jvm.Cond.methodLink "com/example/halyard/halyard/base/XmlSlice" (147 : Nat) ({ cls := "com/example/halyard/halyard/base/XmlScan$StartTag", name := "attributes", desc := "()[I" } : Jvm.MethodName)).before a0 Z = true := hw _ (List.mem_of_getElem? (i := 61) rfl)
theorem wd_62 {a0 : Array Value} {Z : State} (hw : ∀ d ∈ tables_1, d.before a0 Z = true) : (Jvm.Cond.declares ({ cls := "com/example/halyard/halyard/base/XmlScan$StartTag", name := "attributes", desc := "()[I" } : Jvm.MethodName)).before a0 Z = true := hw _ (List.mem_of_getElem? (i := 62) rfl)
theorem wd_63 {a0 : Array Value} {Z : State} (hw : ∀ d ∈ tables_1, d.before a0 Z = true) : (Jvm.Cond.instanceMethod ({ cls := "com/example/halyard/halyard/base/XmlScan$StartTag", name := "attributes", desc := "()[I" } : Jvm.MethodName)).before a0 Z = true := hw _ (List.mem_of_getElem? (i := 63) rfl)
theorem wd_64 {a0 : Array Value} {Z : State} (hw : ∀ d ∈ tables_1, d.before a0 Z = true) : (Jvm.Cond.selects "com/example/halyard/halyard/base/XmlScan$StartTag" ({ cls := "com/example/halyard/halyard/base/XmlScan$StartTag", name := "attributes", desc := "()[I" } : Jvm.MethodName) ({ cls := "com/example/halyard/halyard/base/XmlScan$StartTag", name := "attributes", desc := "()[I" } : Jvm.MethodName)).before a0 Z = true := hw _ (List.mem_of_getElem? (i := 64) rfl)
theorem wd_65 {a0 : Array Value} {Z : State} (hw : ∀ d ∈ tables_1, d.before a0 Z = true) : (Jvm.Cond.code ({ cls := "com/example/halyard/halyard/base/XmlScan$StartTag", name := "attributes", desc := "()[I" } : Jvm.MethodName) prog_23_method_11_code (1 : Nat) (Option.some (Jvm.ClassFile.FieldType.array Jvm.ClassFile.FieldType.int))).before a0 Z = true := hw _ (List.mem_of_getElem? (i := 65) rfl)
theorem d1_0 : decode prog_23_method_1_code 0 = .ok (.aload_n 0, 1) := by decide +kernel
theorem d1_1 : decode prog_23_method_1_code 1 = .ok (.invokespecial 1, 3) := by decide +kernel
theorem d1_4 : decode prog_23_method_1_code 4 = .ok (.aload_n 0, 1) := by decide +kernel
theorem d1_5 : decode prog_23_method_1_code 5 = .ok (.iload_n 1, 1) := by decide +kernel
theorem d1_6 : decode prog_23_method_1_code 6 = .ok (.putfield 7, 3) := by decide +kernel
theorem d1_9 : decode prog_23_method_1_code 9 = .ok (.aload_n 0, 1) := by decide +kernel
theorem d1_10 : decode prog_23_method_1_code 10 = .ok (.iload_n 2, 1) := by decide +kernel
theorem d1_11 : decode prog_23_method_1_code 11 = .ok (.putfield 13, 3) := by decide +kernel
theorem d1_14 : decode prog_23_method_1_code 14 = .ok (.aload_n 0, 1) := by decide +kernel
theorem d1_15 : decode prog_23_method_1_code 15 = .ok (.iload_n 3, 1) := by decide +kernel
theorem d1_16 : decode prog_23_method_1_code 16 = .ok (.putfield 16, 3) := by decide +kernel
theorem d1_19 : decode prog_23_method_1_code 19 = .ok (.aload_n 0, 1) := by decide +kernel
theorem d1_20 : decode prog_23_method_1_code 20 = .ok (.iload 4, 2) := by decide +kernel
theorem d1_22 : decode prog_23_method_1_code 22 = .ok (.putfield 19, 3) := by decide +kernel
theorem d1_25 : decode prog_23_method_1_code 25 = .ok (.aload_n 0, 1) := by decide +kernel
theorem d1_26 : decode prog_23_method_1_code 26 = .ok (.aload 5, 2) := by decide +kernel
theorem d1_28 : decode prog_23_method_1_code 28 = .ok (.putfield 22, 3) := by decide +kernel
theorem d1_31 : decode prog_23_method_1_code 31 = .ok (.aload_n 0, 1) := by decide +kernel
theorem d1_32 : decode prog_23_method_1_code 32 = .ok (.aload 6, 2) := by decide +kernel
theorem d1_34 : decode prog_23_method_1_code 34 = .ok (.putfield 26, 3) := by decide +kernel
theorem d1_37 : decode prog_23_method_1_code 37 = .ok (.aload_n 0, 1) := by decide +kernel
theorem d1_38 : decode prog_23_method_1_code 38 = .ok (.aload 7, 2) := by decide +kernel
theorem d1_40 : decode prog_23_method_1_code 40 = .ok (.putfield 29, 3) := by decide +kernel
theorem d1_43 : decode prog_23_method_1_code 43 = .ok (.aload_n 0, 1) := by decide +kernel
theorem d1_44 : decode prog_23_method_1_code 44 = .ok (.aload 8, 2) := by decide +kernel
theorem d1_46 : decode prog_23_method_1_code 46 = .ok (.putfield 33, 3) := by decide +kernel
theorem d1_49 : decode prog_23_method_1_code 49 = .ok (.return_, 1) := by decide +kernel
theorem d2_0 : decode jdk_30_method_1_code 0 = .ok (.aload_n 0, 1) := by decide +kernel
theorem d2_1 : decode jdk_30_method_1_code 1 = .ok (.invokespecial 1, 3) := by decide +kernel
theorem d2_4 : decode jdk_30_method_1_code 4 = .ok (.return_, 1) := by decide +kernel
theorem d4_0 : decode prog_24_method_1_code 0 = .ok (.aload_n 0, 1) := by decide +kernel
theorem d4_1 : decode prog_24_method_1_code 1 = .ok (.invokespecial 1, 3) := by decide +kernel
theorem d4_4 : decode prog_24_method_1_code 4 = .ok (.aload_n 0, 1) := by decide +kernel
theorem d4_5 : decode prog_24_method_1_code 5 = .ok (.aload_n 1, 1) := by decide +kernel
theorem d4_6 : decode prog_24_method_1_code 6 = .ok (.putfield 7, 3) := by decide +kernel
theorem d4_9 : decode prog_24_method_1_code 9 = .ok (.aload_n 0, 1) := by decide +kernel
theorem d4_10 : decode prog_24_method_1_code 10 = .ok (.aload_n 2, 1) := by decide +kernel
theorem d4_11 : decode prog_24_method_1_code 11 = .ok (.putfield 13, 3) := by decide +kernel
theorem d4_14 : decode prog_24_method_1_code 14 = .ok (.aload_n 0, 1) := by decide +kernel
theorem d4_15 : decode prog_24_method_1_code 15 = .ok (.iload_n 3, 1) := by decide +kernel
theorem d4_16 : decode prog_24_method_1_code 16 = .ok (.putfield 17, 3) := by decide +kernel
theorem d4_19 : decode prog_24_method_1_code 19 = .ok (.aload_n 0, 1) := by decide +kernel
theorem d4_20 : decode prog_24_method_1_code 20 = .ok (.aload 4, 2) := by decide +kernel
theorem d4_22 : decode prog_24_method_1_code 22 = .ok (.putfield 21, 3) := by decide +kernel
theorem d4_25 : decode prog_24_method_1_code 25 = .ok (.aload_n 0, 1) := by decide +kernel
theorem d4_26 : decode prog_24_method_1_code 26 = .ok (.aload 5, 2) := by decide +kernel
theorem d4_28 : decode prog_24_method_1_code 28 = .ok (.putfield 25, 3) := by decide +kernel
theorem d4_31 : decode prog_24_method_1_code 31 = .ok (.return_, 1) := by decide +kernel
theorem d5_0 : decode prog_24_method_19_code 0 = .ok (.aload_n 0, 1) := by decide +kernel
theorem d5_1 : decode prog_24_method_19_code 1 = .ok (.getfield 13, 3) := by decide +kernel
theorem d5_4 : decode prog_24_method_19_code 4 = .ok (.invokevirtual 147, 3) := by decide +kernel
theorem d5_7 : decode prog_24_method_19_code 7 = .ok (.iconst 4, 1) := by decide +kernel
theorem d5_8 : decode prog_24_method_19_code 8 = .ok (.iload_n 1, 1) := by decide +kernel
theorem d5_9 : decode prog_24_method_19_code 9 = .ok (.imul, 1) := by decide +kernel
theorem d5_10 : decode prog_24_method_19_code 10 = .ok (.iaload, 1) := by decide +kernel
theorem d5_11 : decode prog_24_method_19_code 11 = .ok (.ireturn, 1) := by decide +kernel
theorem d6_0 : decode prog_23_method_11_code 0 = .ok (.aload_n 0, 1) := by decide +kernel
theorem d6_1 : decode prog_23_method_11_code 1 = .ok (.getfield 29, 3) := by decide +kernel
theorem d6_4 : decode prog_23_method_11_code 4 = .ok (.areturn, 1) := by decide +kernel
theorem own_pn0 : plainName "java/lang/Record" = true := by first | (simp [plainName, overriddenIn]; done) | decide +kernel
theorem own_pd1 : parseMethodDescriptor "()V" = some ⟨[], none⟩ := by decide +kernel
theorem own_pn2 : plainName "com/example/halyard/halyard/base/XmlScan$StartTag" = true := by first | (simp [plainName, overriddenIn]; done) | decide +kernel
theorem own_pn3 : plainName "com/example/halyard/halyard/base/XmlSlice" = true := by first | (simp [plainName, overriddenIn]; done) | decide +kernel
theorem own_pd4 : parseMethodDescriptor "()[I" = some ⟨[], some (.array .int)⟩ := by decide +kernel
theorem own_wS {a0 : Array Value} {Z : State} (hw : ∀ d ∈ tables_1, d.before a0 Z = true) : ∀ a ∈ Bundle.stringAtoms, a.before a0 Z = true := by
  intro d hd
  simp only [Bundle.stringAtoms, List.mem_cons, List.not_mem_nil, or_false] at hd
  rcases hd with rfl | rfl | rfl | rfl | rfl | rfl | rfl
  · exact wd_5 hw
  · exact wd_6 hw
  · exact wd_7 hw
  · exact wd_8 hw
  · exact wd_9 hw
  · exact wd_10 hw
  · exact wd_11 hw
theorem own_pd5 : parseMethodDescriptor "(IIIILjava/lang/String;Ljava/lang/String;[ILjava/util/Map;)V" = some ⟨[.int, .int, .int, .int, (.object "java/lang/String"), (.object "java/lang/String"), (.array .int), (.object "java/util/Map")], none⟩ := by decide +kernel
theorem own_pd6 : parseMethodDescriptor "([BLcom/example/halyard/halyard/base/XmlScan$StartTag;ILjava/util/List;[I)V" = some ⟨[(.array .byte), (.object "com/example/halyard/halyard/base/XmlScan$StartTag"), .int, (.object "java/util/List"), (.array .int)], none⟩ := by decide +kernel
theorem own_pd7 : parseMethodDescriptor "(I)I" = some ⟨[.int], some .int⟩ := by decide +kernel
theorem own_pn8 : plainName "com/example/halyard/halyard/base/XmlSliceAttributeStartPinLaw" = true := by first | (simp [plainName, overriddenIn]; done) | decide +kernel
set_option maxRecDepth 65536 in
theorem own_lk0 {p : Program} {l : Launch} {e : Env} {R : Room} {s : State} {m : MethodId} {args : Array Value} {below : List Frame} {meth : Method} {c : Code} {T : State} {locs : List Loc} {cells slots : Nat} {F : Option Value → State → Prop} {bs : ByteArray} {pc pc' : Nat} {Ls : Array Slot} {Z : State} {a0 : Array Value} {h : Heap} {b : Addr} {rest : List Value} {W : Nat} {rm : Room} {Q : Option Value → Heap → List Loc → Prop} (hw : ∀ d ∈ tables_1, d.before a0 Z = true) (X : Stand p l e R s m args below meth c T locs cells slots) (hx : p.tables.exec = Jvm.exec) (hZ : Z.Warmed39 s.vm) (hby : c.code = bs) (hsz : Ls.size = c.maxLocals) (hown : s.vm.findClass "com/example/halyard/halyard/base/XmlScan$StartTag" = some m.cls) (hd : decode bs pc = .ok (.invokespecial 1, 3)) (hp : pc + 3 = pc') (eT : T.heap = h) (hW : (rest.map fun v => v.category).sum ≤ W)
    (hM : MetFree l (⟨"java/lang/Record", "<init>", "()V"⟩ : MethodName) (head1 [(Cond.code (⟨"java/lang/Record", "<init>", "()V"⟩ : MethodName) jdk_30_method_1_code 1 none)] rm) (fun aa U => aa = #[.ref b] ∧ Z.Warmed39 U.vm ∧ U.heap = h) (fun _ _ _ _ _ => True) (fun _ U o U' => ∃ v L, o = .returned v ∧ Q v U'.heap L ∧ FrameEnd U o U' L rm.cells rm.slots)) (hf : rm.frames + 1 ≤ R.frames) (hl : W + (1 + 11) + rm.locals ≤ R.locals) (hc : cells + rm.cells ≤ R.cells) (hs : slots + rm.slots ≤ R.slots)
    (k : ∀ v T' L', Stand p l e R s m args below meth c T' (locs ++ L') (cells + rm.cells) (slots + rm.slots) → Q v T'.heap L' → own_End p e below F (T'.setTop (mkF m pc' Ls (v.toList ++ rest)))) : own_End p e below F (T.setTop (mkF m pc Ls (.ref b :: rest))) := by
  subst hp
  obtain ⟨v, _, ⟨T', L0, k0, n0⟩, -, X', ⟨L', hQ, e1, e2, e3⟩, stp⟩ := X.specialBack hx (y := (⟨"java/lang/Record", "<init>", "()V"⟩ : MethodName)) rfl hown (mvT hZ (wd_15 hw)) (mvT hZ (wd_16 hw)) (mvT hZ (wd_19 hw)) (by decide) (backOf (W := W) hM hZ (wd_19 hw) (wd_18 hw) hf hl) (g := mkF m pc Ls (.ref b :: rest)) rfl hsz (Steps.refl _) (a := b) (argsL := []) (rest := rest) (lenOf own_pd1 rfl) rfl (by show 2 * 0 + _ ≤ _; omega) (hb hby hd) (fun _ _ => ⟨rfl, eT, hc, hs⟩)
  dsimp only [Pt.U, Pt.locs, Pt.cells, Pt.slots] at X' e1 e2 e3 stp hQ
  subst e1 e2 e3
  exact own_trans stp (k v T' L' X' hQ)
set_option maxRecDepth 65536 in
theorem own_lk1 {p : Program} {l : Launch} {e : Env} {R : Room} {s : State} {m : MethodId} {args : Array Value} {below : List Frame} {meth : Method} {c : Code} {T : State} {locs : List Loc} {cells slots : Nat} {F : Option Value → State → Prop} {bs : ByteArray} {pc pc' : Nat} {Ls : Array Slot} {Z : State} {a0 : Array Value} {h : Heap} {b : Addr} {rest : List Value} {W : Nat} {rm : Room} {Q : Option Value → Heap → List Loc → Prop} (hw : ∀ d ∈ tables_1, d.before a0 Z = true) (X : Stand p l e R s m args below meth c T locs cells slots) (hx : p.tables.exec = Jvm.exec) (hZ : Z.Warmed39 s.vm) (hby : c.code = bs) (hsz : Ls.size = c.maxLocals) (hown : s.vm.findClass "com/example/halyard/halyard/base/XmlSlice" = some m.cls) (hd : decode bs pc = .ok (.invokevirtual 147, 3)) (hp : pc + 3 = pc') (eT : T.heap = h) (E : Exa Z h b "com/example/halyard/halyard/base/XmlScan$StartTag") (hW : (rest.map fun v => v.category).sum ≤ W)
    (hM : MetFree l (⟨"com/example/halyard/halyard/base/XmlScan$StartTag", "attributes", "()[I"⟩ : MethodName) (head1 [(Cond.code (⟨"com/example/halyard/halyard/base/XmlScan$StartTag", "attributes", "()[I"⟩ : MethodName) prog_23_method_11_code 1 (some (.array .int)))] rm) (fun aa U => aa = #[.ref b] ∧ Z.Warmed39 U.vm ∧ U.heap = h) (fun _ _ _ _ _ => True) (fun _ U o U' => ∃ v L, o = .returned v ∧ Q v U'.heap L ∧ FrameEnd U o U' L rm.cells rm.slots)) (hf : rm.frames + 1 ≤ R.frames) (hl : W + (1 + 11) + rm.locals ≤ R.locals) (hc : cells + rm.cells ≤ R.cells) (hs : slots + rm.slots ≤ R.slots)
    (k : ∀ v T' L', Stand p l e R s m args below meth c T' (locs ++ L') (cells + rm.cells) (slots + rm.slots) → Q v T'.heap L' → own_End p e below F (T'.setTop (mkF m pc' Ls (v.toList ++ rest)))) : own_End p e below F (T.setTop (mkF m pc Ls (.ref b :: rest))) := by
  subst hp
  obtain ⟨cq, kq, q1, q2, q3⟩ := isOf hZ eT E
  obtain ⟨v, _, ⟨T', L0, k0, n0⟩, -, X', ⟨L', hQ, e1, e2, e3⟩, stp⟩ := X.virtualBack hx (y := (⟨"com/example/halyard/halyard/base/XmlScan$StartTag", "attributes", "()[I"⟩ : MethodName)) (z := (⟨"com/example/halyard/halyard/base/XmlScan$StartTag", "attributes", "()[I"⟩ : MethodName)) hown (mvT hZ (wd_61 hw)) (mvT hZ (wd_62 hw)) (notFace_of_selects (args := #[]) (mvT hZ (wd_64 hw))) (mvT hZ (wd_64 hw)) (mvT hZ (wd_63 hw)) (by decide) (backOf (W := W) hM hZ (wd_65 hw) (wd_3 hw) hf hl) q1 q3 (g := mkF m pc Ls (.ref b :: rest)) rfl hsz (Steps.refl _) (argsL := []) (rest := rest) (lenOf own_pd4 rfl) rfl (by show 2 * 0 + _ ≤ _; omega) (hb hby hd) (fun _ _ => ⟨rfl, eT, hc, hs⟩)
  dsimp only [Pt.U, Pt.locs, Pt.cells, Pt.slots] at X' e1 e2 e3 stp hQ
  subst e1 e2 e3
  exact own_trans stp (k v T' L' X' hQ)
set_option maxRecDepth 65536 in
theorem own_lk2 {p : Program} {l : Launch} {e : Env} {R : Room} {s : State} {m : MethodId} {args : Array Value} {below : List Frame} {meth : Method} {c : Code} {T : State} {locs : List Loc} {cells slots : Nat} {F : Option Value → State → Prop} {bs : ByteArray} {pc pc' : Nat} {Ls : Array Slot} {Z : State} {a0 : Array Value} {h : Heap} {x0 : Value} {x1 : Value} {x2 : Value} {x3 : Value} {x4 : Value} {x5 : Value} {x6 : Value} {x7 : Value} {b : Addr} {rest : List Value} {W : Nat} {rm : Room} {Q : Option Value → Heap → List Loc → Prop} (hw : ∀ d ∈ tables_1, d.before a0 Z = true) (X : Stand p l e R s m args below meth c T locs cells slots) (hx : p.tables.exec = Jvm.exec) (hZ : Z.Warmed39 s.vm) (hby : c.code = bs) (hsz : Ls.size = c.maxLocals) (hown : s.vm.findClass "com/example/halyard/halyard/base/XmlSliceAttributeStartPinLaw" = some m.cls) (hd : decode bs pc = .ok (.invokespecial 11, 3)) (hp : pc + 3 = pc') (eT : T.heap = h) (hW : (rest.map fun v => v.category).sum ≤ W)
    (hM : MetFree l (⟨"com/example/halyard/halyard/base/XmlScan$StartTag", "<init>", "(IIIILjava/lang/String;Ljava/lang/String;[ILjava/util/Map;)V"⟩ : MethodName) (head1 [(Cond.code (⟨"com/example/halyard/halyard/base/XmlScan$StartTag", "<init>", "(IIIILjava/lang/String;Ljava/lang/String;[ILjava/util/Map;)V"⟩ : MethodName) prog_23_method_1_code 9 none)] rm) (fun aa U => aa = #[.ref b, x0, x1, x2, x3, x4, x5, x6, x7] ∧ Z.Warmed39 U.vm ∧ U.heap = h) (fun _ _ _ _ _ => True) (fun _ U o U' => ∃ v L, o = .returned v ∧ Q v U'.heap L ∧ FrameEnd U o U' L rm.cells rm.slots)) (hf : rm.frames + 1 ≤ R.frames) (hl : W + (9 + 11) + rm.locals ≤ R.locals) (hc : cells + rm.cells ≤ R.cells) (hs : slots + rm.slots ≤ R.slots)
    (k : ∀ v T' L', Stand p l e R s m args below meth c T' (locs ++ L') (cells + rm.cells) (slots + rm.slots) → Q v T'.heap L' → own_End p e below F (T'.setTop (mkF m pc' Ls (v.toList ++ rest)))) : own_End p e below F (T.setTop (mkF m pc Ls (x7 :: x6 :: x5 :: x4 :: x3 :: x2 :: x1 :: x0 :: .ref b :: rest))) := by
  subst hp
  obtain ⟨v, _, ⟨T', L0, k0, n0⟩, -, X', ⟨L', hQ, e1, e2, e3⟩, stp⟩ := X.specialBack hx (y := (⟨"com/example/halyard/halyard/base/XmlScan$StartTag", "<init>", "(IIIILjava/lang/String;Ljava/lang/String;[ILjava/util/Map;)V"⟩ : MethodName)) rfl hown (mvT hZ (wd_12 hw)) (mvT hZ (wd_13 hw)) (mvT hZ (wd_14 hw)) (by decide) (backOf (W := W) hM hZ (wd_14 hw) (wd_3 hw) hf hl) (g := mkF m pc Ls (x7 :: x6 :: x5 :: x4 :: x3 :: x2 :: x1 :: x0 :: .ref b :: rest)) rfl hsz (Steps.refl _) (a := b) (argsL := [x0, x1, x2, x3, x4, x5, x6, x7]) (rest := rest) (lenOf own_pd5 rfl) rfl (by show 2 * 0 + _ ≤ _; omega) (hb hby hd) (fun _ _ => ⟨rfl, eT, hc, hs⟩)
  dsimp only [Pt.U, Pt.locs, Pt.cells, Pt.slots] at X' e1 e2 e3 stp hQ
  subst e1 e2 e3
  exact own_trans stp (k v T' L' X' hQ)
set_option maxRecDepth 65536 in
theorem own_lk3 {p : Program} {l : Launch} {e : Env} {R : Room} {s : State} {m : MethodId} {args : Array Value} {below : List Frame} {meth : Method} {c : Code} {T : State} {locs : List Loc} {cells slots : Nat} {F : Option Value → State → Prop} {bs : ByteArray} {pc pc' : Nat} {Ls : Array Slot} {Z : State} {a0 : Array Value} {h : Heap} {x0 : Value} {x1 : Value} {x2 : Value} {x3 : Value} {x4 : Value} {b : Addr} {rest : List Value} {W : Nat} {rm : Room} {Q : Option Value → Heap → List Loc → Prop} (hw : ∀ d ∈ tables_1, d.before a0 Z = true) (X : Stand p l e R s m args below meth c T locs cells slots) (hx : p.tables.exec = Jvm.exec) (hZ : Z.Warmed39 s.vm) (hby : c.code = bs) (hsz : Ls.size = c.maxLocals) (hown : s.vm.findClass "com/example/halyard/halyard/base/XmlSliceAttributeStartPinLaw" = some m.cls) (hd : decode bs pc = .ok (.invokespecial 16, 3)) (hp : pc + 3 = pc') (eT : T.heap = h) (hW : (rest.map fun v => v.category).sum ≤ W)
    (hM : MetFree l (⟨"com/example/halyard/halyard/base/XmlSlice", "<init>", "([BLcom/example/halyard/halyard/base/XmlScan$StartTag;ILjava/util/List;[I)V"⟩ : MethodName) (head1 [(Cond.code (⟨"com/example/halyard/halyard/base/XmlSlice", "<init>", "([BLcom/example/halyard/halyard/base/XmlScan$StartTag;ILjava/util/List;[I)V"⟩ : MethodName) prog_24_method_1_code 6 none)] rm) (fun aa U => aa = #[.ref b, x0, x1, x2, x3, x4] ∧ Z.Warmed39 U.vm ∧ U.heap = h) (fun _ _ _ _ _ => True) (fun _ U o U' => ∃ v L, o = .returned v ∧ Q v U'.heap L ∧ FrameEnd U o U' L rm.cells rm.slots)) (hf : rm.frames + 1 ≤ R.frames) (hl : W + (6 + 11) + rm.locals ≤ R.locals) (hc : cells + rm.cells ≤ R.cells) (hs : slots + rm.slots ≤ R.slots)
    (k : ∀ v T' L', Stand p l e R s m args below meth c T' (locs ++ L') (cells + rm.cells) (slots + rm.slots) → Q v T'.heap L' → own_End p e below F (T'.setTop (mkF m pc' Ls (v.toList ++ rest)))) : own_End p e below F (T.setTop (mkF m pc Ls (x4 :: x3 :: x2 :: x1 :: x0 :: .ref b :: rest))) := by
  subst hp
  obtain ⟨v, _, ⟨T', L0, k0, n0⟩, -, X', ⟨L', hQ, e1, e2, e3⟩, stp⟩ := X.specialBack hx (y := (⟨"com/example/halyard/halyard/base/XmlSlice", "<init>", "([BLcom/example/halyard/halyard/base/XmlScan$StartTag;ILjava/util/List;[I)V"⟩ : MethodName)) rfl hown (mvT hZ (wd_42 hw)) (mvT hZ (wd_43 hw)) (mvT hZ (wd_44 hw)) (by decide) (backOf (W := W) hM hZ (wd_44 hw) (wd_41 hw) hf hl) (g := mkF m pc Ls (x4 :: x3 :: x2 :: x1 :: x0 :: .ref b :: rest)) rfl hsz (Steps.refl _) (a := b) (argsL := [x0, x1, x2, x3, x4]) (rest := rest) (lenOf own_pd6 rfl) rfl (by show 2 * 0 + _ ≤ _; omega) (hb hby hd) (fun _ _ => ⟨rfl, eT, hc, hs⟩)
  dsimp only [Pt.U, Pt.locs, Pt.cells, Pt.slots] at X' e1 e2 e3 stp hQ
  subst e1 e2 e3
  exact own_trans stp (k v T' L' X' hQ)
set_option maxRecDepth 65536 in
theorem own_lk4 {p : Program} {l : Launch} {e : Env} {R : Room} {s : State} {m : MethodId} {args : Array Value} {below : List Frame} {meth : Method} {c : Code} {T : State} {locs : List Loc} {cells slots : Nat} {F : Option Value → State → Prop} {bs : ByteArray} {pc pc' : Nat} {Ls : Array Slot} {Z : State} {a0 : Array Value} {h : Heap} {x0 : Value} {b : Addr} {rest : List Value} {W : Nat} {rm : Room} {Q : Option Value → Heap → List Loc → Prop} (hw : ∀ d ∈ tables_1, d.before a0 Z = true) (X : Stand p l e R s m args below meth c T locs cells slots) (hx : p.tables.exec = Jvm.exec) (hZ : Z.Warmed39 s.vm) (hby : c.code = bs) (hsz : Ls.size = c.maxLocals) (hown : s.vm.findClass "com/example/halyard/halyard/base/XmlSliceAttributeStartPinLaw" = some m.cls) (hd : decode bs pc = .ok (.invokevirtual 19, 3)) (hp : pc + 3 = pc') (eT : T.heap = h) (E : Exa Z h b "com/example/halyard/halyard/base/XmlSlice") (hW : (rest.map fun v => v.category).sum ≤ W)
    (hM : MetFree l (⟨"com/example/halyard/halyard/base/XmlSlice", "attributeStart", "(I)I"⟩ : MethodName) (head1 [(Cond.code (⟨"com/example/halyard/halyard/base/XmlSlice", "attributeStart", "(I)I"⟩ : MethodName) prog_24_method_19_code 2 (some .int))] rm) (fun aa U => aa = #[.ref b, x0] ∧ Z.Warmed39 U.vm ∧ U.heap = h) (fun _ _ _ _ _ => True) (fun _ U o U' => ∃ v L, o = .returned v ∧ Q v U'.heap L ∧ FrameEnd U o U' L rm.cells rm.slots)) (hf : rm.frames + 1 ≤ R.frames) (hl : W + (2 + 11) + rm.locals ≤ R.locals) (hc : cells + rm.cells ≤ R.cells) (hs : slots + rm.slots ≤ R.slots)
    (k : ∀ v T' L', Stand p l e R s m args below meth c T' (locs ++ L') (cells + rm.cells) (slots + rm.slots) → Q v T'.heap L' → own_End p e below F (T'.setTop (mkF m pc' Ls (v.toList ++ rest)))) : own_End p e below F (T.setTop (mkF m pc Ls (x0 :: .ref b :: rest))) := by
  subst hp
  obtain ⟨cq, kq, q1, q2, q3⟩ := isOf hZ eT E
  obtain ⟨v, _, ⟨T', L0, k0, n0⟩, -, X', ⟨L', hQ, e1, e2, e3⟩, stp⟩ := X.virtualBack hx (y := (⟨"com/example/halyard/halyard/base/XmlSlice", "attributeStart", "(I)I"⟩ : MethodName)) (z := (⟨"com/example/halyard/halyard/base/XmlSlice", "attributeStart", "(I)I"⟩ : MethodName)) hown (mvT hZ (wd_56 hw)) (mvT hZ (wd_57 hw)) (notFace_of_selects (args := #[]) (mvT hZ (wd_59 hw))) (mvT hZ (wd_59 hw)) (mvT hZ (wd_58 hw)) (by decide) (backOf (W := W) hM hZ (wd_60 hw) (wd_41 hw) hf hl) q1 q3 (g := mkF m pc Ls (x0 :: .ref b :: rest)) rfl hsz (Steps.refl _) (argsL := [x0]) (rest := rest) (lenOf own_pd7 rfl) rfl (by show 2 * 0 + _ ≤ _; omega) (hb hby hd) (fun _ _ => ⟨rfl, eT, hc, hs⟩)
  dsimp only [Pt.U, Pt.locs, Pt.cells, Pt.slots] at X' e1 e2 e3 stp hQ
  subst e1 e2 e3
  exact own_trans stp (k v T' L' X' hQ)

def own_ST (Z : State) (h : Heap) (a : Addr) (v0 : Int32) (v1 : Int32) (v2 : Int32) (v3 : Int32) (v4 : Value) (v5 : Value) (v6 : Value) (v7 : Value) : Prop := Exa Z h a "com/example/halyard/halyard/base/XmlScan$StartTag" ∧ Fld Z h a "com/example/halyard/halyard/base/XmlScan$StartTag" "depth" "I" (.int v0) ∧ Fld Z h a "com/example/halyard/halyard/base/XmlScan$StartTag" "start" "I" (.int v1) ∧ Fld Z h a "com/example/halyard/halyard/base/XmlScan$StartTag" "nameEnd" "I" (.int v2) ∧ Fld Z h a "com/example/halyard/halyard/base/XmlScan$StartTag" "end" "I" (.int v3) ∧ Fld Z h a "com/example/halyard/halyard/base/XmlScan$StartTag" "namespace" "Ljava/lang/String;" v4 ∧ Fld Z h a "com/example/halyard/halyard/base/XmlScan$StartTag" "localName" "Ljava/lang/String;" v5 ∧ Fld Z h a "com/example/halyard/halyard/base/XmlScan$StartTag" "attributes" "[I" v6 ∧ Fld Z h a "com/example/halyard/halyard/base/XmlScan$StartTag" "scope" "Ljava/util/Map;" v7
theorem own_ST.ext {Z : State} {h h' : Heap} {a : Addr} {v0 : Int32} {v1 : Int32} {v2 : Int32} {v3 : Int32} {v4 : Value} {v5 : Value} {v6 : Value} {v7 : Value} (O : own_ST Z h a v0 v1 v2 v3 v4 v5 v6 v7) (X : Ext h h') : own_ST Z h' a v0 v1 v2 v3 v4 v5 v6 v7 := by
  obtain ⟨E, F0, F1, F2, F3, F4, F5, F6, F7⟩ := O
  exact ⟨E.ext X, F0.ext X, F1.ext X, F2.ext X, F3.ext X, F4.ext X, F5.ext X, F6.ext X, F7.ext X⟩
theorem own_ST.keep {Z : State} {h h' : Heap} {a : Addr} {v0 : Int32} {v1 : Int32} {v2 : Int32} {v3 : Int32} {v4 : Value} {v5 : Value} {v6 : Value} {v7 : Value} (O : own_ST Z h a v0 v1 v2 v3 v4 v5 v6 v7) {ws : List Addr} (K : Keep h h' ws) (q : a ∉ ws) : own_ST Z h' a v0 v1 v2 v3 v4 v5 v6 v7 := by
  obtain ⟨E, F0, F1, F2, F3, F4, F5, F6, F7⟩ := O
  exact ⟨E.keep K, F0.keep K q, F1.keep K q, F2.keep K q, F3.keep K q, F4.keep K q, F5.keep K q, F6.keep K q, F7.keep K q⟩
theorem own_ST.other {Z : State} {h h' : Heap} {a : Addr} {v0 : Int32} {v1 : Int32} {v2 : Int32} {v3 : Int32} {v4 : Value} {v5 : Value} {v6 : Value} {v7 : Value} (O : own_ST Z h a v0 v1 v2 v3 v4 v5 v6 v7) {b : Addr} {sl : Nat} {v : Value} (W : Wr h h' b sl v) (q : a ≠ b) : own_ST Z h' a v0 v1 v2 v3 v4 v5 v6 v7 := by
  obtain ⟨E, F0, F1, F2, F3, F4, F5, F6, F7⟩ := O
  exact ⟨E.wr W, F0.other W (Or.inl q), F1.other W (Or.inl q), F2.other W (Or.inl q), F3.other W (Or.inl q), F4.other W (Or.inl q), F5.other W (Or.inl q), F6.other W (Or.inl q), F7.other W (Or.inl q)⟩
theorem own_ST.lt {Z : State} {h : Heap} {a : Addr} {v0 : Int32} {v1 : Int32} {v2 : Int32} {v3 : Int32} {v4 : Value} {v5 : Value} {v6 : Value} {v7 : Value} (O : own_ST Z h a v0 v1 v2 v3 v4 v5 v6 v7) : a < h.size := by
  obtain ⟨E, F0, F1, F2, F3, F4, F5, F6, F7⟩ := O
  exact E.lt
def own_XS (Z : State) (h : Heap) (a : Addr) (v0 : Value) (v1 : Value) (v2 : Int32) (v3 : Value) (v4 : Value) : Prop := Exa Z h a "com/example/halyard/halyard/base/XmlSlice" ∧ Fld Z h a "com/example/halyard/halyard/base/XmlSlice" "document" "[B" v0 ∧ Fld Z h a "com/example/halyard/halyard/base/XmlSlice" "tag" "Lcom/example/halyard/halyard/base/XmlScan$StartTag;" v1 ∧ Fld Z h a "com/example/halyard/halyard/base/XmlSlice" "end" "I" (.int v2) ∧ Fld Z h a "com/example/halyard/halyard/base/XmlSlice" "children" "Ljava/util/List;" v3 ∧ Fld Z h a "com/example/halyard/halyard/base/XmlSlice" "held" "[I" v4
theorem own_XS.ext {Z : State} {h h' : Heap} {a : Addr} {v0 : Value} {v1 : Value} {v2 : Int32} {v3 : Value} {v4 : Value} (O : own_XS Z h a v0 v1 v2 v3 v4) (X : Ext h h') : own_XS Z h' a v0 v1 v2 v3 v4 := by
  obtain ⟨E, F0, F1, F2, F3, F4⟩ := O
  exact ⟨E.ext X, F0.ext X, F1.ext X, F2.ext X, F3.ext X, F4.ext X⟩
theorem own_XS.keep {Z : State} {h h' : Heap} {a : Addr} {v0 : Value} {v1 : Value} {v2 : Int32} {v3 : Value} {v4 : Value} (O : own_XS Z h a v0 v1 v2 v3 v4) {ws : List Addr} (K : Keep h h' ws) (q : a ∉ ws) : own_XS Z h' a v0 v1 v2 v3 v4 := by
  obtain ⟨E, F0, F1, F2, F3, F4⟩ := O
  exact ⟨E.keep K, F0.keep K q, F1.keep K q, F2.keep K q, F3.keep K q, F4.keep K q⟩
theorem own_XS.other {Z : State} {h h' : Heap} {a : Addr} {v0 : Value} {v1 : Value} {v2 : Int32} {v3 : Value} {v4 : Value} (O : own_XS Z h a v0 v1 v2 v3 v4) {b : Addr} {sl : Nat} {v : Value} (W : Wr h h' b sl v) (q : a ≠ b) : own_XS Z h' a v0 v1 v2 v3 v4 := by
  obtain ⟨E, F0, F1, F2, F3, F4⟩ := O
  exact ⟨E.wr W, F0.other W (Or.inl q), F1.other W (Or.inl q), F2.other W (Or.inl q), F3.other W (Or.inl q), F4.other W (Or.inl q)⟩
theorem own_XS.lt {Z : State} {h : Heap} {a : Addr} {v0 : Value} {v1 : Value} {v2 : Int32} {v3 : Value} {v4 : Value} (O : own_XS Z h a v0 v1 v2 v3 v4) : a < h.size := by
  obtain ⟨E, F0, F1, F2, F3, F4⟩ := O
  exact E.lt
theorem own_ef_rm2 (m : MethodId) (a : Addr)  : entryFrame m #[(.ref a)] 1 = mkF m 0 #[.val (.ref a)] [] := by first | (simp [entryFrame, mkF, argsToLocals, Value.category]; done) | rfl
def Q2 (Z : State) (a : Addr) (h0 : Heap) (n0 : Nat) (v : Option Value) (h : Heap) (L : List Loc) : Prop := v = none ∧ Fr n0 L ∧ h = h0
set_option maxRecDepth 65536 in
set_option maxHeartbeats 40000000 in
theorem rm2 (l : Launch) (Z : State) (a0 : Array Value) (hw : ∀ d ∈ tables_1, d.before a0 Z = true) (ws : List Jvm.Cond) (a : Addr) (h0 : Heap) (n0 : Nat) (Z0 : n0 ≤ h0.size)  :
    MetFree l (⟨"java/lang/Record", "<init>", "()V"⟩ : MethodName) (head1 (Jvm.Cond.code (⟨"java/lang/Record", "<init>", "()V"⟩ : MethodName) jdk_30_method_1_code 1 none :: ws) ({ frames := 1, cells := 0, slots := 0, locals := 12 } : Room)) (fun aa U => aa = #[(.ref a)] ∧ Z.Warmed39 U.vm ∧ U.heap = h0) (fun _ _ _ _ _ => True) (fun _ U oc U' => ∃ v L, oc = .returned v ∧ Q2 Z a h0 n0 v U'.heap L ∧ FrameEnd U oc U' L ({ frames := 1, cells := 0, slots := 0, locals := 12 } : Room).cells ({ frames := 1, cells := 0, slots := 0, locals := 12 } : Room).slots) := by
  refine MetFree.of_bodySF (plainFor_of_name own_pn0) hisR ?_
  intro p e s m args below meth c s₁ Bd hml0 hP hK
  obtain ⟨rfl, hZ, hh⟩ := hP
  have hx := Bd.exec
  have hby := Bd.bytes
  have hlk := Bd.notSynchronized
  have hret := Bd.returns
  have hml : c.maxLocals = 1 := hml0
  have hown : s.vm.findClass "java/lang/Record" = some m.cls := findClass_of_methodNamed Bd.named
  have hnm := (name_of_methodNamed Bd.named Bd.method).1
  have X0 : Stand p l e ({ frames := 1, cells := 0, slots := 0, locals := 12 } : Room) s m #[(.ref a)] below meth c s₁ [] 0 0 := Stand.of_body Bd
  have e0 : s₁.heap = h0 := by rw [← hh, Bd.state]; rfl
  have N0 := Fr.nil n0
  refine own_body (Q := Q2 Z a h0 n0) (KC := ({ frames := 1, cells := 0, slots := 0, locals := 12 } : Room).cells) (KS := ({ frames := 1, cells := 0, slots := 0, locals := 12 } : Room).slots) ?_
  rw [own_ef_rm2 m a]
  refine own_aloadN X0 hx hby d2_0 (pc' := 1) rfl rfl rfl ?_
  refine own_init X0 hx hZ hby hown (wd_20 hw) (wd_21 hw) (wd_22 hw) e0 (by rw [hml]; rfl) d2_1 (pc' := 4) rfl (by decide) (W := 0) (Nat.le_of_eq rfl) (by decide) (fun T1 X1 e1 => ?_)
  refine own_return X1 hx hlk hby hret d2_4 (own_lv ?_ (by decide) (by decide))
  show Q2 Z a  h0 n0 none T1.heap _
  rw [e1]
  exact ⟨rfl, N0, rfl⟩
theorem own_ef_rm1 (m : MethodId) (a : Addr) (p1 : Int32) (p2 : Int32) (p3 : Int32) (p4 : Int32) (p5 : Addr) (p6 : Addr) (p7 : Addr)  : entryFrame m #[(.ref a), (.int p1), (.int p2), (.int p3), (.int p4), (.ref p5), (.ref p6), (.ref p7), .null] 9 = mkF m 0 #[.val (.ref a), .val (.int p1), .val (.int p2), .val (.int p3), .val (.int p4), .val (.ref p5), .val (.ref p6), .val (.ref p7), .val .null] [] := by first | (simp [entryFrame, mkF, argsToLocals, Value.category]; done) | rfl
def Q1 (Z : State) (a : Addr) (p1 : Int32) (p2 : Int32) (p3 : Int32) (p4 : Int32) (p5 : Addr) (p6 : Addr) (p7 : Addr) (h0 : Heap) (n0 : Nat) (v : Option Value) (h : Heap) (L : List Loc) : Prop := v = none ∧ Fr n0 L ∧ Keep h0 h [a] ∧ own_ST Z h a p1 p2 p3 p4 (.ref p5) (.ref p6) (.ref p7) .null
set_option maxRecDepth 65536 in
set_option maxHeartbeats 40000000 in
theorem rm1 (l : Launch) (Z : State) (a0 : Array Value) (hw : ∀ d ∈ tables_1, d.before a0 Z = true) (ws : List Jvm.Cond) (a : Addr) (p1 : Int32) (p2 : Int32) (p3 : Int32) (p4 : Int32) (p5 : Addr) (p6 : Addr) (p7 : Addr) (h0 : Heap) (n0 : Nat) (Z0 : n0 ≤ h0.size) (f_O_a : own_ST Z h0 a (0 : Int32) (0 : Int32) (0 : Int32) (0 : Int32) .null .null .null .null) (ge_a : n0 ≤ a) :
    MetFree l (⟨"com/example/halyard/halyard/base/XmlScan$StartTag", "<init>", "(IIIILjava/lang/String;Ljava/lang/String;[ILjava/util/Map;)V"⟩ : MethodName) (head1 (Jvm.Cond.code (⟨"com/example/halyard/halyard/base/XmlScan$StartTag", "<init>", "(IIIILjava/lang/String;Ljava/lang/String;[ILjava/util/Map;)V"⟩ : MethodName) prog_23_method_1_code 9 none :: ws) ({ frames := 2, cells := 0, slots := 0, locals := 24 } : Room)) (fun aa U => aa = #[(.ref a), (.int p1), (.int p2), (.int p3), (.int p4), (.ref p5), (.ref p6), (.ref p7), .null] ∧ Z.Warmed39 U.vm ∧ U.heap = h0) (fun _ _ _ _ _ => True) (fun _ U oc U' => ∃ v L, oc = .returned v ∧ Q1 Z a p1 p2 p3 p4 p5 p6 p7 h0 n0 v U'.heap L ∧ FrameEnd U oc U' L ({ frames := 2, cells := 0, slots := 0, locals := 24 } : Room).cells ({ frames := 2, cells := 0, slots := 0, locals := 24 } : Room).slots) := by
  refine MetFree.of_bodySF (plainFor_of_name own_pn2) hisR ?_
  intro p e s m args below meth c s₁ Bd hml0 hP hK
  obtain ⟨rfl, hZ, hh⟩ := hP
  have hx := Bd.exec
  have hby := Bd.bytes
  have hlk := Bd.notSynchronized
  have hret := Bd.returns
  have hml : c.maxLocals = 9 := hml0
  have hown : s.vm.findClass "com/example/halyard/halyard/base/XmlScan$StartTag" = some m.cls := findClass_of_methodNamed Bd.named
  have hnm := (name_of_methodNamed Bd.named Bd.method).1
  have X0 : Stand p l e ({ frames := 2, cells := 0, slots := 0, locals := 24 } : Room) s m #[(.ref a), (.int p1), (.int p2), (.int p3), (.int p4), (.ref p5), (.ref p6), (.ref p7), .null] below meth c s₁ [] 0 0 := Stand.of_body Bd
  have e0 : s₁.heap = h0 := by rw [← hh, Bd.state]; rfl
  have N0 := Fr.nil n0
  refine own_body (Q := Q1 Z a p1 p2 p3 p4 p5 p6 p7 h0 n0) (KC := ({ frames := 2, cells := 0, slots := 0, locals := 24 } : Room).cells) (KS := ({ frames := 2, cells := 0, slots := 0, locals := 24 } : Room).slots) ?_
  rw [own_ef_rm1 m a p1 p2 p3 p4 p5 p6 p7]
  have Kp : Keep h0 h0 [a] := Keep.refl h0 _
  refine own_aloadN X0 hx hby d1_0 (pc' := 1) rfl rfl rfl ?_
  refine own_lk0 hw X0 hx hZ hby (by rw [hml]; rfl) hown d1_1 (pc' := 4) rfl e0 (W := 0) (Nat.le_of_eq rfl) (rm2 l Z a0 hw [] a h0 n0 Z0 ) (by decide) (by decide) (by decide) (by decide) (fun v1 T1 L1 X1 hQ1 => ?_)
  obtain ⟨rfl, Nq1, e1⟩ := hQ1
  have N1 := Fr.app N0 Nq1
  show own_End p e below _ (T1.setTop (mkF m 4 _ []))
  refine own_aloadN X1 hx hby d1_4 (pc' := 5) rfl rfl rfl ?_
  refine own_iloadN X1 hx hby d1_5 (pc' := 6) rfl rfl ?_
  obtain ⟨f_E_a, f_F_a_depth, f_F_a_start, f_F_a_nameEnd, f_F_a_end, f_F_a_namespace, f_F_a_localName, f_F_a_attributes, f_F_a_scope⟩ := f_O_a
  refine own_putF X1 hx hZ hby hown (host := "") (Or.inl (wd_23 hw)) Via.refl e1 f_F_a_depth f_E_a (Or.inr ⟨(wd_24 hw), rfl, hnm⟩) (wd_2 hw) (ty := .int) (by decide) rfl rfl d1_6 (pc' := 9) rfl (fun T2 h2 X2 e2 W2 => ?_)
  have f_F_a_depth := f_F_a_depth.same W2
  have f_E_a := f_E_a.wr W2
  have f_F_a_start := f_F_a_start.other W2 (Or.inr (slot_ne (Or.inr (wd_26 hw)) (Or.inr (wd_24 hw)) (by decide) (t := .int) (t' := .int) (by decide) (by decide)))
  have f_F_a_nameEnd := f_F_a_nameEnd.other W2 (Or.inr (slot_ne (Or.inr (wd_28 hw)) (Or.inr (wd_24 hw)) (by decide) (t := .int) (t' := .int) (by decide) (by decide)))
  have f_F_a_end := f_F_a_end.other W2 (Or.inr (slot_ne (Or.inr (wd_30 hw)) (Or.inr (wd_24 hw)) (by decide) (t := .int) (t' := .int) (by decide) (by decide)))
  have f_F_a_namespace := f_F_a_namespace.other W2 (Or.inr (slot_ne (Or.inr (wd_32 hw)) (Or.inr (wd_24 hw)) (by decide) (t := (.object "java/lang/String")) (t' := .int) (by decide) (by decide)))
  have f_F_a_localName := f_F_a_localName.other W2 (Or.inr (slot_ne (Or.inr (wd_34 hw)) (Or.inr (wd_24 hw)) (by decide) (t := (.object "java/lang/String")) (t' := .int) (by decide) (by decide)))
  have f_F_a_attributes := f_F_a_attributes.other W2 (Or.inr (slot_ne (Or.inr (wd_36 hw)) (Or.inr (wd_24 hw)) (by decide) (t := (.array .int)) (t' := .int) (by decide) (by decide)))
  have f_F_a_scope := f_F_a_scope.other W2 (Or.inr (slot_ne (Or.inr (wd_38 hw)) (Or.inr (wd_24 hw)) (by decide) (t := (.object "java/util/Map")) (t' := .int) (by decide) (by decide)))
  have Zn := Nat.le_trans Z0 (Keep.of_wr W2).1
  have Kp := Kp.wr W2 (Or.inl (List.mem_of_getElem? (i := 0) rfl))
  have N2 := Fr.snoc X2 N1 ge_a
  refine own_aloadN X2 hx hby d1_9 (pc' := 10) rfl rfl rfl ?_
  refine own_iloadN X2 hx hby d1_10 (pc' := 11) rfl rfl ?_
  refine own_putF X2 hx hZ hby hown (host := "") (Or.inl (wd_25 hw)) Via.refl e2 f_F_a_start f_E_a (Or.inr ⟨(wd_26 hw), rfl, hnm⟩) (wd_2 hw) (ty := .int) (by decide) rfl rfl d1_11 (pc' := 14) rfl (fun T3 h3 X3 e3 W3 => ?_)
  have f_F_a_start := f_F_a_start.same W3
  have f_E_a := f_E_a.wr W3
  have f_F_a_depth := f_F_a_depth.other W3 (Or.inr (slot_ne (Or.inr (wd_24 hw)) (Or.inr (wd_26 hw)) (by decide) (t := .int) (t' := .int) (by decide) (by decide)))
  have f_F_a_nameEnd := f_F_a_nameEnd.other W3 (Or.inr (slot_ne (Or.inr (wd_28 hw)) (Or.inr (wd_26 hw)) (by decide) (t := .int) (t' := .int) (by decide) (by decide)))
  have f_F_a_end := f_F_a_end.other W3 (Or.inr (slot_ne (Or.inr (wd_30 hw)) (Or.inr (wd_26 hw)) (by decide) (t := .int) (t' := .int) (by decide) (by decide)))
  have f_F_a_namespace := f_F_a_namespace.other W3 (Or.inr (slot_ne (Or.inr (wd_32 hw)) (Or.inr (wd_26 hw)) (by decide) (t := (.object "java/lang/String")) (t' := .int) (by decide) (by decide)))
  have f_F_a_localName := f_F_a_localName.other W3 (Or.inr (slot_ne (Or.inr (wd_34 hw)) (Or.inr (wd_26 hw)) (by decide) (t := (.object "java/lang/String")) (t' := .int) (by decide) (by decide)))
  have f_F_a_attributes := f_F_a_attributes.other W3 (Or.inr (slot_ne (Or.inr (wd_36 hw)) (Or.inr (wd_26 hw)) (by decide) (t := (.array .int)) (t' := .int) (by decide) (by decide)))
  have f_F_a_scope := f_F_a_scope.other W3 (Or.inr (slot_ne (Or.inr (wd_38 hw)) (Or.inr (wd_26 hw)) (by decide) (t := (.object "java/util/Map")) (t' := .int) (by decide) (by decide)))
  have Zn := Nat.le_trans Zn (Keep.of_wr W3).1
  have Kp := Kp.wr W3 (Or.inl (List.mem_of_getElem? (i := 0) rfl))
  have N3 := Fr.snoc X3 N2 ge_a
  refine own_aloadN X3 hx hby d1_14 (pc' := 15) rfl rfl rfl ?_
  refine own_iloadN X3 hx hby d1_15 (pc' := 16) rfl rfl ?_
  refine own_putF X3 hx hZ hby hown (host := "") (Or.inl (wd_27 hw)) Via.refl e3 f_F_a_nameEnd f_E_a (Or.inr ⟨(wd_28 hw), rfl, hnm⟩) (wd_2 hw) (ty := .int) (by decide) rfl rfl d1_16 (pc' := 19) rfl (fun T4 h4 X4 e4 W4 => ?_)
  have f_F_a_nameEnd := f_F_a_nameEnd.same W4
  have f_E_a := f_E_a.wr W4
  have f_F_a_depth := f_F_a_depth.other W4 (Or.inr (slot_ne (Or.inr (wd_24 hw)) (Or.inr (wd_28 hw)) (by decide) (t := .int) (t' := .int) (by decide) (by decide)))
  have f_F_a_start := f_F_a_start.other W4 (Or.inr (slot_ne (Or.inr (wd_26 hw)) (Or.inr (wd_28 hw)) (by decide) (t := .int) (t' := .int) (by decide) (by decide)))
  have f_F_a_end := f_F_a_end.other W4 (Or.inr (slot_ne (Or.inr (wd_30 hw)) (Or.inr (wd_28 hw)) (by decide) (t := .int) (t' := .int) (by decide) (by decide)))
  have f_F_a_namespace := f_F_a_namespace.other W4 (Or.inr (slot_ne (Or.inr (wd_32 hw)) (Or.inr (wd_28 hw)) (by decide) (t := (.object "java/lang/String")) (t' := .int) (by decide) (by decide)))
  have f_F_a_localName := f_F_a_localName.other W4 (Or.inr (slot_ne (Or.inr (wd_34 hw)) (Or.inr (wd_28 hw)) (by decide) (t := (.object "java/lang/String")) (t' := .int) (by decide) (by decide)))
  have f_F_a_attributes := f_F_a_attributes.other W4 (Or.inr (slot_ne (Or.inr (wd_36 hw)) (Or.inr (wd_28 hw)) (by decide) (t := (.array .int)) (t' := .int) (by decide) (by decide)))
  have f_F_a_scope := f_F_a_scope.other W4 (Or.inr (slot_ne (Or.inr (wd_38 hw)) (Or.inr (wd_28 hw)) (by decide) (t := (.object "java/util/Map")) (t' := .int) (by decide) (by decide)))
  have Zn := Nat.le_trans Zn (Keep.of_wr W4).1
  have Kp := Kp.wr W4 (Or.inl (List.mem_of_getElem? (i := 0) rfl))
  have N4 := Fr.snoc X4 N3 ge_a
  refine own_aloadN X4 hx hby d1_19 (pc' := 20) rfl rfl rfl ?_
  refine own_iload X4 hx hby d1_20 (pc' := 22) rfl rfl ?_
  refine own_putF X4 hx hZ hby hown (host := "") (Or.inl (wd_29 hw)) Via.refl e4 f_F_a_end f_E_a (Or.inr ⟨(wd_30 hw), rfl, hnm⟩) (wd_2 hw) (ty := .int) (by decide) rfl rfl d1_22 (pc' := 25) rfl (fun T5 h5 X5 e5 W5 => ?_)
  have f_F_a_end := f_F_a_end.same W5
  have f_E_a := f_E_a.wr W5
  have f_F_a_depth := f_F_a_depth.other W5 (Or.inr (slot_ne (Or.inr (wd_24 hw)) (Or.inr (wd_30 hw)) (by decide) (t := .int) (t' := .int) (by decide) (by decide)))
  have f_F_a_start := f_F_a_start.other W5 (Or.inr (slot_ne (Or.inr (wd_26 hw)) (Or.inr (wd_30 hw)) (by decide) (t := .int) (t' := .int) (by decide) (by decide)))
  have f_F_a_nameEnd := f_F_a_nameEnd.other W5 (Or.inr (slot_ne (Or.inr (wd_28 hw)) (Or.inr (wd_30 hw)) (by decide) (t := .int) (t' := .int) (by decide) (by decide)))
  have f_F_a_namespace := f_F_a_namespace.other W5 (Or.inr (slot_ne (Or.inr (wd_32 hw)) (Or.inr (wd_30 hw)) (by decide) (t := (.object "java/lang/String")) (t' := .int) (by decide) (by decide)))
  have f_F_a_localName := f_F_a_localName.other W5 (Or.inr (slot_ne (Or.inr (wd_34 hw)) (Or.inr (wd_30 hw)) (by decide) (t := (.object "java/lang/String")) (t' := .int) (by decide) (by decide)))
  have f_F_a_attributes := f_F_a_attributes.other W5 (Or.inr (slot_ne (Or.inr (wd_36 hw)) (Or.inr (wd_30 hw)) (by decide) (t := (.array .int)) (t' := .int) (by decide) (by decide)))
  have f_F_a_scope := f_F_a_scope.other W5 (Or.inr (slot_ne (Or.inr (wd_38 hw)) (Or.inr (wd_30 hw)) (by decide) (t := (.object "java/util/Map")) (t' := .int) (by decide) (by decide)))
  have Zn := Nat.le_trans Zn (Keep.of_wr W5).1
  have Kp := Kp.wr W5 (Or.inl (List.mem_of_getElem? (i := 0) rfl))
  have N5 := Fr.snoc X5 N4 ge_a
  refine own_aloadN X5 hx hby d1_25 (pc' := 26) rfl rfl rfl ?_
  refine own_aload X5 hx hby d1_26 (pc' := 28) rfl rfl rfl ?_
  refine own_putF X5 hx hZ hby hown (host := "") (Or.inl (wd_31 hw)) Via.refl e5 f_F_a_namespace f_E_a (Or.inr ⟨(wd_32 hw), rfl, hnm⟩) (wd_2 hw) (ty := (.object "java/lang/String")) (by decide) rfl rfl d1_28 (pc' := 31) rfl (fun T6 h6 X6 e6 W6 => ?_)
  have f_F_a_namespace := f_F_a_namespace.same W6
  have f_E_a := f_E_a.wr W6
  have f_F_a_depth := f_F_a_depth.other W6 (Or.inr (slot_ne (Or.inr (wd_24 hw)) (Or.inr (wd_32 hw)) (by decide) (t := .int) (t' := (.object "java/lang/String")) (by decide) (by decide)))
  have f_F_a_start := f_F_a_start.other W6 (Or.inr (slot_ne (Or.inr (wd_26 hw)) (Or.inr (wd_32 hw)) (by decide) (t := .int) (t' := (.object "java/lang/String")) (by decide) (by decide)))
  have f_F_a_nameEnd := f_F_a_nameEnd.other W6 (Or.inr (slot_ne (Or.inr (wd_28 hw)) (Or.inr (wd_32 hw)) (by decide) (t := .int) (t' := (.object "java/lang/String")) (by decide) (by decide)))
  have f_F_a_end := f_F_a_end.other W6 (Or.inr (slot_ne (Or.inr (wd_30 hw)) (Or.inr (wd_32 hw)) (by decide) (t := .int) (t' := (.object "java/lang/String")) (by decide) (by decide)))
  have f_F_a_localName := f_F_a_localName.other W6 (Or.inr (slot_ne (Or.inr (wd_34 hw)) (Or.inr (wd_32 hw)) (by decide) (t := (.object "java/lang/String")) (t' := (.object "java/lang/String")) (by decide) (by decide)))
  have f_F_a_attributes := f_F_a_attributes.other W6 (Or.inr (slot_ne (Or.inr (wd_36 hw)) (Or.inr (wd_32 hw)) (by decide) (t := (.array .int)) (t' := (.object "java/lang/String")) (by decide) (by decide)))
  have f_F_a_scope := f_F_a_scope.other W6 (Or.inr (slot_ne (Or.inr (wd_38 hw)) (Or.inr (wd_32 hw)) (by decide) (t := (.object "java/util/Map")) (t' := (.object "java/lang/String")) (by decide) (by decide)))
  have Zn := Nat.le_trans Zn (Keep.of_wr W6).1
  have Kp := Kp.wr W6 (Or.inl (List.mem_of_getElem? (i := 0) rfl))
  have N6 := Fr.snoc X6 N5 ge_a
  refine own_aloadN X6 hx hby d1_31 (pc' := 32) rfl rfl rfl ?_
  refine own_aload X6 hx hby d1_32 (pc' := 34) rfl rfl rfl ?_
  refine own_putF X6 hx hZ hby hown (host := "") (Or.inl (wd_33 hw)) Via.refl e6 f_F_a_localName f_E_a (Or.inr ⟨(wd_34 hw), rfl, hnm⟩) (wd_2 hw) (ty := (.object "java/lang/String")) (by decide) rfl rfl d1_34 (pc' := 37) rfl (fun T7 h7 X7 e7 W7 => ?_)
  have f_F_a_localName := f_F_a_localName.same W7
  have f_E_a := f_E_a.wr W7
  have f_F_a_depth := f_F_a_depth.other W7 (Or.inr (slot_ne (Or.inr (wd_24 hw)) (Or.inr (wd_34 hw)) (by decide) (t := .int) (t' := (.object "java/lang/String")) (by decide) (by decide)))
  have f_F_a_start := f_F_a_start.other W7 (Or.inr (slot_ne (Or.inr (wd_26 hw)) (Or.inr (wd_34 hw)) (by decide) (t := .int) (t' := (.object "java/lang/String")) (by decide) (by decide)))
  have f_F_a_nameEnd := f_F_a_nameEnd.other W7 (Or.inr (slot_ne (Or.inr (wd_28 hw)) (Or.inr (wd_34 hw)) (by decide) (t := .int) (t' := (.object "java/lang/String")) (by decide) (by decide)))
  have f_F_a_end := f_F_a_end.other W7 (Or.inr (slot_ne (Or.inr (wd_30 hw)) (Or.inr (wd_34 hw)) (by decide) (t := .int) (t' := (.object "java/lang/String")) (by decide) (by decide)))
  have f_F_a_namespace := f_F_a_namespace.other W7 (Or.inr (slot_ne (Or.inr (wd_32 hw)) (Or.inr (wd_34 hw)) (by decide) (t := (.object "java/lang/String")) (t' := (.object "java/lang/String")) (by decide) (by decide)))
  have f_F_a_attributes := f_F_a_attributes.other W7 (Or.inr (slot_ne (Or.inr (wd_36 hw)) (Or.inr (wd_34 hw)) (by decide) (t := (.array .int)) (t' := (.object "java/lang/String")) (by decide) (by decide)))
  have f_F_a_scope := f_F_a_scope.other W7 (Or.inr (slot_ne (Or.inr (wd_38 hw)) (Or.inr (wd_34 hw)) (by decide) (t := (.object "java/util/Map")) (t' := (.object "java/lang/String")) (by decide) (by decide)))
  have Zn := Nat.le_trans Zn (Keep.of_wr W7).1
  have Kp := Kp.wr W7 (Or.inl (List.mem_of_getElem? (i := 0) rfl))
  have N7 := Fr.snoc X7 N6 ge_a
  refine own_aloadN X7 hx hby d1_37 (pc' := 38) rfl rfl rfl ?_
  refine own_aload X7 hx hby d1_38 (pc' := 40) rfl rfl rfl ?_
  refine own_putF X7 hx hZ hby hown (host := "") (Or.inl (wd_35 hw)) Via.refl e7 f_F_a_attributes f_E_a (Or.inr ⟨(wd_36 hw), rfl, hnm⟩) (wd_2 hw) (ty := (.array .int)) (by decide) rfl rfl d1_40 (pc' := 43) rfl (fun T8 h8 X8 e8 W8 => ?_)
  have f_F_a_attributes := f_F_a_attributes.same W8
  have f_E_a := f_E_a.wr W8
  have f_F_a_depth := f_F_a_depth.other W8 (Or.inr (slot_ne (Or.inr (wd_24 hw)) (Or.inr (wd_36 hw)) (by decide) (t := .int) (t' := (.array .int)) (by decide) (by decide)))
  have f_F_a_start := f_F_a_start.other W8 (Or.inr (slot_ne (Or.inr (wd_26 hw)) (Or.inr (wd_36 hw)) (by decide) (t := .int) (t' := (.array .int)) (by decide) (by decide)))
  have f_F_a_nameEnd := f_F_a_nameEnd.other W8 (Or.inr (slot_ne (Or.inr (wd_28 hw)) (Or.inr (wd_36 hw)) (by decide) (t := .int) (t' := (.array .int)) (by decide) (by decide)))
  have f_F_a_end := f_F_a_end.other W8 (Or.inr (slot_ne (Or.inr (wd_30 hw)) (Or.inr (wd_36 hw)) (by decide) (t := .int) (t' := (.array .int)) (by decide) (by decide)))
  have f_F_a_namespace := f_F_a_namespace.other W8 (Or.inr (slot_ne (Or.inr (wd_32 hw)) (Or.inr (wd_36 hw)) (by decide) (t := (.object "java/lang/String")) (t' := (.array .int)) (by decide) (by decide)))
  have f_F_a_localName := f_F_a_localName.other W8 (Or.inr (slot_ne (Or.inr (wd_34 hw)) (Or.inr (wd_36 hw)) (by decide) (t := (.object "java/lang/String")) (t' := (.array .int)) (by decide) (by decide)))
  have f_F_a_scope := f_F_a_scope.other W8 (Or.inr (slot_ne (Or.inr (wd_38 hw)) (Or.inr (wd_36 hw)) (by decide) (t := (.object "java/util/Map")) (t' := (.array .int)) (by decide) (by decide)))
  have Zn := Nat.le_trans Zn (Keep.of_wr W8).1
  have Kp := Kp.wr W8 (Or.inl (List.mem_of_getElem? (i := 0) rfl))
  have N8 := Fr.snoc X8 N7 ge_a
  refine own_aloadN X8 hx hby d1_43 (pc' := 44) rfl rfl rfl ?_
  refine own_aload X8 hx hby d1_44 (pc' := 46) rfl rfl rfl ?_
  refine own_putF X8 hx hZ hby hown (host := "") (Or.inl (wd_37 hw)) Via.refl e8 f_F_a_scope f_E_a (Or.inr ⟨(wd_38 hw), rfl, hnm⟩) (wd_2 hw) (ty := (.object "java/util/Map")) (by decide) rfl rfl d1_46 (pc' := 49) rfl (fun T9 h9 X9 e9 W9 => ?_)
  have f_F_a_scope := f_F_a_scope.same W9
  have f_E_a := f_E_a.wr W9
  have f_F_a_depth := f_F_a_depth.other W9 (Or.inr (slot_ne (Or.inr (wd_24 hw)) (Or.inr (wd_38 hw)) (by decide) (t := .int) (t' := (.object "java/util/Map")) (by decide) (by decide)))
  have f_F_a_start := f_F_a_start.other W9 (Or.inr (slot_ne (Or.inr (wd_26 hw)) (Or.inr (wd_38 hw)) (by decide) (t := .int) (t' := (.object "java/util/Map")) (by decide) (by decide)))
  have f_F_a_nameEnd := f_F_a_nameEnd.other W9 (Or.inr (slot_ne (Or.inr (wd_28 hw)) (Or.inr (wd_38 hw)) (by decide) (t := .int) (t' := (.object "java/util/Map")) (by decide) (by decide)))
  have f_F_a_end := f_F_a_end.other W9 (Or.inr (slot_ne (Or.inr (wd_30 hw)) (Or.inr (wd_38 hw)) (by decide) (t := .int) (t' := (.object "java/util/Map")) (by decide) (by decide)))
  have f_F_a_namespace := f_F_a_namespace.other W9 (Or.inr (slot_ne (Or.inr (wd_32 hw)) (Or.inr (wd_38 hw)) (by decide) (t := (.object "java/lang/String")) (t' := (.object "java/util/Map")) (by decide) (by decide)))
  have f_F_a_localName := f_F_a_localName.other W9 (Or.inr (slot_ne (Or.inr (wd_34 hw)) (Or.inr (wd_38 hw)) (by decide) (t := (.object "java/lang/String")) (t' := (.object "java/util/Map")) (by decide) (by decide)))
  have f_F_a_attributes := f_F_a_attributes.other W9 (Or.inr (slot_ne (Or.inr (wd_36 hw)) (Or.inr (wd_38 hw)) (by decide) (t := (.array .int)) (t' := (.object "java/util/Map")) (by decide) (by decide)))
  have Zn := Nat.le_trans Zn (Keep.of_wr W9).1
  have Kp := Kp.wr W9 (Or.inl (List.mem_of_getElem? (i := 0) rfl))
  have N9 := Fr.snoc X9 N8 ge_a
  refine own_return X9 hx hlk hby hret d1_49 (own_lv ?_ (by decide) (by decide))
  show Q1 Z a p1 p2 p3 p4 p5 p6 p7  h0 n0 none T9.heap _
  rw [e9]
  exact ⟨rfl, N9, Kp, ⟨f_E_a, f_F_a_depth, f_F_a_start, f_F_a_nameEnd, f_F_a_end, f_F_a_namespace, f_F_a_localName, f_F_a_attributes, f_F_a_scope⟩⟩
theorem own_ef_rm4 (m : MethodId) (a : Addr) (p1 : Addr) (p2 : Addr) (p3 : Int32)  : entryFrame m #[(.ref a), (.ref p1), (.ref p2), (.int p3), .null, .null] 6 = mkF m 0 #[.val (.ref a), .val (.ref p1), .val (.ref p2), .val (.int p3), .val .null, .val .null] [] := by first | (simp [entryFrame, mkF, argsToLocals, Value.category]; done) | rfl
def Q4 (Z : State) (a : Addr) (p1 : Addr) (p2 : Addr) (p3 : Int32) (h0 : Heap) (n0 : Nat) (v : Option Value) (h : Heap) (L : List Loc) : Prop := v = none ∧ Fr n0 L ∧ Keep h0 h [a] ∧ own_XS Z h a (.ref p1) (.ref p2) p3 .null .null
set_option maxRecDepth 65536 in
set_option maxHeartbeats 40000000 in
theorem rm4 (l : Launch) (Z : State) (a0 : Array Value) (hw : ∀ d ∈ tables_1, d.before a0 Z = true) (ws : List Jvm.Cond) (a : Addr) (p1 : Addr) (p2 : Addr) (p3 : Int32) (h0 : Heap) (n0 : Nat) (Z0 : n0 ≤ h0.size) (f_O_a : own_XS Z h0 a .null .null (0 : Int32) .null .null) (ge_a : n0 ≤ a) :
    MetFree l (⟨"com/example/halyard/halyard/base/XmlSlice", "<init>", "([BLcom/example/halyard/halyard/base/XmlScan$StartTag;ILjava/util/List;[I)V"⟩ : MethodName) (head1 (Jvm.Cond.code (⟨"com/example/halyard/halyard/base/XmlSlice", "<init>", "([BLcom/example/halyard/halyard/base/XmlScan$StartTag;ILjava/util/List;[I)V"⟩ : MethodName) prog_24_method_1_code 6 none :: ws) ({ frames := 1, cells := 0, slots := 0, locals := 12 } : Room)) (fun aa U => aa = #[(.ref a), (.ref p1), (.ref p2), (.int p3), .null, .null] ∧ Z.Warmed39 U.vm ∧ U.heap = h0) (fun _ _ _ _ _ => True) (fun _ U oc U' => ∃ v L, oc = .returned v ∧ Q4 Z a p1 p2 p3 h0 n0 v U'.heap L ∧ FrameEnd U oc U' L ({ frames := 1, cells := 0, slots := 0, locals := 12 } : Room).cells ({ frames := 1, cells := 0, slots := 0, locals := 12 } : Room).slots) := by
  refine MetFree.of_bodySF (plainFor_of_name own_pn3) hisR ?_
  intro p e s m args below meth c s₁ Bd hml0 hP hK
  obtain ⟨rfl, hZ, hh⟩ := hP
  have hx := Bd.exec
  have hby := Bd.bytes
  have hlk := Bd.notSynchronized
  have hret := Bd.returns
  have hml : c.maxLocals = 6 := hml0
  have hown : s.vm.findClass "com/example/halyard/halyard/base/XmlSlice" = some m.cls := findClass_of_methodNamed Bd.named
  have hnm := (name_of_methodNamed Bd.named Bd.method).1
  have X0 : Stand p l e ({ frames := 1, cells := 0, slots := 0, locals := 12 } : Room) s m #[(.ref a), (.ref p1), (.ref p2), (.int p3), .null, .null] below meth c s₁ [] 0 0 := Stand.of_body Bd
  have e0 : s₁.heap = h0 := by rw [← hh, Bd.state]; rfl
  have N0 := Fr.nil n0
  refine own_body (Q := Q4 Z a p1 p2 p3 h0 n0) (KC := ({ frames := 1, cells := 0, slots := 0, locals := 12 } : Room).cells) (KS := ({ frames := 1, cells := 0, slots := 0, locals := 12 } : Room).slots) ?_
  rw [own_ef_rm4 m a p1 p2 p3]
  have Kp : Keep h0 h0 [a] := Keep.refl h0 _
  refine own_aloadN X0 hx hby d4_0 (pc' := 1) rfl rfl rfl ?_
  refine own_init X0 hx hZ hby hown (wd_45 hw) (wd_21 hw) (wd_22 hw) e0 (by rw [hml]; rfl) d4_1 (pc' := 4) rfl (by decide) (W := 0) (Nat.le_of_eq rfl) (by decide) (fun T1 X1 e1 => ?_)
  refine own_aloadN X1 hx hby d4_4 (pc' := 5) rfl rfl rfl ?_
  refine own_aloadN X1 hx hby d4_5 (pc' := 6) rfl rfl rfl ?_
  obtain ⟨f_E_a, f_F_a_document, f_F_a_tag, f_F_a_end, f_F_a_children, f_F_a_held⟩ := f_O_a
  refine own_putF X1 hx hZ hby hown (host := "") (Or.inl (wd_46 hw)) Via.refl e1 f_F_a_document f_E_a (Or.inr ⟨(wd_47 hw), rfl, hnm⟩) (wd_40 hw) (ty := (.array .byte)) (by decide) rfl rfl d4_6 (pc' := 9) rfl (fun T2 h2 X2 e2 W2 => ?_)
  have f_F_a_document := f_F_a_document.same W2
  have f_E_a := f_E_a.wr W2
  have f_F_a_tag := f_F_a_tag.other W2 (Or.inr (slot_ne (Or.inr (wd_49 hw)) (Or.inr (wd_47 hw)) (by decide) (t := (.object "com/example/halyard/halyard/base/XmlScan$StartTag")) (t' := (.array .byte)) (by decide) (by decide)))
  have f_F_a_end := f_F_a_end.other W2 (Or.inr (slot_ne (Or.inr (wd_51 hw)) (Or.inr (wd_47 hw)) (by decide) (t := .int) (t' := (.array .byte)) (by decide) (by decide)))
  have f_F_a_children := f_F_a_children.other W2 (Or.inr (slot_ne (Or.inr (wd_53 hw)) (Or.inr (wd_47 hw)) (by decide) (t := (.object "java/util/List")) (t' := (.array .byte)) (by decide) (by decide)))
  have f_F_a_held := f_F_a_held.other W2 (Or.inr (slot_ne (Or.inr (wd_55 hw)) (Or.inr (wd_47 hw)) (by decide) (t := (.array .int)) (t' := (.array .byte)) (by decide) (by decide)))
  have Zn := Nat.le_trans Z0 (Keep.of_wr W2).1
  have Kp := Kp.wr W2 (Or.inl (List.mem_of_getElem? (i := 0) rfl))
  have N2 := Fr.snoc X2 N0 ge_a
  refine own_aloadN X2 hx hby d4_9 (pc' := 10) rfl rfl rfl ?_
  refine own_aloadN X2 hx hby d4_10 (pc' := 11) rfl rfl rfl ?_
  refine own_putF X2 hx hZ hby hown (host := "") (Or.inl (wd_48 hw)) Via.refl e2 f_F_a_tag f_E_a (Or.inr ⟨(wd_49 hw), rfl, hnm⟩) (wd_40 hw) (ty := (.object "com/example/halyard/halyard/base/XmlScan$StartTag")) (by decide) rfl rfl d4_11 (pc' := 14) rfl (fun T3 h3 X3 e3 W3 => ?_)
  have f_F_a_tag := f_F_a_tag.same W3
  have f_E_a := f_E_a.wr W3
  have f_F_a_document := f_F_a_document.other W3 (Or.inr (slot_ne (Or.inr (wd_47 hw)) (Or.inr (wd_49 hw)) (by decide) (t := (.array .byte)) (t' := (.object "com/example/halyard/halyard/base/XmlScan$StartTag")) (by decide) (by decide)))
  have f_F_a_end := f_F_a_end.other W3 (Or.inr (slot_ne (Or.inr (wd_51 hw)) (Or.inr (wd_49 hw)) (by decide) (t := .int) (t' := (.object "com/example/halyard/halyard/base/XmlScan$StartTag")) (by decide) (by decide)))
  have f_F_a_children := f_F_a_children.other W3 (Or.inr (slot_ne (Or.inr (wd_53 hw)) (Or.inr (wd_49 hw)) (by decide) (t := (.object "java/util/List")) (t' := (.object "com/example/halyard/halyard/base/XmlScan$StartTag")) (by decide) (by decide)))
  have f_F_a_held := f_F_a_held.other W3 (Or.inr (slot_ne (Or.inr (wd_55 hw)) (Or.inr (wd_49 hw)) (by decide) (t := (.array .int)) (t' := (.object "com/example/halyard/halyard/base/XmlScan$StartTag")) (by decide) (by decide)))
  have Zn := Nat.le_trans Zn (Keep.of_wr W3).1
  have Kp := Kp.wr W3 (Or.inl (List.mem_of_getElem? (i := 0) rfl))
  have N3 := Fr.snoc X3 N2 ge_a
  refine own_aloadN X3 hx hby d4_14 (pc' := 15) rfl rfl rfl ?_
  refine own_iloadN X3 hx hby d4_15 (pc' := 16) rfl rfl ?_
  refine own_putF X3 hx hZ hby hown (host := "") (Or.inl (wd_50 hw)) Via.refl e3 f_F_a_end f_E_a (Or.inr ⟨(wd_51 hw), rfl, hnm⟩) (wd_40 hw) (ty := .int) (by decide) rfl rfl d4_16 (pc' := 19) rfl (fun T4 h4 X4 e4 W4 => ?_)
  have f_F_a_end := f_F_a_end.same W4
  have f_E_a := f_E_a.wr W4
  have f_F_a_document := f_F_a_document.other W4 (Or.inr (slot_ne (Or.inr (wd_47 hw)) (Or.inr (wd_51 hw)) (by decide) (t := (.array .byte)) (t' := .int) (by decide) (by decide)))
  have f_F_a_tag := f_F_a_tag.other W4 (Or.inr (slot_ne (Or.inr (wd_49 hw)) (Or.inr (wd_51 hw)) (by decide) (t := (.object "com/example/halyard/halyard/base/XmlScan$StartTag")) (t' := .int) (by decide) (by decide)))
  have f_F_a_children := f_F_a_children.other W4 (Or.inr (slot_ne (Or.inr (wd_53 hw)) (Or.inr (wd_51 hw)) (by decide) (t := (.object "java/util/List")) (t' := .int) (by decide) (by decide)))
  have f_F_a_held := f_F_a_held.other W4 (Or.inr (slot_ne (Or.inr (wd_55 hw)) (Or.inr (wd_51 hw)) (by decide) (t := (.array .int)) (t' := .int) (by decide) (by decide)))
  have Zn := Nat.le_trans Zn (Keep.of_wr W4).1
  have Kp := Kp.wr W4 (Or.inl (List.mem_of_getElem? (i := 0) rfl))
  have N4 := Fr.snoc X4 N3 ge_a
  refine own_aloadN X4 hx hby d4_19 (pc' := 20) rfl rfl rfl ?_
  refine own_aload X4 hx hby d4_20 (pc' := 22) rfl rfl rfl ?_
  refine own_putF X4 hx hZ hby hown (host := "") (Or.inl (wd_52 hw)) Via.refl e4 f_F_a_children f_E_a (Or.inr ⟨(wd_53 hw), rfl, hnm⟩) (wd_40 hw) (ty := (.object "java/util/List")) (by decide) rfl rfl d4_22 (pc' := 25) rfl (fun T5 h5 X5 e5 W5 => ?_)
  have f_F_a_children := f_F_a_children.same W5
  have f_E_a := f_E_a.wr W5
  have f_F_a_document := f_F_a_document.other W5 (Or.inr (slot_ne (Or.inr (wd_47 hw)) (Or.inr (wd_53 hw)) (by decide) (t := (.array .byte)) (t' := (.object "java/util/List")) (by decide) (by decide)))
  have f_F_a_tag := f_F_a_tag.other W5 (Or.inr (slot_ne (Or.inr (wd_49 hw)) (Or.inr (wd_53 hw)) (by decide) (t := (.object "com/example/halyard/halyard/base/XmlScan$StartTag")) (t' := (.object "java/util/List")) (by decide) (by decide)))
  have f_F_a_end := f_F_a_end.other W5 (Or.inr (slot_ne (Or.inr (wd_51 hw)) (Or.inr (wd_53 hw)) (by decide) (t := .int) (t' := (.object "java/util/List")) (by decide) (by decide)))
  have f_F_a_held := f_F_a_held.other W5 (Or.inr (slot_ne (Or.inr (wd_55 hw)) (Or.inr (wd_53 hw)) (by decide) (t := (.array .int)) (t' := (.object "java/util/List")) (by decide) (by decide)))
  have Zn := Nat.le_trans Zn (Keep.of_wr W5).1
  have Kp := Kp.wr W5 (Or.inl (List.mem_of_getElem? (i := 0) rfl))
  have N5 := Fr.snoc X5 N4 ge_a
  refine own_aloadN X5 hx hby d4_25 (pc' := 26) rfl rfl rfl ?_
  refine own_aload X5 hx hby d4_26 (pc' := 28) rfl rfl rfl ?_
  refine own_putF X5 hx hZ hby hown (host := "") (Or.inl (wd_54 hw)) Via.refl e5 f_F_a_held f_E_a (Or.inr ⟨(wd_55 hw), rfl, hnm⟩) (wd_40 hw) (ty := (.array .int)) (by decide) rfl rfl d4_28 (pc' := 31) rfl (fun T6 h6 X6 e6 W6 => ?_)
  have f_F_a_held := f_F_a_held.same W6
  have f_E_a := f_E_a.wr W6
  have f_F_a_document := f_F_a_document.other W6 (Or.inr (slot_ne (Or.inr (wd_47 hw)) (Or.inr (wd_55 hw)) (by decide) (t := (.array .byte)) (t' := (.array .int)) (by decide) (by decide)))
  have f_F_a_tag := f_F_a_tag.other W6 (Or.inr (slot_ne (Or.inr (wd_49 hw)) (Or.inr (wd_55 hw)) (by decide) (t := (.object "com/example/halyard/halyard/base/XmlScan$StartTag")) (t' := (.array .int)) (by decide) (by decide)))
  have f_F_a_end := f_F_a_end.other W6 (Or.inr (slot_ne (Or.inr (wd_51 hw)) (Or.inr (wd_55 hw)) (by decide) (t := .int) (t' := (.array .int)) (by decide) (by decide)))
  have f_F_a_children := f_F_a_children.other W6 (Or.inr (slot_ne (Or.inr (wd_53 hw)) (Or.inr (wd_55 hw)) (by decide) (t := (.object "java/util/List")) (t' := (.array .int)) (by decide) (by decide)))
  have Zn := Nat.le_trans Zn (Keep.of_wr W6).1
  have Kp := Kp.wr W6 (Or.inl (List.mem_of_getElem? (i := 0) rfl))
  have N6 := Fr.snoc X6 N5 ge_a
  refine own_return X6 hx hlk hby hret d4_31 (own_lv ?_ (by decide) (by decide))
  show Q4 Z a p1 p2 p3  h0 n0 none T6.heap _
  rw [e6]
  exact ⟨rfl, N6, Kp, ⟨f_E_a, f_F_a_document, f_F_a_tag, f_F_a_end, f_F_a_children, f_F_a_held⟩⟩
theorem own_ef_rm6 (m : MethodId) (a : Addr)  : entryFrame m #[(.ref a)] 1 = mkF m 0 #[.val (.ref a)] [] := by first | (simp [entryFrame, mkF, argsToLocals, Value.category]; done) | rfl
def Q6 (Z : State) (a : Addr) (t0 : Int32) (t1 : Int32) (t2 : Int32) (t3 : Int32) (t4 : Value) (ht4 : t4.isRef = true) (t5 : Value) (ht5 : t5.isRef = true) (w : Addr) (t7 : Value) (ht7 : t7.isRef = true) (h0 : Heap) (n0 : Nat) (v : Option Value) (h : Heap) (L : List Loc) : Prop := v = some (.ref w) ∧ Fr n0 L ∧ h = h0
set_option maxRecDepth 65536 in
set_option maxHeartbeats 40000000 in
theorem rm6 (l : Launch) (Z : State) (a0 : Array Value) (hw : ∀ d ∈ tables_1, d.before a0 Z = true) (ws : List Jvm.Cond) (a : Addr) (t0 : Int32) (t1 : Int32) (t2 : Int32) (t3 : Int32) (t4 : Value) (ht4 : t4.isRef = true) (t5 : Value) (ht5 : t5.isRef = true) (w : Addr) (t7 : Value) (ht7 : t7.isRef = true) (h0 : Heap) (n0 : Nat) (Z0 : n0 ≤ h0.size) (f_O_a : own_ST Z h0 a t0 t1 t2 t3 t4 t5 (.ref w) t7) :
    MetFree l (⟨"com/example/halyard/halyard/base/XmlScan$StartTag", "attributes", "()[I"⟩ : MethodName) (head1 (Jvm.Cond.code (⟨"com/example/halyard/halyard/base/XmlScan$StartTag", "attributes", "()[I"⟩ : MethodName) prog_23_method_11_code 1 (some (.array .int)) :: ws) ({ frames := 0, cells := 0, slots := 0, locals := 0 } : Room)) (fun aa U => aa = #[(.ref a)] ∧ Z.Warmed39 U.vm ∧ U.heap = h0) (fun _ _ _ _ _ => True) (fun _ U oc U' => ∃ v L, oc = .returned v ∧ Q6 Z a t0 t1 t2 t3 t4 ht4 t5 ht5 w t7 ht7 h0 n0 v U'.heap L ∧ FrameEnd U oc U' L ({ frames := 0, cells := 0, slots := 0, locals := 0 } : Room).cells ({ frames := 0, cells := 0, slots := 0, locals := 0 } : Room).slots) := by
  refine MetFree.of_bodySF (plainFor_of_name own_pn2) hisR ?_
  intro p e s m args below meth c s₁ Bd hml0 hP hK
  obtain ⟨rfl, hZ, hh⟩ := hP
  have hx := Bd.exec
  have hby := Bd.bytes
  have hlk := Bd.notSynchronized
  have hret := Bd.returns
  have hml : c.maxLocals = 1 := hml0
  have hown : s.vm.findClass "com/example/halyard/halyard/base/XmlScan$StartTag" = some m.cls := findClass_of_methodNamed Bd.named
  have hnm := (name_of_methodNamed Bd.named Bd.method).1
  have X0 : Stand p l e ({ frames := 0, cells := 0, slots := 0, locals := 0 } : Room) s m #[(.ref a)] below meth c s₁ [] 0 0 := Stand.of_body Bd
  have e0 : s₁.heap = h0 := by rw [← hh, Bd.state]; rfl
  have N0 := Fr.nil n0
  refine own_body (Q := Q6 Z a t0 t1 t2 t3 t4 ht4 t5 ht5 w t7 ht7 h0 n0) (KC := ({ frames := 0, cells := 0, slots := 0, locals := 0 } : Room).cells) (KS := ({ frames := 0, cells := 0, slots := 0, locals := 0 } : Room).slots) ?_
  rw [own_ef_rm6 m a]
  refine own_aloadN X0 hx hby d6_0 (pc' := 1) rfl rfl rfl ?_
  obtain ⟨f_E_a, f_F_a_depth, f_F_a_start, f_F_a_nameEnd, f_F_a_end, f_F_a_namespace, f_F_a_localName, f_F_a_attributes, f_F_a_scope⟩ := f_O_a
  refine own_getF X0 hx hZ hby hown (host := "") (Or.inl (wd_35 hw)) Via.refl e0 f_F_a_attributes d6_1 (pc' := 4) rfl (fun T1 X1 e1 => ?_)
  refine own_areturn X1 hx hlk hby hret rfl rfl d6_4 (own_lv ?_ (by decide) (by decide))
  show Q6 Z a t0 t1 t2 t3 t4 ht4 t5 ht5 w t7 ht7  h0 n0 (some (.ref w)) T1.heap _
  rw [e1]
  exact ⟨rfl, N0, rfl⟩
theorem own_ef_rm5 (m : MethodId) (a : Addr) (i : Int32)  : entryFrame m #[(.ref a), (.int i)] 2 = mkF m 0 #[.val (.ref a), .val (.int i)] [] := by first | (simp [entryFrame, mkF, argsToLocals, Value.category]; done) | rfl
def Q5 (Z : State) (a : Addr) (i : Int32) (x0 : Value) (hx0 : x0.isRef = true) (t : Addr) (x2 : Int32) (x3 : Value) (hx3 : x3.isRef = true) (x4 : Value) (hx4 : x4.isRef = true) (t0 : Int32) (t1 : Int32) (t2 : Int32) (t3 : Int32) (t4 : Value) (ht4 : t4.isRef = true) (t5 : Value) (ht5 : t5.isRef = true) (w : Addr) (t7 : Value) (ht7 : t7.isRef = true) (k : ClassId) (n : Int32) (vs : List Value) (z : Int32) (h0 : Heap) (n0 : Nat) (v : Option Value) (h : Heap) (L : List Loc) : Prop := v = some (.int z) ∧ Fr n0 L ∧ h = h0
set_option maxRecDepth 65536 in
set_option maxHeartbeats 40000000 in
theorem rm5 (l : Launch) (Z : State) (a0 : Array Value) (hw : ∀ d ∈ tables_1, d.before a0 Z = true) (ws : List Jvm.Cond) (a : Addr) (i : Int32) (x0 : Value) (hx0 : x0.isRef = true) (t : Addr) (x2 : Int32) (x3 : Value) (hx3 : x3.isRef = true) (x4 : Value) (hx4 : x4.isRef = true) (t0 : Int32) (t1 : Int32) (t2 : Int32) (t3 : Int32) (t4 : Value) (ht4 : t4.isRef = true) (t5 : Value) (ht5 : t5.isRef = true) (w : Addr) (t7 : Value) (ht7 : t7.isRef = true) (k : ClassId) (n : Int32) (vs : List Value) (z : Int32) (h0 : Heap) (n0 : Nat) (Z0 : n0 ≤ h0.size) (f_O_a : own_XS Z h0 a x0 (.ref t) x2 x3 x4) (f_O_t : own_ST Z h0 t t0 t1 t2 t3 t4 t5 (.ref w) t7) (f_V_w : Arv Z h0 w k .int n vs (.int (0 : Int32))) (hi : ¬ ((4 : Int32) * i) < 0 ∧ ((4 : Int32) * i) < n) (hz : vs.getD (((4 : Int32) * i)).toNatClampNeg (.int (0 : Int32)) = .int z) :
    MetFree l (⟨"com/example/halyard/halyard/base/XmlSlice", "attributeStart", "(I)I"⟩ : MethodName) (head1 (Jvm.Cond.code (⟨"com/example/halyard/halyard/base/XmlSlice", "attributeStart", "(I)I"⟩ : MethodName) prog_24_method_19_code 2 (some .int) :: ws) ({ frames := 1, cells := 0, slots := 0, locals := 12 } : Room)) (fun aa U => aa = #[(.ref a), (.int i)] ∧ Z.Warmed39 U.vm ∧ U.heap = h0) (fun _ _ _ _ _ => True) (fun _ U oc U' => ∃ v L, oc = .returned v ∧ Q5 Z a i x0 hx0 t x2 x3 hx3 x4 hx4 t0 t1 t2 t3 t4 ht4 t5 ht5 w t7 ht7 k n vs z h0 n0 v U'.heap L ∧ FrameEnd U oc U' L ({ frames := 1, cells := 0, slots := 0, locals := 12 } : Room).cells ({ frames := 1, cells := 0, slots := 0, locals := 12 } : Room).slots) := by
  refine MetFree.of_bodySF (plainFor_of_name own_pn3) hisR ?_
  intro p e s m args below meth c s₁ Bd hml0 hP hK
  obtain ⟨rfl, hZ, hh⟩ := hP
  have hx := Bd.exec
  have hby := Bd.bytes
  have hlk := Bd.notSynchronized
  have hret := Bd.returns
  have hml : c.maxLocals = 2 := hml0
  have hown : s.vm.findClass "com/example/halyard/halyard/base/XmlSlice" = some m.cls := findClass_of_methodNamed Bd.named
  have hnm := (name_of_methodNamed Bd.named Bd.method).1
  have X0 : Stand p l e ({ frames := 1, cells := 0, slots := 0, locals := 12 } : Room) s m #[(.ref a), (.int i)] below meth c s₁ [] 0 0 := Stand.of_body Bd
  have e0 : s₁.heap = h0 := by rw [← hh, Bd.state]; rfl
  have N0 := Fr.nil n0
  refine own_body (Q := Q5 Z a i x0 hx0 t x2 x3 hx3 x4 hx4 t0 t1 t2 t3 t4 ht4 t5 ht5 w t7 ht7 k n vs z h0 n0) (KC := ({ frames := 1, cells := 0, slots := 0, locals := 12 } : Room).cells) (KS := ({ frames := 1, cells := 0, slots := 0, locals := 12 } : Room).slots) ?_
  rw [own_ef_rm5 m a i]
  refine own_aloadN X0 hx hby d5_0 (pc' := 1) rfl rfl rfl ?_
  obtain ⟨f_E_a, f_F_a_document, f_F_a_tag, f_F_a_end, f_F_a_children, f_F_a_held⟩ := f_O_a
  refine own_getF X0 hx hZ hby hown (host := "") (Or.inl (wd_48 hw)) Via.refl e0 f_F_a_tag d5_1 (pc' := 4) rfl (fun T1 X1 e1 => ?_)
  refine own_lk1 hw X1 hx hZ hby (by rw [hml]; rfl) hown d5_4 (pc' := 7) rfl e1 f_O_t.1 (W := 0) (Nat.le_of_eq rfl) (rm6 l Z a0 hw [] t t0 t1 t2 t3 t4 ht4 t5 ht5 w t7 ht7 h0 n0 Z0 f_O_t) (by decide) (by decide) (by decide) (by decide) (fun v2 T2 L2 X2 hQ2 => ?_)
  obtain ⟨rfl, Nq2, e2⟩ := hQ2
  have N2 := Fr.app N0 Nq2
  show own_End p e below _ (T2.setTop (mkF m 7 _ [(.ref w)]))
  refine own_iconst X2 hx hby d5_7 (pc' := 8) rfl (n := (4 : Int32)) (by decide) ?_
  refine own_iloadN X2 hx hby d5_8 (pc' := 9) rfl rfl ?_
  refine own_imul X2 hx hby d5_9 (pc' := 10) rfl ?_
  obtain ⟨cl3, Ar3, q3, S3, M3, H3, G3⟩ := f_V_w
  have hin3 : ¬ (((4 : Int32) * i) < 0 ∨ cl3.slots.size ≤ (((4 : Int32) * i)).toNatClampNeg) := inb_of S3 hi
  have hat3 : cl3.slots[(((4 : Int32) * i)).toNatClampNeg]? = some (.int z) := H3.at hin3 hz
  refine own_iaload X2 hx hZ hby e2 Ar3 hin3 hat3 d5_10 (pc' := 11) rfl ?_
  refine own_ireturn X2 hx hlk hby hret d5_11 (own_lv ?_ (by decide) (by decide))
  show Q5 Z a i x0 hx0 t x2 x3 hx3 x4 hx4 t0 t1 t2 t3 t4 ht4 t5 ht5 w t7 ht7 k n vs z  h0 n0 (some (.int z)) T2.heap _
  rw [e2]
  exact ⟨rfl, N2, rfl⟩
theorem own_ef_rm0 (m : MethodId) (p0 : Int32) (p1 : Int32) (p2 : Int32) (p3 : Int32)  : entryFrame m #[(.int p0), (.int p1), (.int p2), (.int p3)] maxLocals = mkF m 0 #[.val (.int p0), .val (.int p1), .val (.int p2), .val (.int p3), .unset, .unset, .unset] [] := by first | (simp [entryFrame, mkF, argsToLocals, Value.category, maxLocals]; done) | rfl
def Q0 (Z : State) (p0 : Int32) (p1 : Int32) (p2 : Int32) (p3 : Int32) (h0 : Heap) (n0 : Nat) (v : Option Value) (h : Heap) (L : List Loc) : Prop := v = some (.int 1) ∧ Fr n0 L
set_option maxRecDepth 65536 in
set_option maxHeartbeats 40000000 in
theorem rm0 (l : Launch) (Z : State) (a0 : Array Value) (hw : ∀ d ∈ tables_1, d.before a0 Z = true) (ws : List Jvm.Cond) (p0 : Int32) (p1 : Int32) (p2 : Int32) (p3 : Int32) (h0 : Heap) (n0 : Nat) (Z0 : n0 ≤ h0.size)  :
    MetFree l x (head1 (Jvm.Cond.code x code maxLocals ret :: ws) room_1) (fun aa U => aa = #[(.int p0), (.int p1), (.int p2), (.int p3)] ∧ Z.Warmed39 U.vm ∧ U.heap = h0) (fun _ _ _ _ _ => True) (fun _ U oc U' => ∃ v L, oc = .returned v ∧ Q0 Z p0 p1 p2 p3 h0 n0 v U'.heap L ∧ ReturnedEndW U oc U' L room_1.cells room_1.slots) := by
  refine MetFree.of_bodySF (plainFor_of_name own_pn8) hisR ?_
  intro p e s m args below meth c s₁ Bd hml0 hP hK
  obtain ⟨rfl, hZ, hh⟩ := hP
  have hx := Bd.exec
  have hby := Bd.bytes
  have hlk := Bd.notSynchronized
  have hret := Bd.returns
  have hml : c.maxLocals = 7 := hml0
  have hown : s.vm.findClass "com/example/halyard/halyard/base/XmlSliceAttributeStartPinLaw" = some m.cls := findClass_of_methodNamed Bd.named
  have hnm := (name_of_methodNamed Bd.named Bd.method).1
  have X0 : Stand p l e room_1 s m #[(.int p0), (.int p1), (.int p2), (.int p3)] below meth c s₁ [] 0 0 := Stand.of_body Bd
  have e0 : s₁.heap = h0 := by rw [← hh, Bd.state]; rfl
  have N0 := Fr.nil n0
  refine own_bodyS (Q := Q0 Z p0 p1 p2 p3 h0 n0) (KC := room_1.cells) (KS := room_1.slots) ?_
  rw [own_ef_rm0 m p0 p1 p2 p3]
  have X0 : Stand p l e room_1 (s.setVm s.vm) m #[(.int p0), (.int p1), (.int p2), (.int p3)] below meth c s₁ [] 0 0 := X0
  have hS : s.Since s.vm h0.size := (State.WarmedH.refl s).since _
  have hSn : h0.size ≤ h0.size := Nat.le_refl _
  refine own_bipush X0 hx hby at_0 (pc' := 2) rfl (n := (12 : Int32)) (by decide) ?_
  refine own_newP (aty := .int) X0 hx hZ hby (wd_0 hw) e0 at_2 (pc' := 4) rfl (by decide) (cap := 12) (by decide) (by decide) (by decide) (by decide) (fun T1 h1 k1 b1 g1 X1 e1 E1 A1 => ?_)
  have ge_b1 : n0 ≤ b1 := by rw [g1]; exact Z0
  have Zn := Nat.le_trans Z0 E1.1
  have hSn := Nat.le_trans hSn E1.1
  have f_V_b1 : Arv Z h1 b1 k1 .int (12 : Int32) [(.int (0 : Int32)), (.int (0 : Int32)), (.int (0 : Int32)), (.int (0 : Int32)), (.int (0 : Int32)), (.int (0 : Int32)), (.int (0 : Int32)), (.int (0 : Int32)), (.int (0 : Int32)), (.int (0 : Int32)), (.int (0 : Int32)), (.int (0 : Int32))] (.int (0 : Int32)) := (Arv.new A1 (by decide)).pad (pad_rep [] (.int (0 : Int32)) 12)
  refine own_astore X1 hx hby at_4 (pc' := 6) rfl rfl (l' := #[.val (.int p0), .val (.int p1), .val (.int p2), .val (.int p3), .val (.ref b1), .unset, .unset]) rfl ?_
  refine own_aload X1 hx hby at_6 (pc' := 8) rfl rfl rfl ?_
  refine own_iconst X1 hx hby at_8 (pc' := 9) rfl (n := (0 : Int32)) (by decide) ?_
  refine own_iloadN X1 hx hby at_9 (pc' := 10) rfl rfl ?_
  obtain ⟨cl2, Ar2, q2, S2, M2, H2, G2⟩ := f_V_b1
  have hin2 : ¬ ((0 : Int32) < 0 ∨ cl2.slots.size ≤ ((0 : Int32)).toNatClampNeg) := inb_of S2 ⟨by decide, by decide⟩
  refine own_iastore X1 hx hZ hby e1 Ar2 hin2 at_10 (pc' := 11) rfl (fun T3 h3 X3 e3 W3 => ?_)
  have f_V_b1 := Arv.set Ar2 q2 S2 M2 H2 G2 rfl W3 0 rfl (Nat.le_of_ble_eq_true rfl)
  have f_V_b1 : Arv Z h3 b1 k1 .int (12 : Int32) [(.int p0), (.int (0 : Int32)), (.int (0 : Int32)), (.int (0 : Int32)), (.int (0 : Int32)), (.int (0 : Int32)), (.int (0 : Int32)), (.int (0 : Int32)), (.int (0 : Int32)), (.int (0 : Int32)), (.int (0 : Int32)), (.int (0 : Int32))] (.int (0 : Int32)) := f_V_b1
  have Zn := Nat.le_trans Zn (Keep.of_wr W3).1
  have hSn := Nat.le_trans hSn (Keep.of_wr W3).1
  have N3 := Fr.snoc X3 N0 ge_b1
  refine own_aload X3 hx hby at_11 (pc' := 13) rfl rfl rfl ?_
  refine own_iconst X3 hx hby at_13 (pc' := 14) rfl (n := (1 : Int32)) (by decide) ?_
  refine own_iloadN X3 hx hby at_14 (pc' := 15) rfl rfl ?_
  refine own_iconst X3 hx hby at_15 (pc' := 16) rfl (n := (1 : Int32)) (by decide) ?_
  refine own_iadd X3 hx hby at_16 (pc' := 17) rfl ?_
  obtain ⟨cl4, Ar4, q4, S4, M4, H4, G4⟩ := f_V_b1
  have hin4 : ¬ ((1 : Int32) < 0 ∨ cl4.slots.size ≤ ((1 : Int32)).toNatClampNeg) := inb_of S4 ⟨by decide, by decide⟩
  refine own_iastore X3 hx hZ hby e3 Ar4 hin4 at_17 (pc' := 18) rfl (fun T5 h5 X5 e5 W5 => ?_)
  have f_V_b1 := Arv.set Ar4 q4 S4 M4 H4 G4 rfl W5 1 rfl (Nat.le_of_ble_eq_true rfl)
  have f_V_b1 : Arv Z h5 b1 k1 .int (12 : Int32) [(.int p0), (.int (p3 + (1 : Int32))), (.int (0 : Int32)), (.int (0 : Int32)), (.int (0 : Int32)), (.int (0 : Int32)), (.int (0 : Int32)), (.int (0 : Int32)), (.int (0 : Int32)), (.int (0 : Int32)), (.int (0 : Int32)), (.int (0 : Int32))] (.int (0 : Int32)) := f_V_b1
  have Zn := Nat.le_trans Zn (Keep.of_wr W5).1
  have hSn := Nat.le_trans hSn (Keep.of_wr W5).1
  have N5 := Fr.snoc X5 N3 ge_b1
  refine own_aload X5 hx hby at_18 (pc' := 20) rfl rfl rfl ?_
  refine own_iconst X5 hx hby at_20 (pc' := 21) rfl (n := (2 : Int32)) (by decide) ?_
  refine own_iloadN X5 hx hby at_21 (pc' := 22) rfl rfl ?_
  refine own_iconst X5 hx hby at_22 (pc' := 23) rfl (n := (2 : Int32)) (by decide) ?_
  refine own_iadd X5 hx hby at_23 (pc' := 24) rfl ?_
  obtain ⟨cl6, Ar6, q6, S6, M6, H6, G6⟩ := f_V_b1
  have hin6 : ¬ ((2 : Int32) < 0 ∨ cl6.slots.size ≤ ((2 : Int32)).toNatClampNeg) := inb_of S6 ⟨by decide, by decide⟩
  refine own_iastore X5 hx hZ hby e5 Ar6 hin6 at_24 (pc' := 25) rfl (fun T7 h7 X7 e7 W7 => ?_)
  have f_V_b1 := Arv.set Ar6 q6 S6 M6 H6 G6 rfl W7 2 rfl (Nat.le_of_ble_eq_true rfl)
  have f_V_b1 : Arv Z h7 b1 k1 .int (12 : Int32) [(.int p0), (.int (p3 + (1 : Int32))), (.int (p3 + (2 : Int32))), (.int (0 : Int32)), (.int (0 : Int32)), (.int (0 : Int32)), (.int (0 : Int32)), (.int (0 : Int32)), (.int (0 : Int32)), (.int (0 : Int32)), (.int (0 : Int32)), (.int (0 : Int32))] (.int (0 : Int32)) := f_V_b1
  have Zn := Nat.le_trans Zn (Keep.of_wr W7).1
  have hSn := Nat.le_trans hSn (Keep.of_wr W7).1
  have N7 := Fr.snoc X7 N5 ge_b1
  refine own_aload X7 hx hby at_25 (pc' := 27) rfl rfl rfl ?_
  refine own_iconst X7 hx hby at_27 (pc' := 28) rfl (n := (3 : Int32)) (by decide) ?_
  refine own_iloadN X7 hx hby at_28 (pc' := 29) rfl rfl ?_
  refine own_iconst X7 hx hby at_29 (pc' := 30) rfl (n := (3 : Int32)) (by decide) ?_
  refine own_iadd X7 hx hby at_30 (pc' := 31) rfl ?_
  obtain ⟨cl8, Ar8, q8, S8, M8, H8, G8⟩ := f_V_b1
  have hin8 : ¬ ((3 : Int32) < 0 ∨ cl8.slots.size ≤ ((3 : Int32)).toNatClampNeg) := inb_of S8 ⟨by decide, by decide⟩
  refine own_iastore X7 hx hZ hby e7 Ar8 hin8 at_31 (pc' := 32) rfl (fun T9 h9 X9 e9 W9 => ?_)
  have f_V_b1 := Arv.set Ar8 q8 S8 M8 H8 G8 rfl W9 3 rfl (Nat.le_of_ble_eq_true rfl)
  have f_V_b1 : Arv Z h9 b1 k1 .int (12 : Int32) [(.int p0), (.int (p3 + (1 : Int32))), (.int (p3 + (2 : Int32))), (.int (p3 + (3 : Int32))), (.int (0 : Int32)), (.int (0 : Int32)), (.int (0 : Int32)), (.int (0 : Int32)), (.int (0 : Int32)), (.int (0 : Int32)), (.int (0 : Int32)), (.int (0 : Int32))] (.int (0 : Int32)) := f_V_b1
  have Zn := Nat.le_trans Zn (Keep.of_wr W9).1
  have hSn := Nat.le_trans hSn (Keep.of_wr W9).1
  have N9 := Fr.snoc X9 N7 ge_b1
  refine own_aload X9 hx hby at_32 (pc' := 34) rfl rfl rfl ?_
  refine own_iconst X9 hx hby at_34 (pc' := 35) rfl (n := (4 : Int32)) (by decide) ?_
  refine own_iloadN X9 hx hby at_35 (pc' := 36) rfl rfl ?_
  obtain ⟨cl10, Ar10, q10, S10, M10, H10, G10⟩ := f_V_b1
  have hin10 : ¬ ((4 : Int32) < 0 ∨ cl10.slots.size ≤ ((4 : Int32)).toNatClampNeg) := inb_of S10 ⟨by decide, by decide⟩
  refine own_iastore X9 hx hZ hby e9 Ar10 hin10 at_36 (pc' := 37) rfl (fun T11 h11 X11 e11 W11 => ?_)
  have f_V_b1 := Arv.set Ar10 q10 S10 M10 H10 G10 rfl W11 4 rfl (Nat.le_of_ble_eq_true rfl)
  have f_V_b1 : Arv Z h11 b1 k1 .int (12 : Int32) [(.int p0), (.int (p3 + (1 : Int32))), (.int (p3 + (2 : Int32))), (.int (p3 + (3 : Int32))), (.int p1), (.int (0 : Int32)), (.int (0 : Int32)), (.int (0 : Int32)), (.int (0 : Int32)), (.int (0 : Int32)), (.int (0 : Int32)), (.int (0 : Int32))] (.int (0 : Int32)) := f_V_b1
  have Zn := Nat.le_trans Zn (Keep.of_wr W11).1
  have hSn := Nat.le_trans hSn (Keep.of_wr W11).1
  have N11 := Fr.snoc X11 N9 ge_b1
  refine own_aload X11 hx hby at_37 (pc' := 39) rfl rfl rfl ?_
  refine own_iconst X11 hx hby at_39 (pc' := 40) rfl (n := (5 : Int32)) (by decide) ?_
  refine own_iloadN X11 hx hby at_40 (pc' := 41) rfl rfl ?_
  refine own_iconst X11 hx hby at_41 (pc' := 42) rfl (n := (5 : Int32)) (by decide) ?_
  refine own_iadd X11 hx hby at_42 (pc' := 43) rfl ?_
  obtain ⟨cl12, Ar12, q12, S12, M12, H12, G12⟩ := f_V_b1
  have hin12 : ¬ ((5 : Int32) < 0 ∨ cl12.slots.size ≤ ((5 : Int32)).toNatClampNeg) := inb_of S12 ⟨by decide, by decide⟩
  refine own_iastore X11 hx hZ hby e11 Ar12 hin12 at_43 (pc' := 44) rfl (fun T13 h13 X13 e13 W13 => ?_)
  have f_V_b1 := Arv.set Ar12 q12 S12 M12 H12 G12 rfl W13 5 rfl (Nat.le_of_ble_eq_true rfl)
  have f_V_b1 : Arv Z h13 b1 k1 .int (12 : Int32) [(.int p0), (.int (p3 + (1 : Int32))), (.int (p3 + (2 : Int32))), (.int (p3 + (3 : Int32))), (.int p1), (.int (p3 + (5 : Int32))), (.int (0 : Int32)), (.int (0 : Int32)), (.int (0 : Int32)), (.int (0 : Int32)), (.int (0 : Int32)), (.int (0 : Int32))] (.int (0 : Int32)) := f_V_b1
  have Zn := Nat.le_trans Zn (Keep.of_wr W13).1
  have hSn := Nat.le_trans hSn (Keep.of_wr W13).1
  have N13 := Fr.snoc X13 N11 ge_b1
  refine own_aload X13 hx hby at_44 (pc' := 46) rfl rfl rfl ?_
  refine own_bipush X13 hx hby at_46 (pc' := 48) rfl (n := (6 : Int32)) (by decide) ?_
  refine own_iloadN X13 hx hby at_48 (pc' := 49) rfl rfl ?_
  refine own_bipush X13 hx hby at_49 (pc' := 51) rfl (n := (6 : Int32)) (by decide) ?_
  refine own_iadd X13 hx hby at_51 (pc' := 52) rfl ?_
  obtain ⟨cl14, Ar14, q14, S14, M14, H14, G14⟩ := f_V_b1
  have hin14 : ¬ ((6 : Int32) < 0 ∨ cl14.slots.size ≤ ((6 : Int32)).toNatClampNeg) := inb_of S14 ⟨by decide, by decide⟩
  refine own_iastore X13 hx hZ hby e13 Ar14 hin14 at_52 (pc' := 53) rfl (fun T15 h15 X15 e15 W15 => ?_)
  have f_V_b1 := Arv.set Ar14 q14 S14 M14 H14 G14 rfl W15 6 rfl (Nat.le_of_ble_eq_true rfl)
  have f_V_b1 : Arv Z h15 b1 k1 .int (12 : Int32) [(.int p0), (.int (p3 + (1 : Int32))), (.int (p3 + (2 : Int32))), (.int (p3 + (3 : Int32))), (.int p1), (.int (p3 + (5 : Int32))), (.int (p3 + (6 : Int32))), (.int (0 : Int32)), (.int (0 : Int32)), (.int (0 : Int32)), (.int (0 : Int32)), (.int (0 : Int32))] (.int (0 : Int32)) := f_V_b1
  have Zn := Nat.le_trans Zn (Keep.of_wr W15).1
  have hSn := Nat.le_trans hSn (Keep.of_wr W15).1
  have N15 := Fr.snoc X15 N13 ge_b1
  refine own_aload X15 hx hby at_53 (pc' := 55) rfl rfl rfl ?_
  refine own_bipush X15 hx hby at_55 (pc' := 57) rfl (n := (7 : Int32)) (by decide) ?_
  refine own_iloadN X15 hx hby at_57 (pc' := 58) rfl rfl ?_
  refine own_bipush X15 hx hby at_58 (pc' := 60) rfl (n := (7 : Int32)) (by decide) ?_
  refine own_iadd X15 hx hby at_60 (pc' := 61) rfl ?_
  obtain ⟨cl16, Ar16, q16, S16, M16, H16, G16⟩ := f_V_b1
  have hin16 : ¬ ((7 : Int32) < 0 ∨ cl16.slots.size ≤ ((7 : Int32)).toNatClampNeg) := inb_of S16 ⟨by decide, by decide⟩
  refine own_iastore X15 hx hZ hby e15 Ar16 hin16 at_61 (pc' := 62) rfl (fun T17 h17 X17 e17 W17 => ?_)
  have f_V_b1 := Arv.set Ar16 q16 S16 M16 H16 G16 rfl W17 7 rfl (Nat.le_of_ble_eq_true rfl)
  have f_V_b1 : Arv Z h17 b1 k1 .int (12 : Int32) [(.int p0), (.int (p3 + (1 : Int32))), (.int (p3 + (2 : Int32))), (.int (p3 + (3 : Int32))), (.int p1), (.int (p3 + (5 : Int32))), (.int (p3 + (6 : Int32))), (.int (p3 + (7 : Int32))), (.int (0 : Int32)), (.int (0 : Int32)), (.int (0 : Int32)), (.int (0 : Int32))] (.int (0 : Int32)) := f_V_b1
  have Zn := Nat.le_trans Zn (Keep.of_wr W17).1
  have hSn := Nat.le_trans hSn (Keep.of_wr W17).1
  have N17 := Fr.snoc X17 N15 ge_b1
  refine own_aload X17 hx hby at_62 (pc' := 64) rfl rfl rfl ?_
  refine own_bipush X17 hx hby at_64 (pc' := 66) rfl (n := (8 : Int32)) (by decide) ?_
  refine own_iloadN X17 hx hby at_66 (pc' := 67) rfl rfl ?_
  obtain ⟨cl18, Ar18, q18, S18, M18, H18, G18⟩ := f_V_b1
  have hin18 : ¬ ((8 : Int32) < 0 ∨ cl18.slots.size ≤ ((8 : Int32)).toNatClampNeg) := inb_of S18 ⟨by decide, by decide⟩
  refine own_iastore X17 hx hZ hby e17 Ar18 hin18 at_67 (pc' := 68) rfl (fun T19 h19 X19 e19 W19 => ?_)
  have f_V_b1 := Arv.set Ar18 q18 S18 M18 H18 G18 rfl W19 8 rfl (Nat.le_of_ble_eq_true rfl)
  have f_V_b1 : Arv Z h19 b1 k1 .int (12 : Int32) [(.int p0), (.int (p3 + (1 : Int32))), (.int (p3 + (2 : Int32))), (.int (p3 + (3 : Int32))), (.int p1), (.int (p3 + (5 : Int32))), (.int (p3 + (6 : Int32))), (.int (p3 + (7 : Int32))), (.int p2), (.int (0 : Int32)), (.int (0 : Int32)), (.int (0 : Int32))] (.int (0 : Int32)) := f_V_b1
  have Zn := Nat.le_trans Zn (Keep.of_wr W19).1
  have hSn := Nat.le_trans hSn (Keep.of_wr W19).1
  have N19 := Fr.snoc X19 N17 ge_b1
  refine own_aload X19 hx hby at_68 (pc' := 70) rfl rfl rfl ?_
  refine own_bipush X19 hx hby at_70 (pc' := 72) rfl (n := (9 : Int32)) (by decide) ?_
  refine own_iloadN X19 hx hby at_72 (pc' := 73) rfl rfl ?_
  refine own_bipush X19 hx hby at_73 (pc' := 75) rfl (n := (9 : Int32)) (by decide) ?_
  refine own_iadd X19 hx hby at_75 (pc' := 76) rfl ?_
  obtain ⟨cl20, Ar20, q20, S20, M20, H20, G20⟩ := f_V_b1
  have hin20 : ¬ ((9 : Int32) < 0 ∨ cl20.slots.size ≤ ((9 : Int32)).toNatClampNeg) := inb_of S20 ⟨by decide, by decide⟩
  refine own_iastore X19 hx hZ hby e19 Ar20 hin20 at_76 (pc' := 77) rfl (fun T21 h21 X21 e21 W21 => ?_)
  have f_V_b1 := Arv.set Ar20 q20 S20 M20 H20 G20 rfl W21 9 rfl (Nat.le_of_ble_eq_true rfl)
  have f_V_b1 : Arv Z h21 b1 k1 .int (12 : Int32) [(.int p0), (.int (p3 + (1 : Int32))), (.int (p3 + (2 : Int32))), (.int (p3 + (3 : Int32))), (.int p1), (.int (p3 + (5 : Int32))), (.int (p3 + (6 : Int32))), (.int (p3 + (7 : Int32))), (.int p2), (.int (p3 + (9 : Int32))), (.int (0 : Int32)), (.int (0 : Int32))] (.int (0 : Int32)) := f_V_b1
  have Zn := Nat.le_trans Zn (Keep.of_wr W21).1
  have hSn := Nat.le_trans hSn (Keep.of_wr W21).1
  have N21 := Fr.snoc X21 N19 ge_b1
  refine own_aload X21 hx hby at_77 (pc' := 79) rfl rfl rfl ?_
  refine own_bipush X21 hx hby at_79 (pc' := 81) rfl (n := (10 : Int32)) (by decide) ?_
  refine own_iloadN X21 hx hby at_81 (pc' := 82) rfl rfl ?_
  refine own_bipush X21 hx hby at_82 (pc' := 84) rfl (n := (10 : Int32)) (by decide) ?_
  refine own_iadd X21 hx hby at_84 (pc' := 85) rfl ?_
  obtain ⟨cl22, Ar22, q22, S22, M22, H22, G22⟩ := f_V_b1
  have hin22 : ¬ ((10 : Int32) < 0 ∨ cl22.slots.size ≤ ((10 : Int32)).toNatClampNeg) := inb_of S22 ⟨by decide, by decide⟩
  refine own_iastore X21 hx hZ hby e21 Ar22 hin22 at_85 (pc' := 86) rfl (fun T23 h23 X23 e23 W23 => ?_)
  have f_V_b1 := Arv.set Ar22 q22 S22 M22 H22 G22 rfl W23 10 rfl (Nat.le_of_ble_eq_true rfl)
  have f_V_b1 : Arv Z h23 b1 k1 .int (12 : Int32) [(.int p0), (.int (p3 + (1 : Int32))), (.int (p3 + (2 : Int32))), (.int (p3 + (3 : Int32))), (.int p1), (.int (p3 + (5 : Int32))), (.int (p3 + (6 : Int32))), (.int (p3 + (7 : Int32))), (.int p2), (.int (p3 + (9 : Int32))), (.int (p3 + (10 : Int32))), (.int (0 : Int32))] (.int (0 : Int32)) := f_V_b1
  have Zn := Nat.le_trans Zn (Keep.of_wr W23).1
  have hSn := Nat.le_trans hSn (Keep.of_wr W23).1
  have N23 := Fr.snoc X23 N21 ge_b1
  refine own_aload X23 hx hby at_86 (pc' := 88) rfl rfl rfl ?_
  refine own_bipush X23 hx hby at_88 (pc' := 90) rfl (n := (11 : Int32)) (by decide) ?_
  refine own_iloadN X23 hx hby at_90 (pc' := 91) rfl rfl ?_
  refine own_bipush X23 hx hby at_91 (pc' := 93) rfl (n := (11 : Int32)) (by decide) ?_
  refine own_iadd X23 hx hby at_93 (pc' := 94) rfl ?_
  obtain ⟨cl24, Ar24, q24, S24, M24, H24, G24⟩ := f_V_b1
  have hin24 : ¬ ((11 : Int32) < 0 ∨ cl24.slots.size ≤ ((11 : Int32)).toNatClampNeg) := inb_of S24 ⟨by decide, by decide⟩
  refine own_iastore X23 hx hZ hby e23 Ar24 hin24 at_94 (pc' := 95) rfl (fun T25 h25 X25 e25 W25 => ?_)
  have f_V_b1 := Arv.set Ar24 q24 S24 M24 H24 G24 rfl W25 11 rfl (Nat.le_of_ble_eq_true rfl)
  have f_V_b1 : Arv Z h25 b1 k1 .int (12 : Int32) [(.int p0), (.int (p3 + (1 : Int32))), (.int (p3 + (2 : Int32))), (.int (p3 + (3 : Int32))), (.int p1), (.int (p3 + (5 : Int32))), (.int (p3 + (6 : Int32))), (.int (p3 + (7 : Int32))), (.int p2), (.int (p3 + (9 : Int32))), (.int (p3 + (10 : Int32))), (.int (p3 + (11 : Int32)))] (.int (0 : Int32)) := f_V_b1
  have Zn := Nat.le_trans Zn (Keep.of_wr W25).1
  have hSn := Nat.le_trans hSn (Keep.of_wr W25).1
  have N25 := Fr.snoc X25 N23 ge_b1
  refine own_new X25 hx hZ hby hown (wd_1 hw) (wd_2 hw) (wd_3 hw) e25 at_95 (pc' := 98) rfl (by decide) (by decide) (fun T26 h26 b26 g26 X26 e26 E26 A26 D26 => ?_)
  have ne_b1_b26 : b1 ≠ b26 := Nat.ne_of_lt (by rw [g26]; exact f_V_b1.lt)
  have ge_b26 : n0 ≤ b26 := by rw [g26]; exact Zn
  have f_V_b1 := f_V_b1.ext E26
  have Zn := Nat.le_trans Zn E26.1
  have hSn := Nat.le_trans hSn E26.1
  have f_O_b26 : own_ST Z h26 b26 (0 : Int32) (0 : Int32) (0 : Int32) (0 : Int32) .null .null .null .null := ⟨A26, D26 (Or.inr (wd_24 hw)) (ty := .int) (by decide), D26 (Or.inr (wd_26 hw)) (ty := .int) (by decide), D26 (Or.inr (wd_28 hw)) (ty := .int) (by decide), D26 (Or.inr (wd_30 hw)) (ty := .int) (by decide), D26 (Or.inr (wd_32 hw)) (ty := (.object "java/lang/String")) (by decide), D26 (Or.inr (wd_34 hw)) (ty := (.object "java/lang/String")) (by decide), D26 (Or.inr (wd_36 hw)) (ty := (.array .int)) (by decide), D26 (Or.inr (wd_38 hw)) (ty := (.object "java/util/Map")) (by decide)⟩
  refine own_dup X26 hx hby at_98 (pc' := 99) rfl rfl ?_
  refine own_iconst X26 hx hby at_99 (pc' := 100) rfl (n := (1 : Int32)) (by decide) ?_
  refine own_iconst X26 hx hby at_100 (pc' := 101) rfl (n := (0 : Int32)) (by decide) ?_
  refine own_iconst X26 hx hby at_101 (pc' := 102) rfl (n := (0 : Int32)) (by decide) ?_
  refine own_iconst X26 hx hby at_102 (pc' := 103) rfl (n := (0 : Int32)) (by decide) ?_
  obtain ⟨a27, T27, h27, k27, X27, e27, E27, hS, hSn, hZ, hown, st27⟩ := ldcS X26 hx hZ hown (wd_4 hw) (own_wS hw) e26 hS hSn (g := (mkF m 103 #[.val (.int p0), .val (.int p1), .val (.int p2), .val (.int p3), .val (.ref b1), .unset, .unset] [(.int (0 : Int32)), (.int (0 : Int32)), (.int (0 : Int32)), (.int (1 : Int32)), (.ref b26), (.ref b26)])) rfl (hb hby at_103) (n := 0) (by decide) (by decide) (by decide) (by decide)
  refine own_step st27 ?_
  have f_V_b1 := f_V_b1.ext E27
  have f_O_b26 := f_O_b26.ext E27
  have Zn := Nat.le_trans Zn E27.1
  show own_End p e below _ (T27.setTop (mkF m 105 #[.val (.int p0), .val (.int p1), .val (.int p2), .val (.int p3), .val (.ref b1), .unset, .unset] [(.ref a27), (.int (0 : Int32)), (.int (0 : Int32)), (.int (0 : Int32)), (.int (1 : Int32)), (.ref b26), (.ref b26)]))
  obtain ⟨a28, T28, h28, k28, X28, e28, E28, hS, hSn, hZ, hown, st28⟩ := ldcS X27 hx hZ hown (wd_4 hw) (own_wS hw) e27 hS hSn (g := (mkF m 105 #[.val (.int p0), .val (.int p1), .val (.int p2), .val (.int p3), .val (.ref b1), .unset, .unset] [(.ref a27), (.int (0 : Int32)), (.int (0 : Int32)), (.int (0 : Int32)), (.int (1 : Int32)), (.ref b26), (.ref b26)])) rfl (hb hby at_105) (n := 0) (by decide) (by decide) (by decide) (by decide)
  refine own_step st28 ?_
  have f_V_b1 := f_V_b1.ext E28
  have f_O_b26 := f_O_b26.ext E28
  have Zn := Nat.le_trans Zn E28.1
  show own_End p e below _ (T28.setTop (mkF m 107 #[.val (.int p0), .val (.int p1), .val (.int p2), .val (.int p3), .val (.ref b1), .unset, .unset] [(.ref a28), (.ref a27), (.int (0 : Int32)), (.int (0 : Int32)), (.int (0 : Int32)), (.int (1 : Int32)), (.ref b26), (.ref b26)]))
  refine own_aload X28 hx hby at_107 (pc' := 109) rfl rfl rfl ?_
  refine own_aconst_null X28 hx hby at_109 (pc' := 110) rfl ?_
  refine own_lk2 hw X28 hx hZ hby (by rw [hml]; rfl) hown at_110 (pc' := 113) rfl e28 (W := 1) (Nat.le_of_eq rfl) (rm1 l Z a0 hw [] b26 (1 : Int32) (0 : Int32) (0 : Int32) (0 : Int32) a27 a28 b1 h28 n0 Zn f_O_b26 ge_b26) (by decide) (by decide) (by decide) (by decide) (fun v29 T29 L29 X29 hQ29 => ?_)
  obtain ⟨rfl, Nq29, K29, O29⟩ := hQ29
  have N29 := Fr.app N25 Nq29
  have f_V_b1 := f_V_b1.keep K29 (ninS ne_b1_b26 nin0)
  have Zn := Nat.le_trans Zn K29.1
  have hSn := Nat.le_trans hSn K29.1
  show own_End p e below _ (T29.setTop (mkF m 113 _ [(.ref b26)]))
  refine own_astore X29 hx hby at_113 (pc' := 115) rfl rfl (l' := #[.val (.int p0), .val (.int p1), .val (.int p2), .val (.int p3), .val (.ref b1), .val (.ref b26), .unset]) rfl ?_
  refine own_new X29 hx hZ hby hown (wd_39 hw) (wd_40 hw) (wd_41 hw) rfl at_115 (pc' := 118) rfl (by decide) (by decide) (fun T30 h30 b30 g30 X30 e30 E30 A30 D30 => ?_)
  have ne_b1_b30 : b1 ≠ b30 := Nat.ne_of_lt (by rw [g30]; exact f_V_b1.lt)
  have ne_b26_b30 : b26 ≠ b30 := Nat.ne_of_lt (by rw [g30]; exact O29.lt)
  have ge_b30 : n0 ≤ b30 := by rw [g30]; exact Zn
  have f_V_b1 := f_V_b1.ext E30
  have O29 := O29.ext E30
  have Zn := Nat.le_trans Zn E30.1
  have hSn := Nat.le_trans hSn E30.1
  have f_O_b30 : own_XS Z h30 b30 .null .null (0 : Int32) .null .null := ⟨A30, D30 (Or.inr (wd_47 hw)) (ty := (.array .byte)) (by decide), D30 (Or.inr (wd_49 hw)) (ty := (.object "com/example/halyard/halyard/base/XmlScan$StartTag")) (by decide), D30 (Or.inr (wd_51 hw)) (ty := .int) (by decide), D30 (Or.inr (wd_53 hw)) (ty := (.object "java/util/List")) (by decide), D30 (Or.inr (wd_55 hw)) (ty := (.array .int)) (by decide)⟩
  refine own_dup X30 hx hby at_118 (pc' := 119) rfl rfl ?_
  refine own_iconst X30 hx hby at_119 (pc' := 120) rfl (n := (0 : Int32)) (by decide) ?_
  refine own_newP (aty := .byte) X30 hx hZ hby (wd_7 hw) e30 at_120 (pc' := 122) rfl (by decide) (cap := 0) (by decide) (by decide) (by decide) (by decide) (fun T31 h31 k31 b31 g31 X31 e31 E31 A31 => ?_)
  have ne_b1_b31 : b1 ≠ b31 := Nat.ne_of_lt (by rw [g31]; exact f_V_b1.lt)
  have ne_b26_b31 : b26 ≠ b31 := Nat.ne_of_lt (by rw [g31]; exact O29.lt)
  have ne_b30_b31 : b30 ≠ b31 := Nat.ne_of_lt (by rw [g31]; exact f_O_b30.lt)
  have ge_b31 : n0 ≤ b31 := by rw [g31]; exact Zn
  have f_V_b1 := f_V_b1.ext E31
  have O29 := O29.ext E31
  have f_O_b30 := f_O_b30.ext E31
  have Zn := Nat.le_trans Zn E31.1
  have hSn := Nat.le_trans hSn E31.1
  have f_V_b31 : Arv Z h31 b31 k31 .byte (0 : Int32) [] (.int (0 : Int32)) := Arv.new A31 (by decide)
  refine own_aload X31 hx hby at_122 (pc' := 124) rfl rfl rfl ?_
  refine own_iconst X31 hx hby at_124 (pc' := 125) rfl (n := (0 : Int32)) (by decide) ?_
  refine own_aconst_null X31 hx hby at_125 (pc' := 126) rfl ?_
  refine own_aconst_null X31 hx hby at_126 (pc' := 127) rfl ?_
  refine own_lk3 hw X31 hx hZ hby (by rw [hml]; rfl) hown at_127 (pc' := 130) rfl e31 (W := 1) (Nat.le_of_eq rfl) (rm4 l Z a0 hw [] b30 b31 b26 (0 : Int32) h31 n0 Zn f_O_b30 ge_b30) (by decide) (by decide) (by decide) (by decide) (fun v32 T32 L32 X32 hQ32 => ?_)
  obtain ⟨rfl, Nq32, K32, O32⟩ := hQ32
  have N32 := Fr.app N29 Nq32
  have f_V_b1 := f_V_b1.keep K32 (ninS ne_b1_b30 nin0)
  have O29 := O29.keep K32 (ninS ne_b26_b30 nin0)
  have f_V_b31 := f_V_b31.keep K32 (ninS (Ne.symm ne_b30_b31) nin0)
  have Zn := Nat.le_trans Zn K32.1
  have hSn := Nat.le_trans hSn K32.1
  show own_End p e below _ (T32.setTop (mkF m 130 _ [(.ref b30)]))
  refine own_astore X32 hx hby at_130 (pc' := 132) rfl rfl (l' := #[.val (.int p0), .val (.int p1), .val (.int p2), .val (.int p3), .val (.ref b1), .val (.ref b26), .val (.ref b30)]) rfl ?_
  refine own_aload X32 hx hby at_132 (pc' := 134) rfl rfl rfl ?_
  refine own_iconst X32 hx hby at_134 (pc' := 135) rfl (n := (0 : Int32)) (by decide) ?_
  refine own_lk4 hw X32 hx hZ hby (by rw [hml]; rfl) hown at_135 (pc' := 138) rfl rfl O32.1 (W := 0) (Nat.le_of_eq rfl) (rm5 l Z a0 hw [] b30 (0 : Int32) (.ref b31) rfl b26 (0 : Int32) .null rfl .null rfl (1 : Int32) (0 : Int32) (0 : Int32) (0 : Int32) (.ref a27) rfl (.ref a28) rfl b1 .null rfl k1 (12 : Int32) [(.int p0), (.int (p3 + (1 : Int32))), (.int (p3 + (2 : Int32))), (.int (p3 + (3 : Int32))), (.int p1), (.int (p3 + (5 : Int32))), (.int (p3 + (6 : Int32))), (.int (p3 + (7 : Int32))), (.int p2), (.int (p3 + (9 : Int32))), (.int (p3 + (10 : Int32))), (.int (p3 + (11 : Int32)))] p0 T32.heap n0 Zn O32 O29 f_V_b1 (by decide) rfl) (by decide) (by decide) (by decide) (by decide) (fun v33 T33 L33 X33 hQ33 => ?_)
  obtain ⟨rfl, Nq33, e33⟩ := hQ33
  have N33 := Fr.app N32 Nq33
  show own_End p e below _ (T33.setTop (mkF m 138 _ [(.int p0)]))
  refine own_iloadN X33 hx hby at_138 (pc' := 139) rfl rfl ?_
  refine own_icN X33 hx hby at_139 (pc' := 142) rfl (show p0 = p0 from rfl) ?_
  refine own_aload X33 hx hby at_142 (pc' := 144) rfl rfl rfl ?_
  refine own_iconst X33 hx hby at_144 (pc' := 145) rfl (n := (1 : Int32)) (by decide) ?_
  refine own_lk4 hw X33 hx hZ hby (by rw [hml]; rfl) hown at_145 (pc' := 148) rfl e33 O32.1 (W := 0) (Nat.le_of_eq rfl) (rm5 l Z a0 hw [] b30 (1 : Int32) (.ref b31) rfl b26 (0 : Int32) .null rfl .null rfl (1 : Int32) (0 : Int32) (0 : Int32) (0 : Int32) (.ref a27) rfl (.ref a28) rfl b1 .null rfl k1 (12 : Int32) [(.int p0), (.int (p3 + (1 : Int32))), (.int (p3 + (2 : Int32))), (.int (p3 + (3 : Int32))), (.int p1), (.int (p3 + (5 : Int32))), (.int (p3 + (6 : Int32))), (.int (p3 + (7 : Int32))), (.int p2), (.int (p3 + (9 : Int32))), (.int (p3 + (10 : Int32))), (.int (p3 + (11 : Int32)))] p1 T32.heap n0 Zn O32 O29 f_V_b1 (by decide) rfl) (by decide) (by decide) (by decide) (by decide) (fun v34 T34 L34 X34 hQ34 => ?_)
  obtain ⟨rfl, Nq34, e34⟩ := hQ34
  have N34 := Fr.app N33 Nq34
  show own_End p e below _ (T34.setTop (mkF m 148 _ [(.int p1)]))
  refine own_iloadN X34 hx hby at_148 (pc' := 149) rfl rfl ?_
  refine own_icN X34 hx hby at_149 (pc' := 152) rfl (show p1 = p1 from rfl) ?_
  refine own_aload X34 hx hby at_152 (pc' := 154) rfl rfl rfl ?_
  refine own_iconst X34 hx hby at_154 (pc' := 155) rfl (n := (2 : Int32)) (by decide) ?_
  refine own_lk4 hw X34 hx hZ hby (by rw [hml]; rfl) hown at_155 (pc' := 158) rfl e34 O32.1 (W := 0) (Nat.le_of_eq rfl) (rm5 l Z a0 hw [] b30 (2 : Int32) (.ref b31) rfl b26 (0 : Int32) .null rfl .null rfl (1 : Int32) (0 : Int32) (0 : Int32) (0 : Int32) (.ref a27) rfl (.ref a28) rfl b1 .null rfl k1 (12 : Int32) [(.int p0), (.int (p3 + (1 : Int32))), (.int (p3 + (2 : Int32))), (.int (p3 + (3 : Int32))), (.int p1), (.int (p3 + (5 : Int32))), (.int (p3 + (6 : Int32))), (.int (p3 + (7 : Int32))), (.int p2), (.int (p3 + (9 : Int32))), (.int (p3 + (10 : Int32))), (.int (p3 + (11 : Int32)))] p2 T32.heap n0 Zn O32 O29 f_V_b1 (by decide) rfl) (by decide) (by decide) (by decide) (by decide) (fun v35 T35 L35 X35 hQ35 => ?_)
  obtain ⟨rfl, Nq35, e35⟩ := hQ35
  have N35 := Fr.app N34 Nq35
  show own_End p e below _ (T35.setTop (mkF m 158 _ [(.int p2)]))
  refine own_iloadN X35 hx hby at_158 (pc' := 159) rfl rfl ?_
  refine own_icN X35 hx hby at_159 (pc' := 162) rfl (show p2 = p2 from rfl) ?_
  refine own_iconst X35 hx hby at_162 (pc' := 163) rfl (n := (1 : Int32)) (by decide) ?_
  refine own_goto X35 hx hby at_163 (pc' := 167) (by decide) (by decide) ?_
  refine own_zreturn X35 hx hlk hby hret (Or.inr rfl) at_167 (own_lvS hS (by rw [e35]; exact hSn) ?_ (by decide) (by decide))
  show Q0 Z p0 p1 p2 p3  h0 n0 (some (.int (1 : Int32))) T35.heap _
  rw [e35]
  exact ⟨rfl, N35⟩
set_option maxRecDepth 65536 in
set_option maxHeartbeats 40000000 in
theorem comes_1 {Post : Tables → Env → Array Value → State → Outcome → State → Prop} (hpost : ∀ tb e args s v u, (limb_1_1.after args s (.returned v) u = true ∧ limb_1_2.after args s (.returned v) u = true ∧ True) → ReturnedEndW s (.returned v) u (Jvm.fieldLocs frame_1_writes args s ++ Jvm.arrayLocs frame_1_arrays args s ++ Jvm.staticLocs frame_1_statics s) 24 1152 → Post tb e args s (.returned v) u) :
    ArmFor flags0 classFile x code maxLocals ret World_1 tables_1 room_1 Calls_1 rest_1 Pre_1 Post := by
  intro l hfl _ _ p e ha hc hk s m args below hf hA hF happ hP
  obtain ⟨hcalls, hrest, hpre⟩ := hP
  obtain ⟨-, -, -, hnamed, -, -, -, hat⟩ := (Spec.applies_iff hf).mp happ
  obtain ⟨hg, hn⟩ := and_e (Cond.before_iff.mp (show (Jvm.Cond.and given_1 narrow_1).before args s = true from hpre))
  obtain ⟨g1, g2⟩ := and_e hg
  obtain ⟨g3, g4⟩ := and_e g2
  obtain ⟨g5, g6⟩ := and_e g4
  obtain ⟨g7, g8⟩ := and_e g6
  obtain ⟨w0, w1, w2, w3, rfl⟩ : ∃ w0 w1 w2 w3 : Value, args = #[w0, w1, w2, w3] := by
    have hs : args.size = 4 := by simpa [Cond.value, given_1] using g1
    obtain ⟨L⟩ := args
    match L, hs with
    | [w0, w1, w2, w3], _ => exact ⟨w0, w1, w2, w3, rfl⟩
  have hw := fun d (hd : d ∈ tables_1) => atoms_spec (ws := Jvm.Cond.code x code maxLocals ret :: tables_1) hat d (List.mem_cons_of_mem _ hd)
  have hfit : Fit s := fun {y c} hc i hi => by
    obtain ⟨ha, rfl⟩ := Array.getElem?_eq_some_iff.mp hc
    have q := List.all_eq_true.mp ((Array.all_eq_true_iff_forall_mem.mp hF) _ (Array.getElem_mem ha)) i (List.mem_range.mpr hi)
    simpa [Array.getElem?_eq_getElem hi] using q
  obtain ⟨i0, ei0⟩ := is_v g3
  obtain rfl : w0 = (.int i0) := Option.some.inj ei0
  obtain ⟨i1, ei1⟩ := is_v g5
  obtain rfl : w1 = (.int i1) := Option.some.inj ei1
  obtain ⟨i2, ei2⟩ := is_v g7
  obtain rfl : w2 = (.int i2) := Option.some.inj ei2
  obtain ⟨i3, ei3⟩ := is_v g8
  obtain rfl : w3 = (.int i3) := Option.some.inj ei3
  obtain ⟨n, o, h1, h2, h3, _, L, rfl, ⟨rfl, N⟩, hq⟩ := rm0 l s _ hw tables_1 i0 i1 i2 i3 s.heap s.heap.size (Nat.le_refl _)  p e ha hc hk s m _ below hf ((Spec.applies_iff_loose hf).mp happ).1 ⟨rfl, State.Warmed39.refl s, rfl⟩ trivial
  refine ⟨n, _, h1, h2, h3, hpost _ _ _ _ _ _ ⟨Cond.after_iff.mpr rfl, Cond.after_iff.mpr (eq_i res_at (Term.int_eval (1)) rfl), trivial⟩ ⟨hq.1, hq.2.1, hq.2.2.1, (hq.2.2.2.sift fun y hy => Or.inr (N y hy)).mono (by decide) (by decide)⟩⟩
theorem main_1_1 : Claimed_1_1 := comes_1 fun _ _ _ _ _ _ h hF => ⟨h.1, hF⟩
theorem main_1_2 : Claimed_1_2 := comes_1 fun _ _ _ _ _ _ h hF => ⟨h.2.1, hF⟩
end Jvm.Pilot.@@N@@
namespace Jvm.Pilot.@@N@@
open Jvm Jvm.ClassFile Sem Op Lib Jvm.Free Jvm.Stand Jvm.Pilot.@@N@@.Jvm.D
/-! MADE BY PROGRAM (witnessworld.py) out of the Statement's table words and the real class files: 16 classes; the members and pool entries that the words name. The judged class is class 1, her method 1. -/
namespace start1
open Jvm.ClassFile
def u (s : String) : CpInfo := .utf8 (stringToUtf16 s)
/-- a pool by its gaps: so many unusable entries, then the entry; so many at the end -/
def gap : Nat → List CpInfo → List CpInfo
  | 0, r => r
  | n + 1, r => .unusable :: gap n r
def poolList (es : List (Nat × CpInfo)) (last : Nat) : List CpInfo := es.foldr (fun e r => gap e.1 (e.2 :: r)) (gap last [])
def pool (es : List (Nat × CpInfo)) (last : Nat) : Array CpInfo := ⟨poolList es last⟩
def fileOf (pool : Array CpInfo) (this : Nat) (attrs : Array Attribute := #[]) (ms : Array MethodInfo := #[]) (fl : Nat := 33) (sup : Nat := 0) (ifs : Array Nat := #[]) (fds : Array FieldInfo := #[]) : ClassFile where
  minorVersion := 0
  majorVersion := 65
  constantPool := pool
  accessFlags := fl
  thisClass := this
  superClass := sup
  interfaces := ifs
  fields := fds
  methods := ms
  attributes := attrs
def plain (name : String) (sup : Option ClassId) : Class where
  name := name
  kind := .ordinary
  loader := none
  accessFlags := 33
  super := sup
  interfaces := #[]
  cf := none
  fields := #[]
  methods := #[]
  instanceTypes := #[]
  staticTypes := #[]
  resolved := #[]
  callSites := []
  init := .initialized
  statics := none
  mirror := none

def pool0 : Array CpInfo := pool [(5, u "<init>"), (0, u "()V"), (1, .class_ 10), (1, u "java/lang/Object")] 113

def k0c0 : Code := { maxStack := 0, maxLocals := 1, code := object_method_1_code, exceptionTable := #[], attributes := #[] }
def k0m0 : Method := { name := "<init>", desc := "()V", sig := { parameters := [], returnType := none }, accessFlags := 1, code := some k0c0 }
/-- java/lang/Object -/
def k0 : Class := { plain "java/lang/Object" none with
  accessFlags := 33
  interfaces := #[]
  cf := some (fileOf pool0 8 #[] #[{ accessFlags := 1, nameIndex := 5, descriptorIndex := 6, attributes := #[] }] 33 0 #[] #[])
  fields := #[]
  methods := #[k0m0]
  instanceTypes := #[]
  staticTypes := #[]
  resolved := Array.replicate 124 none
  statics := none }

def pool1 : Array CpInfo := pool [(2, .class_ 4), (1, u "java/lang/Object"), (0, u "<init>"), (0, u "()V"), (0, .class_ 8), (0, u "com/example/halyard/halyard/base/XmlScan$StartTag"), (0, .string 10), (0, u ""), (0, .methodref 7 12), (0, .nameAndType 5 13), (0, u "(IIIILjava/lang/String;Ljava/lang/String;[ILjava/util/Map;)V"), (0, .class_ 15), (0, u "com/example/halyard/halyard/base/XmlSlice"), (0, .methodref 14 17), (0, .nameAndType 5 18), (0, u "([BLcom/example/halyard/halyard/base/XmlScan$StartTag;ILjava/util/List;[I)V"), (0, .methodref 14 20), (0, .nameAndType 21 22), (0, u "attributeStart"), (0, u "(I)I"), (0, .class_ 24), (0, u "com/example/halyard/halyard/base/XmlSliceAttributeStartPinLaw"), (2, u "law"), (0, u "(IIII)Z")] 9

def k1m0 : Method := { name := "<init>", desc := "()V", sig := { parameters := [], returnType := none }, accessFlags := 2, code := none }
def k1c1 : Code := { maxStack := 10, maxLocals := 7, code := code, exceptionTable := #[], attributes := #[] }
def k1m1 : Method := { name := "law", desc := "(IIII)Z", sig := { parameters := [.int, .int, .int, .int], returnType := some .boolean }, accessFlags := 9, code := some k1c1 }
/-- com/example/halyard/halyard/base/XmlSliceAttributeStartPinLaw -/
def k1 : Class := { plain "com/example/halyard/halyard/base/XmlSliceAttributeStartPinLaw" (some 0) with
  accessFlags := 49
  interfaces := #[]
  cf := some (fileOf pool1 23 #[] #[{ accessFlags := 2, nameIndex := 5, descriptorIndex := 6, attributes := #[] }, { accessFlags := 9, nameIndex := 27, descriptorIndex := 28, attributes := #[] }] 49 2 #[] #[])
  fields := #[]
  methods := #[k1m0, k1m1]
  instanceTypes := #[]
  staticTypes := #[]
  resolved := Array.replicate 38 none
  statics := none }

def pool2 : Array CpInfo := pool [(1, .methodref 2 3), (0, .class_ 4), (0, .nameAndType 5 6), (0, u "java/lang/Object"), (0, u "<init>"), (0, u "()V"), (0, .class_ 8), (0, u "java/lang/Record")] 13

def k2c0 : Code := { maxStack := 1, maxLocals := 1, code := jdk_30_method_1_code, exceptionTable := #[], attributes := #[] }
def k2m0 : Method := { name := "<init>", desc := "()V", sig := { parameters := [], returnType := none }, accessFlags := 4, code := some k2c0 }
/-- java/lang/Record -/
def k2 : Class := { plain "java/lang/Record" (some 0) with
  accessFlags := 1057
  interfaces := #[]
  cf := some (fileOf pool2 7 #[] #[{ accessFlags := 4, nameIndex := 5, descriptorIndex := 6, attributes := #[] }] 1057 2 #[] #[])
  fields := #[]
  methods := #[k2m0]
  instanceTypes := #[]
  staticTypes := #[]
  resolved := Array.replicate 22 none
  statics := none }

def pool3 : Array CpInfo := pool [(1, .methodref 2 3), (0, .class_ 4), (0, .nameAndType 5 6), (0, u "java/lang/Record"), (0, u "<init>"), (0, u "()V"), (0, .fieldref 8 9), (0, .class_ 10), (0, .nameAndType 11 12), (0, u "com/example/halyard/halyard/base/XmlScan$StartTag"), (0, u "depth"), (0, u "I"), (0, .fieldref 8 14), (0, .nameAndType 15 12), (0, u "start"), (0, .fieldref 8 17), (0, .nameAndType 18 12), (0, u "nameEnd"), (0, .fieldref 8 20), (0, .nameAndType 21 12), (0, u "end"), (0, .fieldref 8 23), (0, .nameAndType 24 25), (0, u "namespace"), (0, u "Ljava/lang/String;"), (0, .fieldref 8 27), (0, .nameAndType 28 25), (0, u "localName"), (0, .fieldref 8 30), (0, .nameAndType 31 32), (0, u "attributes"), (0, u "[I"), (0, .fieldref 8 34), (0, .nameAndType 35 36), (0, u "scope"), (0, u "Ljava/util/Map;"), (14, u "(IIIILjava/lang/String;Ljava/lang/String;[ILjava/util/Map;)V"), (7, u "()[I"), (5, .class_ 66), (0, u "com/example/halyard/halyard/base/XmlScan")] 26

def k3c0 : Code := { maxStack := 2, maxLocals := 9, code := prog_23_method_1_code, exceptionTable := #[], attributes := #[] }
def k3m0 : Method := { name := "<init>", desc := "(IIIILjava/lang/String;Ljava/lang/String;[ILjava/util/Map;)V", sig := { parameters := [.int, .int, .int, .int, (.object "java/lang/String"), (.object "java/lang/String"), (.array .int), (.object "java/util/Map")], returnType := none }, accessFlags := 0, code := some k3c0 }
def k3c1 : Code := { maxStack := 1, maxLocals := 1, code := prog_23_method_11_code, exceptionTable := #[], attributes := #[] }
def k3m1 : Method := { name := "attributes", desc := "()[I", sig := { parameters := [], returnType := some (.array .int) }, accessFlags := 1, code := some k3c1 }
/-- com/example/halyard/halyard/base/XmlScan$StartTag -/
def k3 : Class := { plain "com/example/halyard/halyard/base/XmlScan$StartTag" (some 2) with
  accessFlags := 48
  interfaces := #[]
  cf := some (fileOf pool3 8 #[.nestHost 65] #[{ accessFlags := 0, nameIndex := 5, descriptorIndex := 51, attributes := #[] }, { accessFlags := 1, nameIndex := 31, descriptorIndex := 59, attributes := #[] }] 48 2 #[] #[{ accessFlags := 18, nameIndex := 11, descriptorIndex := 12, attributes := #[] }, { accessFlags := 18, nameIndex := 15, descriptorIndex := 12, attributes := #[] }, { accessFlags := 18, nameIndex := 18, descriptorIndex := 12, attributes := #[] }, { accessFlags := 18, nameIndex := 21, descriptorIndex := 12, attributes := #[] }, { accessFlags := 18, nameIndex := 24, descriptorIndex := 25, attributes := #[] }, { accessFlags := 18, nameIndex := 28, descriptorIndex := 25, attributes := #[] }, { accessFlags := 18, nameIndex := 31, descriptorIndex := 32, attributes := #[] }, { accessFlags := 18, nameIndex := 35, descriptorIndex := 36, attributes := #[] }])
  fields := #[{ name := "depth", type := .int, accessFlags := 18, slot := 0, constantValue := 0 }, { name := "start", type := .int, accessFlags := 18, slot := 1, constantValue := 0 }, { name := "nameEnd", type := .int, accessFlags := 18, slot := 2, constantValue := 0 }, { name := "end", type := .int, accessFlags := 18, slot := 3, constantValue := 0 }, { name := "namespace", type := (.object "java/lang/String"), accessFlags := 18, slot := 4, constantValue := 0 }, { name := "localName", type := (.object "java/lang/String"), accessFlags := 18, slot := 5, constantValue := 0 }, { name := "attributes", type := (.array .int), accessFlags := 18, slot := 6, constantValue := 0 }, { name := "scope", type := (.object "java/util/Map"), accessFlags := 18, slot := 7, constantValue := 0 }]
  methods := #[k3m0, k3m1]
  instanceTypes := #[.int, .int, .int, .int, (.object "java/lang/String"), (.object "java/lang/String"), (.array .int), (.object "java/util/Map")]
  staticTypes := #[]
  resolved := Array.replicate 93 none
  statics := none }

def pool4 : Array CpInfo := pool [(1, .class_ 2), (0, u "java/io/Serializable"), (0, .class_ 4), (0, u "java/lang/Object")] 2

/-- java/io/Serializable -/
def k4 : Class := { plain "java/io/Serializable" (some 0) with
  accessFlags := 1537
  interfaces := #[]
  cf := some (fileOf pool4 1 #[] #[] 1537 3 #[] #[])
  fields := #[]
  methods := #[]
  instanceTypes := #[]
  staticTypes := #[]
  resolved := Array.replicate 7 none
  statics := none }

def pool5 : Array CpInfo := pool [(1, .class_ 2), (0, u "java/lang/Comparable"), (0, .class_ 4), (0, u "java/lang/Object")] 7

/-- java/lang/Comparable -/
def k5 : Class := { plain "java/lang/Comparable" (some 0) with
  accessFlags := 1537
  interfaces := #[]
  cf := some (fileOf pool5 1 #[] #[] 1537 3 #[] #[])
  fields := #[]
  methods := #[]
  instanceTypes := #[]
  staticTypes := #[]
  resolved := Array.replicate 12 none
  statics := none }

def pool6 : Array CpInfo := pool [(2, .class_ 4), (1, u "java/lang/CharSequence"), (42, .class_ 48), (0, u "java/lang/CharSequence$1CodePointIterator"), (10, .class_ 60), (0, u "java/lang/CharSequence$1CharIterator"), (5, .class_ 67), (0, u "java/lang/Object")] 63

/-- java/lang/CharSequence -/
def k6 : Class := { plain "java/lang/CharSequence" (some 0) with
  accessFlags := 1537
  interfaces := #[]
  cf := some (fileOf pool6 2 #[.nestMembers #[47, 59]] #[] 1537 66 #[] #[])
  fields := #[]
  methods := #[]
  instanceTypes := #[]
  staticTypes := #[]
  resolved := Array.replicate 131 none
  statics := none }

def pool7 : Array CpInfo := pool [(1, .class_ 2), (0, u "java/lang/constant/Constable"), (0, .class_ 4), (0, u "java/lang/Object")] 6

/-- java/lang/constant/Constable -/
def k7 : Class := { plain "java/lang/constant/Constable" (some 0) with
  accessFlags := 1537
  interfaces := #[]
  cf := some (fileOf pool7 1 #[] #[] 1537 3 #[] #[])
  fields := #[]
  methods := #[]
  instanceTypes := #[]
  staticTypes := #[]
  resolved := Array.replicate 11 none
  statics := none }

def pool8 : Array CpInfo := pool [(1, .class_ 2), (0, u "java/lang/constant/ConstantDesc"), (0, .class_ 4), (0, u "java/lang/Object")] 32

/-- java/lang/constant/ConstantDesc -/
def k8 : Class := { plain "java/lang/constant/ConstantDesc" (some 0) with
  accessFlags := 1537
  interfaces := #[]
  cf := some (fileOf pool8 1 #[] #[] 1537 3 #[] #[])
  fields := #[]
  methods := #[]
  instanceTypes := #[]
  staticTypes := #[]
  resolved := Array.replicate 37 none
  statics := none }

def pool9 : Array CpInfo := pool [(2, .class_ 4), (1, u "java/lang/Object"), (0, u "<init>"), (0, u "()V"), (3, .class_ 12), (1, u "java/lang/String"), (0, u "value"), (0, u "[B"), (2, u "coder"), (0, u "B"), (2, u "hash"), (0, u "I"), (2, u "hashIsZero"), (0, u "Z"), (13, u "COMPACT_STRINGS"), (534, .class_ 576), (0, u "java/lang/CharSequence"), (22, u "CASE_INSENSITIVE_ORDER"), (0, u "Ljava/util/Comparator;"), (500, u "serialPersistentFields"), (0, u "[Ljava/io/ObjectStreamField;"), (0, .class_ 1104), (0, u "java/lang/String$CaseInsensitiveComparator"), (1, .class_ 1107), (0, u "java/io/Serializable"), (0, .class_ 1109), (0, u "java/lang/Comparable"), (0, .class_ 1111), (0, u "java/lang/constant/Constable"), (0, .class_ 1113), (0, u "java/lang/constant/ConstantDesc"), (2, u "serialVersionUID"), (0, u "J"), (3, u "REPL"), (0, u "C"), (2, u "LATIN1"), (1, u "UTF16")] 323

def k9m0 : Method := { name := "<init>", desc := "()V", sig := { parameters := [], returnType := none }, accessFlags := 1, code := none }
/-- java/lang/String -/
def k9 : Class := { plain "java/lang/String" (some 0) with
  accessFlags := 49
  interfaces := #[4, 5, 6, 7, 8]
  cf := some (fileOf pool9 10 #[.nestMembers #[1103]] #[{ accessFlags := 1, nameIndex := 5, descriptorIndex := 6, attributes := #[] }] 49 2 #[1106, 1108, 575, 1110, 1112] #[{ accessFlags := 18, nameIndex := 13, descriptorIndex := 14, attributes := #[] }, { accessFlags := 18, nameIndex := 17, descriptorIndex := 18, attributes := #[] }, { accessFlags := 2, nameIndex := 21, descriptorIndex := 22, attributes := #[] }, { accessFlags := 2, nameIndex := 25, descriptorIndex := 26, attributes := #[] }, { accessFlags := 26, nameIndex := 1116, descriptorIndex := 1117, attributes := #[] }, { accessFlags := 24, nameIndex := 40, descriptorIndex := 26, attributes := #[] }, { accessFlags := 26, nameIndex := 1101, descriptorIndex := 1102, attributes := #[] }, { accessFlags := 26, nameIndex := 1121, descriptorIndex := 1122, attributes := #[] }, { accessFlags := 25, nameIndex := 599, descriptorIndex := 600, attributes := #[] }, { accessFlags := 24, nameIndex := 1125, descriptorIndex := 18, attributes := #[] }, { accessFlags := 24, nameIndex := 1127, descriptorIndex := 18, attributes := #[] }])
  fields := #[{ name := "value", type := (.array .byte), accessFlags := 18, slot := 0, constantValue := 0 }, { name := "coder", type := .byte, accessFlags := 18, slot := 1, constantValue := 0 }, { name := "hash", type := .int, accessFlags := 2, slot := 2, constantValue := 0 }, { name := "hashIsZero", type := .boolean, accessFlags := 2, slot := 3, constantValue := 0 }, { name := "serialVersionUID", type := .long, accessFlags := 26, slot := 0, constantValue := 0 }, { name := "COMPACT_STRINGS", type := .boolean, accessFlags := 24, slot := 1, constantValue := 0 }, { name := "serialPersistentFields", type := (.array (.object "java/io/ObjectStreamField")), accessFlags := 26, slot := 2, constantValue := 0 }, { name := "REPL", type := .char, accessFlags := 26, slot := 3, constantValue := 0 }, { name := "CASE_INSENSITIVE_ORDER", type := (.object "java/util/Comparator"), accessFlags := 25, slot := 4, constantValue := 0 }, { name := "LATIN1", type := .byte, accessFlags := 24, slot := 5, constantValue := 0 }, { name := "UTF16", type := .byte, accessFlags := 24, slot := 6, constantValue := 0 }]
  methods := #[k9m0]
  instanceTypes := #[(.array .byte), .byte, .int, .boolean]
  staticTypes := #[.long, .boolean, (.array (.object "java/io/ObjectStreamField")), .char, (.object "java/util/Comparator"), .byte, .byte]
  resolved := Array.replicate 1451 none
  statics := none }

def pool10 : Array CpInfo := pool [(1, .methodref 2 3), (0, .class_ 4), (0, .nameAndType 5 6), (0, u "java/lang/Object"), (0, u "<init>"), (0, u "()V"), (0, .fieldref 8 9), (0, .class_ 10), (0, .nameAndType 11 12), (0, u "com/example/halyard/halyard/base/XmlSlice"), (0, u "document"), (0, u "[B"), (0, .fieldref 8 14), (0, .nameAndType 15 16), (0, u "tag"), (0, u "Lcom/example/halyard/halyard/base/XmlScan$StartTag;"), (0, .fieldref 8 18), (0, .nameAndType 19 20), (0, u "end"), (0, u "I"), (0, .fieldref 8 22), (0, .nameAndType 23 24), (0, u "children"), (0, u "Ljava/util/List;"), (0, .fieldref 8 26), (0, .nameAndType 27 28), (0, u "held"), (0, u "[I"), (0, .class_ 30), (0, u "com/example/halyard/halyard/base/XmlSlice$Reader"), (10, .class_ 43), (1, u "com/example/halyard/halyard/base/XmlScan$StartTag"), (24, u "(I)I"), (78, .methodref 41 148), (0, .nameAndType 149 150), (0, u "attributes"), (0, u "()[I"), (2, u "attributeStart"), (42, u "([BLcom/example/halyard/halyard/base/XmlScan$StartTag;ILjava/util/List;[I)V"), (35, .class_ 233), (0, u "com/example/halyard/halyard/base/XmlSlice$Finder")] 32

def k10c0 : Code := { maxStack := 2, maxLocals := 6, code := prog_24_method_1_code, exceptionTable := #[], attributes := #[] }
def k10m0 : Method := { name := "<init>", desc := "([BLcom/example/halyard/halyard/base/XmlScan$StartTag;ILjava/util/List;[I)V", sig := { parameters := [(.array .byte), (.object "com/example/halyard/halyard/base/XmlScan$StartTag"), .int, (.object "java/util/List"), (.array .int)], returnType := none }, accessFlags := 0, code := some k10c0 }
def k10c1 : Code := { maxStack := 3, maxLocals := 2, code := prog_24_method_19_code, exceptionTable := #[], attributes := #[] }
def k10m1 : Method := { name := "attributeStart", desc := "(I)I", sig := { parameters := [.int], returnType := some .int }, accessFlags := 0, code := some k10c1 }
/-- com/example/halyard/halyard/base/XmlSlice -/
def k10 : Class := { plain "com/example/halyard/halyard/base/XmlSlice" (some 0) with
  accessFlags := 49
  interfaces := #[]
  cf := some (fileOf pool10 8 #[.nestMembers #[29, 232]] #[{ accessFlags := 0, nameIndex := 5, descriptorIndex := 196, attributes := #[] }, { accessFlags := 0, nameIndex := 153, descriptorIndex := 68, attributes := #[] }] 49 2 #[] #[{ accessFlags := 18, nameIndex := 11, descriptorIndex := 12, attributes := #[] }, { accessFlags := 18, nameIndex := 15, descriptorIndex := 16, attributes := #[] }, { accessFlags := 18, nameIndex := 19, descriptorIndex := 20, attributes := #[] }, { accessFlags := 18, nameIndex := 23, descriptorIndex := 24, attributes := #[] }, { accessFlags := 18, nameIndex := 27, descriptorIndex := 28, attributes := #[] }])
  fields := #[{ name := "document", type := (.array .byte), accessFlags := 18, slot := 0, constantValue := 0 }, { name := "tag", type := (.object "com/example/halyard/halyard/base/XmlScan$StartTag"), accessFlags := 18, slot := 1, constantValue := 0 }, { name := "end", type := .int, accessFlags := 18, slot := 2, constantValue := 0 }, { name := "children", type := (.object "java/util/List"), accessFlags := 18, slot := 3, constantValue := 0 }, { name := "held", type := (.array .int), accessFlags := 18, slot := 4, constantValue := 0 }]
  methods := #[k10m0, k10m1]
  instanceTypes := #[(.array .byte), (.object "com/example/halyard/halyard/base/XmlScan$StartTag"), .int, (.object "java/util/List"), (.array .int)]
  staticTypes := #[]
  resolved := Array.replicate 266 none
  statics := none }

def pool11 : Array CpInfo := pool [(1, u "java/lang/Cloneable"), (0, .class_ 1), (0, u "java/lang/Object"), (0, .class_ 3)] 3

/-- java/lang/Cloneable -/
def k11 : Class := { plain "java/lang/Cloneable" (some 0) with
  accessFlags := 1537
  interfaces := #[]
  cf := some (fileOf pool11 2 #[] #[] 1537 4 #[] #[])
  fields := #[]
  methods := #[]
  instanceTypes := #[]
  staticTypes := #[]
  resolved := Array.replicate 8 none
  statics := none }

/-- the primitive byte -/
def k12 : Class := { plain "byte" none with kind := .primitive 'B', accessFlags := 0x411 }
/-- [B -/
def k13 : Class := { plain "[B" (some 0) with kind := .array 12 .byte, interfaces := #[11, 4], accessFlags := 1041 }

/-- the primitive int -/
def k14 : Class := { plain "int" none with kind := .primitive 'I', accessFlags := 0x411 }
/-- [I -/
def k15 : Class := { plain "[I" (some 0) with kind := .array 14 .int, interfaces := #[11, 4], accessFlags := 1041 }

def heap : Heap := #[]
def classes : Array Class := #[k0, k1, k2, k3, k4, k5, k6, k7, k8, k9, k10, k11, k12, k13, k14, k15]
def interned : List (Array UInt16 × Addr) := []
def slotsUsed : Nat := 0
def theMethod : MethodId := ⟨1, 1⟩
def args0 : Array Value := #[.int 5, .int 5, .int 5, .int 5]
def aboutOver (below : List Frame) : State where
  vm := { classes := classes, interned := interned.toArray }
  heap := heap
  slotsUsed := slotsUsed
  threads := #[{ frames := .invoking theMethod args0 :: below }]
def below0 : List Frame := [.native { method := ⟨0, 0⟩, args := #[] }]
def about1 : State := aboutOver below0
def p0 : Program := .bare "" "" ""
def e0 : Env := launch0.env 0 0 0
theorem w_frames : about1.frames = Frame.invoking theMethod args0 :: below0 := rfl
set_option maxRecDepth 65536 in
theorem w_args : argsFit about1.vm theMethod args0 = true := by decide +kernel
set_option maxRecDepth 65536 in
theorem w_heap : heapFits about1 = true := by decide +kernel
set_option maxRecDepth 65536 in
theorem w_runnable : about1.curStatus? = some .runnable := by decide +kernel
set_option maxRecDepth 65536 in
theorem w_alone : about1.alone = true := by decide +kernel
set_option maxRecDepth 65536 in
theorem w_named : about1.methodNamed? x = some theMethod := by decide +kernel
set_option maxRecDepth 65536 in
theorem w_hears : about1.hears theMethod below0 = true := by decide +kernel
set_option maxRecDepth 65536 in
theorem w_ripe : about1.ripe theMethod args0 below0 = true := by decide +kernel
theorem w_running : about1.status = .running := rfl
set_option maxRecDepth 65536 in
theorem w_room : about1.hasRoom e0.platform room_1 = true :=
  launch0.hasRoom_least _ room_1 (by decide +kernel) (by decide +kernel) (by decide +kernel) (by decide +kernel) (by decide +kernel) (by decide +kernel)
theorem allAtoms_all (ts : List Jvm.Cond) (a : Array Jvm.Value) (st : Jvm.State) : (allAtoms ts).before a st = ts.all (fun c => c.before a st) := by
  induction ts with
  | nil => rfl
  | cons c t ih =>
    show (Jvm.Cond.and c (allAtoms t)).before a st = _
    rw [Jvm.Cond.before_and, ih, List.all_cons]
def words1 : List Jvm.Cond := Jvm.Cond.code x code maxLocals ret :: tables_1
/-- a 'code' word, met by the world's own term for the bytes: nothing is compared byte by byte -/
theorem code_word {y : MethodName} {bytes : ByteArray} {mx : Nat} {rt : Option FieldType} {a : Array Value} {s : State} {m : MethodId} {meth : Method} {c : Code} (h1 : s.methodNamed? y = some m) (h2 : s.vm.method? m = some meth) (h3 : meth.code = some c) (h4 : c.code = bytes)
    (h5 : (c.maxLocals == mx && c.exceptionTable.isEmpty && decide (c.maxStack ≤ mostOperands) && decide (meth.sig.returnType = rt) && !meth.locks && decide (parseMethodDescriptor y.desc = some meth.sig)) = true) : (Jvm.Cond.code y bytes mx rt).before a s = true := by
  simp only [Bool.and_eq_true, beq_iff_eq, Bool.not_eq_true', decide_eq_true_eq] at h5
  obtain ⟨⟨⟨⟨⟨g1, g2⟩, g3⟩, g4⟩, g5⟩, g6⟩ := h5
  simp [Cond.before, Cond.holds, Cond.value, h1, h2, h3, h4, g1, g2, g3, g4, g5, g6]
def isCode : Jvm.Cond → Bool
  | .code _ _ _ _ => true
  | _ => false
theorem all_split {L : List Jvm.Cond} {P : Jvm.Cond → Bool} (h1 : L.all (fun c => isCode c || P c) = true) (h2 : ∀ c ∈ L.filter isCode, P c = true) : L.all P = true := by
  refine List.all_eq_true.mpr fun c hc => ?_
  have h := List.all_eq_true.mp h1 c hc
  rcases Bool.eq_false_or_eq_true (isCode c) with hi | hi
  · exact h2 c (List.mem_filter.mpr ⟨hc, hi⟩)
  · simpa [hi] using h
set_option maxRecDepth 65536 in
theorem w_c0 : (Jvm.Cond.code x code maxLocals ret).before args0 about1 = true := code_word (m := ⟨1, 1⟩) (meth := k1m1) (c := k1c1) (by decide +kernel) rfl rfl rfl (by decide +kernel)
set_option maxRecDepth 65536 in
theorem w_c1 : (Jvm.Cond.code ({ cls := "com/example/halyard/halyard/base/XmlScan$StartTag", name := "<init>", desc := "(IIIILjava/lang/String;Ljava/lang/String;[ILjava/util/Map;)V" } : Jvm.MethodName) prog_23_method_1_code (9 : Nat) (Option.none : Option Jvm.ClassFile.FieldType)).before args0 about1 = true := code_word (m := ⟨3, 0⟩) (meth := k3m0) (c := k3c0) (by decide +kernel) rfl rfl rfl (by decide +kernel)
set_option maxRecDepth 65536 in
theorem w_c2 : (Jvm.Cond.code ({ cls := "java/lang/Record", name := "<init>", desc := "()V" } : Jvm.MethodName) jdk_30_method_1_code (1 : Nat) (Option.none : Option Jvm.ClassFile.FieldType)).before args0 about1 = true := code_word (m := ⟨2, 0⟩) (meth := k2m0) (c := k2c0) (by decide +kernel) rfl rfl rfl (by decide +kernel)
set_option maxRecDepth 65536 in
theorem w_c3 : (Jvm.Cond.code ({ cls := "java/lang/Object", name := "<init>", desc := "()V" } : Jvm.MethodName) object_method_1_code (1 : Nat) (Option.none : Option Jvm.ClassFile.FieldType)).before args0 about1 = true := code_word (m := ⟨0, 0⟩) (meth := k0m0) (c := k0c0) (by decide +kernel) rfl rfl rfl (by decide +kernel)
set_option maxRecDepth 65536 in
theorem w_c4 : (Jvm.Cond.code ({ cls := "com/example/halyard/halyard/base/XmlSlice", name := "<init>", desc := "([BLcom/example/halyard/halyard/base/XmlScan$StartTag;ILjava/util/List;[I)V" } : Jvm.MethodName) prog_24_method_1_code (6 : Nat) (Option.none : Option Jvm.ClassFile.FieldType)).before args0 about1 = true := code_word (m := ⟨10, 0⟩) (meth := k10m0) (c := k10c0) (by decide +kernel) rfl rfl rfl (by decide +kernel)
set_option maxRecDepth 65536 in
theorem w_c5 : (Jvm.Cond.code ({ cls := "com/example/halyard/halyard/base/XmlSlice", name := "attributeStart", desc := "(I)I" } : Jvm.MethodName) prog_24_method_19_code (2 : Nat) (Option.some Jvm.ClassFile.FieldType.int)).before args0 about1 = true := code_word (m := ⟨10, 1⟩) (meth := k10m1) (c := k10c1) (by decide +kernel) rfl rfl rfl (by decide +kernel)
set_option maxRecDepth 65536 in
theorem w_c6 : (Jvm.Cond.code ({ cls := "com/example/halyard/halyard/base/XmlScan$StartTag", name := "attributes", desc := "()[I" } : Jvm.MethodName) prog_23_method_11_code (1 : Nat) (Option.some (Jvm.ClassFile.FieldType.array Jvm.ClassFile.FieldType.int))).before args0 about1 = true := code_word (m := ⟨3, 1⟩) (meth := k3m1) (c := k3c1) (by decide +kernel) rfl rfl rfl (by decide +kernel)
def codes1 : List Jvm.Cond := [Jvm.Cond.code x code maxLocals ret, Jvm.Cond.code ({ cls := "com/example/halyard/halyard/base/XmlScan$StartTag", name := "<init>", desc := "(IIIILjava/lang/String;Ljava/lang/String;[ILjava/util/Map;)V" } : Jvm.MethodName) prog_23_method_1_code (9 : Nat) (Option.none : Option Jvm.ClassFile.FieldType), Jvm.Cond.code ({ cls := "java/lang/Record", name := "<init>", desc := "()V" } : Jvm.MethodName) jdk_30_method_1_code (1 : Nat) (Option.none : Option Jvm.ClassFile.FieldType), Jvm.Cond.code ({ cls := "java/lang/Object", name := "<init>", desc := "()V" } : Jvm.MethodName) object_method_1_code (1 : Nat) (Option.none : Option Jvm.ClassFile.FieldType), Jvm.Cond.code ({ cls := "com/example/halyard/halyard/base/XmlSlice", name := "<init>", desc := "([BLcom/example/halyard/halyard/base/XmlScan$StartTag;ILjava/util/List;[I)V" } : Jvm.MethodName) prog_24_method_1_code (6 : Nat) (Option.none : Option Jvm.ClassFile.FieldType), Jvm.Cond.code ({ cls := "com/example/halyard/halyard/base/XmlSlice", name := "attributeStart", desc := "(I)I" } : Jvm.MethodName) prog_24_method_19_code (2 : Nat) (Option.some Jvm.ClassFile.FieldType.int), Jvm.Cond.code ({ cls := "com/example/halyard/halyard/base/XmlScan$StartTag", name := "attributes", desc := "()[I" } : Jvm.MethodName) prog_23_method_11_code (1 : Nat) (Option.some (Jvm.ClassFile.FieldType.array Jvm.ClassFile.FieldType.int))]
set_option maxRecDepth 65536 in
theorem codes_eq : words1.filter isCode = codes1 := rfl
theorem w_codes : ∀ c ∈ words1.filter isCode, c.before args0 about1 = true := by
  rw [codes_eq]
  intro c hc
  simp only [codes1, List.mem_cons, List.not_mem_nil, or_false] at hc
  rcases hc with rfl | rfl | rfl | rfl | rfl | rfl | rfl
  · exact w_c0
  · exact w_c1
  · exact w_c2
  · exact w_c3
  · exact w_c4
  · exact w_c5
  · exact w_c6
set_option maxRecDepth 65536 in
theorem w_t1 : (words1.take 24).all (fun c => isCode c || c.before args0 about1) = true := by decide +kernel
set_option maxRecDepth 65536 in
theorem w_t2 : ((words1.drop 24).take 24).all (fun c => isCode c || c.before args0 about1) = true := by decide +kernel
set_option maxRecDepth 65536 in
theorem w_t3 : ((words1.drop 24).drop 24).all (fun c => isCode c || c.before args0 about1) = true := by decide +kernel
theorem w_tables : (allAtoms (Jvm.Cond.code x code maxLocals ret :: tables_1)).before args0 about1 = true := by
  rw [allAtoms_all]
  show words1.all (fun c => c.before args0 about1) = true
  refine all_split ?_ w_codes
  rw [← List.take_append_drop 24 words1, List.all_append, w_t1, ← List.take_append_drop 24 (words1.drop 24), List.all_append, w_t2, w_t3]
  rfl
set_option maxRecDepth 65536 in
theorem w_case : (Jvm.Cond.and given_1 narrow_1).before args0 about1 = true := by decide +kernel
theorem w_applies : (headSpec (Jvm.Cond.code x code maxLocals ret :: tables_1) room_1).applies x e0.platform about1 = true :=
  (Spec.applies_iff w_frames).mpr ⟨w_running, w_runnable, w_alone, w_named, w_hears, w_ripe, w_room, w_tables⟩
theorem atStart : AtStart classFile x code maxLocals ret World_1 tables_1 room_1 Calls_1 rest_1 Pre_1 launch0 p0 e0 about1 theMethod args0 below0 :=
  ⟨lists_1, trivial, launch0.admits_env _ _ _, launch0.least_env, fairChoices_fair.cas, fairChoices_fair.clock, w_frames, w_args, w_heap, w_applies, trivial, trivial, w_case⟩
end start1
theorem witness_1 : WitnessClaimed_1 := ⟨start1.p0, start1.e0, start1.about1, start1.theMethod, start1.args0, start1.below0, start1.atStart⟩
end Jvm.Pilot.@@N@@
