import JvmDerived
import JvmDerived.Pilot.@@N@@Statement
import JvmDerived.Pilot.@@N@@Code
set_option linter.unusedVariables false
set_option linter.unusedSimpArgs false
namespace Jvm.Pilot.@@N@@
open Jvm Jvm.ClassFile Sem Op Lib Jvm.Free Jvm.Stand Jvm.LawKit Jvm.RoadKit Bundle Jvm.Pilot.@@N@@.Jvm.D
section OwnKit
variable {p : Program} {l : Launch} {e : Env} {R : Room} {s : State} {m : MethodId} {args : Array Value} {below : List Frame} {meth : Method} {c : Code} {T : State} {locs : List Loc} {cells slots : Nat} {Q : Option Value → Heap → List Loc → Prop} {F : Option Value → State → Prop} {KC KS : Nat} {bs : ByteArray} {pc pc' : Nat} {Ls l' : Array Slot} {st : List Value}
/-- from U the run comes to its end: it returns v, and F says what it leaves -/
def own_End (p : Program) (e : Env) (below : List Frame) (F : Option Value → State → Prop) (U : State) : Prop :=
  ∃ s₂ v, Steps p.tables e below U s₂ ∧ s₂.status = .running ∧ Ended s₂ below (.returned v) ∧ F v s₂
def own_F (s : State) (Q : Option Value → Heap → List Loc → Prop) (KC KS : Nat) : Option Value → State → Prop := fun v s₂ => ∃ L, Q v s₂.heap L ∧ FrameEnd s (.returned v) s₂ L KC KS
def own_FS (s : State) (Q : Option Value → Heap → List Loc → Prop) (KC KS : Nat) : Option Value → State → Prop := fun v s₂ => ∃ L, Q v s₂.heap L ∧ ReturnedEndW s (.returned v) s₂ L KC KS
theorem own_body {U : State} (h : own_End p e below (own_F s Q KC KS) U) : ∃ s₂ o, Steps p.tables e below U s₂ ∧ s₂.status = .running ∧ Ended s₂ below o ∧ ∃ v L, o = .returned v ∧ Q v s₂.heap L ∧ FrameEnd s o s₂ L KC KS := by
  obtain ⟨s2, v, h1, h2, h3, L, h4, h5⟩ := h
  exact ⟨s2, _, h1, h2, h3, v, L, rfl, h4, h5⟩
theorem own_bodyS {U : State} (h : own_End p e below (own_FS s Q KC KS) U) : ∃ s₂ o, Steps p.tables e below U s₂ ∧ s₂.status = .running ∧ Ended s₂ below o ∧ ∃ v L, o = .returned v ∧ Q v s₂.heap L ∧ ReturnedEndW s o s₂ L KC KS := by
  obtain ⟨s2, v, h1, h2, h3, L, h4, h5⟩ := h
  exact ⟨s2, _, h1, h2, h3, v, L, rfl, h4, h5⟩
theorem own_step {U U' : State} (k : ∀ t, Steps p.tables e below U' t → Steps p.tables e below U t) (h : own_End p e below F U') : own_End p e below F U := by
  obtain ⟨s2, v, h1, h2⟩ := h
  exact ⟨s2, v, k _ h1, h2⟩
theorem own_trans {U U' : State} (k : Steps p.tables e below U U') (h : own_End p e below F U') : own_End p e below F U := by
  obtain ⟨s2, v, h1, h2⟩ := h
  exact ⟨s2, v, k.trans h1, h2⟩
theorem own_mono {cells' slots' : Nat} (X : Stand p l e R s m args below meth c T locs cells slots) (hc : cells ≤ cells') (hs : slots ≤ slots') : Stand p l e R s m args below meth c T locs cells' slots' := X.mono hc hs
theorem own_selPriv {y : MethodName} {n : Nat} (wi : (Cond.instantiable y.cls n).before args s = true) (hp : s.PrivateAt y) (hi : (Cond.instanceMethod y).before args s = true) (hy : y.cls ≠ "java/lang/invoke/MethodHandle" ∧ y.cls ≠ "java/lang/invoke/VarHandle") : (Cond.selects y.cls y y).before args s = true := by
  obtain ⟨c, k, h1, h2, -, h4, -⟩ := Cond.instantiable_spec wi
  exact selects_self_of_private h1 h2 (by simp only [Bool.or_eq_false_iff] at h4; exact h4.1) hp hi hy
theorem own_sta0 {Z : State} {h h' : Heap} {C n d : String} {v : Value} (S : Sta Z h C n d v) (K : Keep h h' []) : Sta Z h' C n d v := by
  obtain ⟨cf, i, k, f, st, cell, h1, h2, h3, h4, h5, h6, h7⟩ := S
  exact ⟨cf, i, k, f, st, cell, h1, h2, h3, h4, K.2.1 _ _ h5 nin0, h6, h7⟩
theorem own_sta1 {Z : State} {h h' : Heap} {C n d D : String} {v : Value} {a : Addr} (S : Sta Z h C n d v) (K : Keep h h' [a]) (E : Exa Z h a D) : Sta Z h' C n d v := by
  obtain ⟨cf, i, k, f, st, cell, h1, h2, h3, h4, h5, h6, h7⟩ := S
  obtain ⟨c', k', g1, -, -, g4, -⟩ := E
  have ne : st ≠ a := fun q => by subst q; cases h5.symm.trans g1; rw [g4] at h6; cases h6
  exact ⟨cf, i, k, f, st, cell, h1, h2, h3, h4, K.2.1 _ _ h5 (ninS ne nin0), h6, h7⟩
theorem own_cat1 {w : Value} (h : w.isRef = true) : w.category = 1 := by rcases ref_cases h with rfl | ⟨z, rfl⟩ <;> rfl
theorem own_nar {w : Value} {t : FieldType} (h : w.isRef = true) (ht : t.isReference = true) : narrow t w = w := by rcases ref_cases h with rfl | ⟨z, rfl⟩ <;> cases t <;> first | rfl | cases ht
theorem own_fit {w : Value} {t : FieldType} (h : w.isRef = true) (ht : t.isReference = true) : fits t w = true := by rcases ref_cases h with rfl | ⟨z, rfl⟩ <;> cases t <;> first | rfl | cases ht
/-- what the frame says where the run leaves -/
def own_Lv (F : Option Value → State → Prop) (s T : State) (locs : List Loc) (cells slots : Nat) (v : Option Value) : Prop := ∀ fs, s.WarmedH (T.setFrames fs).vm → s.sameButNew ({ T.setFrames fs with vm := s.vm } : State) locs cells slots → F v (T.setFrames fs)
theorem own_lv {v : Option Value} (hQ : Q v T.heap locs) (hc : cells ≤ KC) (hs : slots ≤ KS) : own_Lv (own_F s Q KC KS) s T locs cells slots v := fun fs hW hsm => ⟨locs, hQ, ⟨_, rfl⟩, hW, hsm.mono hc hs⟩
theorem own_lvS {v : Option Value} {vm₁ : Vm} {n : Nat} (hS : s.Since vm₁ n) (hn : n ≤ T.heap.size) (hQ : Q v T.heap locs) (hc : cells ≤ KC) (hs : slots ≤ KS) : own_Lv (own_FS s Q KC KS) (s.setVm vm₁) T locs cells slots v := fun fs hW hsm => by
  obtain ⟨a, b, c'⟩ := hS.ended (U := T.setFrames fs) hW hn hsm
  exact ⟨locs, hQ, ⟨_, rfl⟩, a, b, c'.mono hc hs⟩
theorem own_retW (X : Stand p l e R s m args below meth c T locs cells slots) (hx : p.tables.exec = Jvm.exec) (hlk : meth.locks = false) (hby : c.code = bs) {w : Value} {t : FieldType} {i : Instr} {rest : List Value} (hret : meth.sig.returnType = some t) (hn : narrow t w = w)
    (hi : (i = .ireturn ∧ (t = .int ∨ t = .boolean ∨ t = .byte ∨ t = .char ∨ t = .short) ∧ ∃ z, w = .int z) ∨ (i = .lreturn ∧ t = .long ∧ ∃ z, w = .long z) ∨ (i = .dreturn ∧ t = .double ∧ ∃ z, w = .double z) ∨ (i = .freturn ∧ t = .float ∧ ∃ z, w = .float z) ∨ (i = .areturn ∧ t.isReference = true ∧ w.isRef = true))
    (hd : decode bs pc = .ok (i, 1)) (hF : own_Lv F s T locs cells slots (some w)) : own_End p e below F (T.setTop (mkF m pc Ls (w :: rest))) := by
  obtain ⟨fs, hr, hrun, hended, hW, hsame⟩ := X.leave (v := some w) (fun h => by rw [hret] at h; cases h) hlk
  exact ⟨_, _, retOut X hx hret hn hi (hb hby hd) hr, hrun, hended, hF fs hW hsame⟩
theorem own_ireturn (X : Stand p l e R s m args below meth c T locs cells slots) (hx : p.tables.exec = Jvm.exec) (hlk : meth.locks = false) (hby : c.code = bs) {z : Int32} {rest : List Value} (hret : meth.sig.returnType = some .int)
    (hd : decode bs pc = .ok (.ireturn, 1)) (hF : own_Lv F s T locs cells slots (some (.int z))) : own_End p e below F (T.setTop (mkF m pc Ls (.int z :: rest))) :=
  own_retW X hx hlk hby hret rfl (Or.inl ⟨rfl, Or.inl rfl, _, rfl⟩) hd hF
theorem own_zreturn (X : Stand p l e R s m args below meth c T locs cells slots) (hx : p.tables.exec = Jvm.exec) (hlk : meth.locks = false) (hby : c.code = bs) {z : Int32} {rest : List Value} (hret : meth.sig.returnType = some .boolean) (hz : z = 0 ∨ z = 1)
    (hd : decode bs pc = .ok (.ireturn, 1)) (hF : own_Lv F s T locs cells slots (some (.int z))) : own_End p e below F (T.setTop (mkF m pc Ls (.int z :: rest))) :=
  own_retW X hx hlk hby hret (by rcases hz with rfl | rfl <;> rfl) (Or.inl ⟨rfl, Or.inr (Or.inl rfl), _, rfl⟩) hd hF
theorem own_breturn (X : Stand p l e R s m args below meth c T locs cells slots) (hx : p.tables.exec = Jvm.exec) (hlk : meth.locks = false) (hby : c.code = bs) {z : Int32} {rest : List Value} (hret : meth.sig.returnType = some .byte) (hz : z.toInt8.toInt32 = z)
    (hd : decode bs pc = .ok (.ireturn, 1)) (hF : own_Lv F s T locs cells slots (some (.int z))) : own_End p e below F (T.setTop (mkF m pc Ls (.int z :: rest))) :=
  own_retW X hx hlk hby hret (show Value.int z.toInt8.toInt32 = .int z by rw [hz]) (Or.inl ⟨rfl, Or.inr (Or.inr (Or.inl rfl)), _, rfl⟩) hd hF
theorem own_lreturn (X : Stand p l e R s m args below meth c T locs cells slots) (hx : p.tables.exec = Jvm.exec) (hlk : meth.locks = false) (hby : c.code = bs) {z : Int64} {rest : List Value} (hret : meth.sig.returnType = some .long)
    (hd : decode bs pc = .ok (.lreturn, 1)) (hF : own_Lv F s T locs cells slots (some (.long z))) : own_End p e below F (T.setTop (mkF m pc Ls (.long z :: rest))) :=
  own_retW X hx hlk hby hret rfl (Or.inr (Or.inl ⟨rfl, rfl, _, rfl⟩)) hd hF
theorem own_areturn (X : Stand p l e R s m args below meth c T locs cells slots) (hx : p.tables.exec = Jvm.exec) (hlk : meth.locks = false) (hby : c.code = bs) {w : Value} {t : FieldType} {rest : List Value} (hret : meth.sig.returnType = some t) (ht : t.isReference = true) (hw : w.isRef = true)
    (hd : decode bs pc = .ok (.areturn, 1)) (hF : own_Lv F s T locs cells slots (some w)) : own_End p e below F (T.setTop (mkF m pc Ls (w :: rest))) :=
  own_retW X hx hlk hby hret (own_nar hw ht) (Or.inr (Or.inr (Or.inr (Or.inr ⟨rfl, ht, hw⟩)))) hd hF
theorem own_return (X : Stand p l e R s m args below meth c T locs cells slots) (hx : p.tables.exec = Jvm.exec) (hlk : meth.locks = false) (hby : c.code = bs) (hret : meth.sig.returnType = none)
    (hd : decode bs pc = .ok (.return_, 1)) (hF : own_Lv F s T locs cells slots none) : own_End p e below F (T.setTop (mkF m pc Ls [])) := by
  obtain ⟨fs, hr, hrun, hended, hW, hsame⟩ := X.leave (v := none) (fun _ => rfl) hlk
  exact ⟨_, _, X.returnOut hx hret (hb hby hd) hr, hrun, hended, hF fs hW hsame⟩
section Plain
theorem own_iload (X : Stand p l e R s m args below meth c T locs cells slots) (hx : p.tables.exec = Jvm.exec) (hby : c.code = bs) {k : Nat} {v : Int32} (hd : decode bs pc = .ok (.iload k, 2)) (hp : pc + 2 = pc') (hl : Ls[k]? = some (.val (.int v))) (h : own_End p e below F (T.setTop (mkF m pc' Ls (.int v :: st)))) : own_End p e below F (T.setTop (mkF m pc Ls st)) := by
  subst hp; exact own_step (fun t k => XS.iload X.here hx rfl (hb hby hd) hl k) h
theorem own_iloadN (X : Stand p l e R s m args below meth c T locs cells slots) (hx : p.tables.exec = Jvm.exec) (hby : c.code = bs) {k : Fin 4} {v : Int32} (hd : decode bs pc = .ok (.iload_n k, 1)) (hp : pc + 1 = pc') (hl : Ls[k.val]? = some (.val (.int v))) (h : own_End p e below F (T.setTop (mkF m pc' Ls (.int v :: st)))) : own_End p e below F (T.setTop (mkF m pc Ls st)) := by
  subst hp; exact own_step (fun t k => XS.iloadN X.here hx rfl (hb hby hd) hl k) h
theorem own_lload (X : Stand p l e R s m args below meth c T locs cells slots) (hx : p.tables.exec = Jvm.exec) (hby : c.code = bs) {k : Nat} {v : Int64} (hd : decode bs pc = .ok (.lload k, 2)) (hp : pc + 2 = pc') (hl : Ls[k]? = some (.val (.long v))) (h : own_End p e below F (T.setTop (mkF m pc' Ls (.long v :: st)))) : own_End p e below F (T.setTop (mkF m pc Ls st)) := by
  subst hp; exact own_step (fun t k => XS.lload X.here hx rfl (hb hby hd) hl k) h
theorem own_lloadN (X : Stand p l e R s m args below meth c T locs cells slots) (hx : p.tables.exec = Jvm.exec) (hby : c.code = bs) {k : Fin 4} {v : Int64} (hd : decode bs pc = .ok (.lload_n k, 1)) (hp : pc + 1 = pc') (hl : Ls[k.val]? = some (.val (.long v))) (h : own_End p e below F (T.setTop (mkF m pc' Ls (.long v :: st)))) : own_End p e below F (T.setTop (mkF m pc Ls st)) := by
  subst hp; exact own_step (fun t k => XS.lloadN X.here hx rfl (hb hby hd) hl k) h
theorem own_aload (X : Stand p l e R s m args below meth c T locs cells slots) (hx : p.tables.exec = Jvm.exec) (hby : c.code = bs) {k : Nat} {v : Value} (hd : decode bs pc = .ok (.aload k, 2)) (hp : pc + 2 = pc') (hl : Ls[k]? = some (.val v)) (hv : v.isRef = true) (h : own_End p e below F (T.setTop (mkF m pc' Ls (v :: st)))) : own_End p e below F (T.setTop (mkF m pc Ls st)) := by
  subst hp; exact own_step (fun t k => XS.aload X.here hx rfl (hb hby hd) hl hv k) h
theorem own_aloadN (X : Stand p l e R s m args below meth c T locs cells slots) (hx : p.tables.exec = Jvm.exec) (hby : c.code = bs) {k : Fin 4} {v : Value} (hd : decode bs pc = .ok (.aload_n k, 1)) (hp : pc + 1 = pc') (hl : Ls[k.val]? = some (.val v)) (hv : v.isRef = true) (h : own_End p e below F (T.setTop (mkF m pc' Ls (v :: st)))) : own_End p e below F (T.setTop (mkF m pc Ls st)) := by
  subst hp; exact own_step (fun t k => XS.aloadN X.here hx rfl (hb hby hd) hl hv k) h
theorem own_istore (X : Stand p l e R s m args below meth c T locs cells slots) (hx : p.tables.exec = Jvm.exec) (hby : c.code = bs) {k : Nat} {x : Int32} (hd : decode bs pc = .ok (.istore k, 2)) (hp : pc + 2 = pc') (hl : storeLocals Ls k (.int x) = some l') (h : own_End p e below F (T.setTop (mkF m pc' l' st))) : own_End p e below F (T.setTop (mkF m pc Ls (.int x :: st))) := by
  subst hp; exact own_step (fun t k => XS.istore X.here hx rfl (hb hby hd) rfl hl k) h
theorem own_istoreN (X : Stand p l e R s m args below meth c T locs cells slots) (hx : p.tables.exec = Jvm.exec) (hby : c.code = bs) {k : Fin 4} {x : Int32} (hd : decode bs pc = .ok (.istore_n k, 1)) (hp : pc + 1 = pc') (hl : storeLocals Ls k.val (.int x) = some l') (h : own_End p e below F (T.setTop (mkF m pc' l' st))) : own_End p e below F (T.setTop (mkF m pc Ls (.int x :: st))) := by
  subst hp; exact own_step (fun t k => XS.istoreN X.here hx rfl (hb hby hd) rfl hl k) h
theorem own_lstore (X : Stand p l e R s m args below meth c T locs cells slots) (hx : p.tables.exec = Jvm.exec) (hby : c.code = bs) {k : Nat} {x : Int64} (hd : decode bs pc = .ok (.lstore k, 2)) (hp : pc + 2 = pc') (hl : storeLocals Ls k (.long x) = some l') (h : own_End p e below F (T.setTop (mkF m pc' l' st))) : own_End p e below F (T.setTop (mkF m pc Ls (.long x :: st))) := by
  subst hp; exact own_step (fun t k => XS.lstore X.here hx rfl (hb hby hd) rfl hl k) h
theorem own_lstoreN (X : Stand p l e R s m args below meth c T locs cells slots) (hx : p.tables.exec = Jvm.exec) (hby : c.code = bs) {k : Fin 4} {x : Int64} (hd : decode bs pc = .ok (.lstore_n k, 1)) (hp : pc + 1 = pc') (hl : storeLocals Ls k.val (.long x) = some l') (h : own_End p e below F (T.setTop (mkF m pc' l' st))) : own_End p e below F (T.setTop (mkF m pc Ls (.long x :: st))) := by
  subst hp; exact own_step (fun t k => XS.lstoreN X.here hx rfl (hb hby hd) rfl hl k) h
theorem own_astore (X : Stand p l e R s m args below meth c T locs cells slots) (hx : p.tables.exec = Jvm.exec) (hby : c.code = bs) {k : Nat} {x : Value} (hd : decode bs pc = .ok (.astore k, 2)) (hp : pc + 2 = pc') (hv : x.isRef = true) (hl : storeLocals Ls k x = some l') (h : own_End p e below F (T.setTop (mkF m pc' l' st))) : own_End p e below F (T.setTop (mkF m pc Ls (x :: st))) := by
  subst hp; exact own_step (fun t k => XS.astore X.here hx rfl (hb hby hd) rfl hv hl k) h
theorem own_astoreN (X : Stand p l e R s m args below meth c T locs cells slots) (hx : p.tables.exec = Jvm.exec) (hby : c.code = bs) {k : Fin 4} {x : Value} (hd : decode bs pc = .ok (.astore_n k, 1)) (hp : pc + 1 = pc') (hv : x.isRef = true) (hl : storeLocals Ls k.val x = some l') (h : own_End p e below F (T.setTop (mkF m pc' l' st))) : own_End p e below F (T.setTop (mkF m pc Ls (x :: st))) := by
  subst hp; exact own_step (fun t k => XS.astoreN X.here hx rfl (hb hby hd) rfl hv hl k) h
theorem own_iinc (X : Stand p l e R s m args below meth c T locs cells slots) (hx : p.tables.exec = Jvm.exec) (hby : c.code = bs) {k : Nat} {cst : Int} {x y : Int32} (hd : decode bs pc = .ok (.iinc k cst, 3)) (hp : pc + 3 = pc') (hl : Ls[k]? = some (.val (.int x))) (hy : x + Int32.ofInt cst = y) (hl' : storeLocals Ls k (.int y) = some l') (h : own_End p e below F (T.setTop (mkF m pc' l' st))) : own_End p e below F (T.setTop (mkF m pc Ls st)) := by
  subst hp hy; exact own_step (fun t k => XS.iinc X.here hx rfl (hb hby hd) hl hl' k) h
theorem own_iconst (X : Stand p l e R s m args below meth c T locs cells slots) (hx : p.tables.exec = Jvm.exec) (hby : c.code = bs) {i : Int} {n : Int32} (hd : decode bs pc = .ok (.iconst i, 1)) (hp : pc + 1 = pc') (hn : Int32.ofInt i = n) (h : own_End p e below F (T.setTop (mkF m pc' Ls (.int n :: st)))) : own_End p e below F (T.setTop (mkF m pc Ls st)) := by
  subst hp hn; exact own_step (fun t k => XS.iconst X.here hx rfl (hb hby hd) k) h
theorem own_bipush (X : Stand p l e R s m args below meth c T locs cells slots) (hx : p.tables.exec = Jvm.exec) (hby : c.code = bs) {i : Int} {n : Int32} (hd : decode bs pc = .ok (.bipush i, 2)) (hp : pc + 2 = pc') (hn : (Int8.ofInt i).toInt32 = n) (h : own_End p e below F (T.setTop (mkF m pc' Ls (.int n :: st)))) : own_End p e below F (T.setTop (mkF m pc Ls st)) := by
  subst hp hn; exact own_step (fun t k => XS.bipush X.here hx rfl (hb hby hd) k) h
theorem own_sipush (X : Stand p l e R s m args below meth c T locs cells slots) (hx : p.tables.exec = Jvm.exec) (hby : c.code = bs) {i : Int} {n : Int32} (hd : decode bs pc = .ok (.sipush i, 3)) (hp : pc + 3 = pc') (hn : (Int16.ofInt i).toInt32 = n) (h : own_End p e below F (T.setTop (mkF m pc' Ls (.int n :: st)))) : own_End p e below F (T.setTop (mkF m pc Ls st)) := by
  subst hp hn; exact own_step (fun t k => XS.sipush X.here hx rfl (hb hby hd) k) h
theorem own_lconst (X : Stand p l e R s m args below meth c T locs cells slots) (hx : p.tables.exec = Jvm.exec) (hby : c.code = bs) {i : Fin 2} {n : Int64} (hd : decode bs pc = .ok (.lconst i, 1)) (hp : pc + 1 = pc') (hn : Int64.ofNat i.val = n) (h : own_End p e below F (T.setTop (mkF m pc' Ls (.long n :: st)))) : own_End p e below F (T.setTop (mkF m pc Ls st)) := by
  subst hp hn; exact own_step (fun t k => XS.lconst X.here hx rfl (hb hby hd) k) h
theorem own_aconst_null (X : Stand p l e R s m args below meth c T locs cells slots) (hx : p.tables.exec = Jvm.exec) (hby : c.code = bs) (hd : decode bs pc = .ok (.aconst_null, 1)) (hp : pc + 1 = pc') (h : own_End p e below F (T.setTop (mkF m pc' Ls (.null :: st)))) : own_End p e below F (T.setTop (mkF m pc Ls st)) := by
  subst hp; exact own_step (fun t k => XS.aconstNull X.here hx rfl (hb hby hd) k) h
theorem own_goto (X : Stand p l e R s m args below meth c T locs cells slots) (hx : p.tables.exec = Jvm.exec) (hby : c.code = bs) {o : Int} (hd : decode bs pc = .ok (.goto o, 3)) (ho : 0 ≤ (pc : Int) + o) (hp : ((pc : Int) + o).toNat = pc') (h : own_End p e below F (T.setTop (mkF m pc' Ls st))) : own_End p e below F (T.setTop (mkF m pc Ls st)) :=
  own_step (fun t k => XS.goto X.here hx rfl (pc0 := pc) (pc' := pc') rfl (hb hby hd) ho hp k) h
theorem own_dup (X : Stand p l e R s m args below meth c T locs cells slots) (hx : p.tables.exec = Jvm.exec) (hby : c.code = bs) {x : Value} (hd : decode bs pc = .ok (.dup, 1)) (hp : pc + 1 = pc') (hc : x.category = 1) (h : own_End p e below F (T.setTop (mkF m pc' Ls (x :: x :: st)))) : own_End p e below F (T.setTop (mkF m pc Ls (x :: st))) := by
  subst hp; exact own_step (fun t k => XS.dup X.here hx rfl (hb hby hd) rfl hc k) h
theorem own_dup_x1 (X : Stand p l e R s m args below meth c T locs cells slots) (hx : p.tables.exec = Jvm.exec) (hby : c.code = bs) {x y : Value} (hd : decode bs pc = .ok (.dup_x1, 1)) (hp : pc + 1 = pc') (hc : x.category = 1) (hc2 : y.category = 1) (h : own_End p e below F (T.setTop (mkF m pc' Ls (x :: y :: x :: st)))) : own_End p e below F (T.setTop (mkF m pc Ls (x :: y :: st))) := by
  subst hp; exact own_step (fun t k => XS.dupX1 X.here hx rfl (hb hby hd) rfl hc hc2 k) h
theorem own_pop (X : Stand p l e R s m args below meth c T locs cells slots) (hx : p.tables.exec = Jvm.exec) (hby : c.code = bs) {x : Value} (hd : decode bs pc = .ok (.pop, 1)) (hp : pc + 1 = pc') (hc : x.category = 1) (h : own_End p e below F (T.setTop (mkF m pc' Ls st))) : own_End p e below F (T.setTop (mkF m pc Ls (x :: st))) := by
  subst hp; exact own_step (fun t k => XS.pop X.here hx rfl (hb hby hd) rfl hc k) h
theorem own_pop2 (X : Stand p l e R s m args below meth c T locs cells slots) (hx : p.tables.exec = Jvm.exec) (hby : c.code = bs) {x : Int64} (hd : decode bs pc = .ok (.pop2, 1)) (hp : pc + 1 = pc') (h : own_End p e below F (T.setTop (mkF m pc' Ls st))) : own_End p e below F (T.setTop (mkF m pc Ls (.long x :: st))) := by
  subst hp
  refine own_step (fun t k => ?_) h
  have hd' := hb hby hd
  have hc : (Value.long x).category = 2 := rfl
  jvm_step X.here [X.here.top, hx, hd', Op.pop2.wp_sem, hc]
  exact k
theorem own_iadd (X : Stand p l e R s m args below meth c T locs cells slots) (hx : p.tables.exec = Jvm.exec) (hby : c.code = bs) {x y : Int32} (hd : decode bs pc = .ok (.iadd, 1)) (hp : pc + 1 = pc') (h : own_End p e below F (T.setTop (mkF m pc' Ls (.int (x + y) :: st)))) : own_End p e below F (T.setTop (mkF m pc Ls (.int y :: .int x :: st))) := by
  subst hp; exact own_step (fun t k => XS.iadd X.here hx rfl (hb hby hd) rfl k) h
theorem own_isub (X : Stand p l e R s m args below meth c T locs cells slots) (hx : p.tables.exec = Jvm.exec) (hby : c.code = bs) {x y : Int32} (hd : decode bs pc = .ok (.isub, 1)) (hp : pc + 1 = pc') (h : own_End p e below F (T.setTop (mkF m pc' Ls (.int (x - y) :: st)))) : own_End p e below F (T.setTop (mkF m pc Ls (.int y :: .int x :: st))) := by
  subst hp; exact own_step (fun t k => XS.isub X.here hx rfl (hb hby hd) rfl k) h
theorem own_imul (X : Stand p l e R s m args below meth c T locs cells slots) (hx : p.tables.exec = Jvm.exec) (hby : c.code = bs) {x y : Int32} (hd : decode bs pc = .ok (.imul, 1)) (hp : pc + 1 = pc') (h : own_End p e below F (T.setTop (mkF m pc' Ls (.int (x * y) :: st)))) : own_End p e below F (T.setTop (mkF m pc Ls (.int y :: .int x :: st))) := by
  subst hp; exact own_step (fun t k => XS.imul X.here hx rfl (hb hby hd) rfl k) h
theorem own_iand (X : Stand p l e R s m args below meth c T locs cells slots) (hx : p.tables.exec = Jvm.exec) (hby : c.code = bs) {x y : Int32} (hd : decode bs pc = .ok (.iand, 1)) (hp : pc + 1 = pc') (h : own_End p e below F (T.setTop (mkF m pc' Ls (.int (x &&& y) :: st)))) : own_End p e below F (T.setTop (mkF m pc Ls (.int y :: .int x :: st))) := by
  subst hp; exact own_step (fun t k => XS.iand X.here hx rfl (hb hby hd) rfl k) h
theorem own_ior (X : Stand p l e R s m args below meth c T locs cells slots) (hx : p.tables.exec = Jvm.exec) (hby : c.code = bs) {x y : Int32} (hd : decode bs pc = .ok (.ior, 1)) (hp : pc + 1 = pc') (h : own_End p e below F (T.setTop (mkF m pc' Ls (.int (x ||| y) :: st)))) : own_End p e below F (T.setTop (mkF m pc Ls (.int y :: .int x :: st))) := by
  subst hp; exact own_step (fun t k => XS.ior X.here hx rfl (hb hby hd) rfl k) h
theorem own_ixor (X : Stand p l e R s m args below meth c T locs cells slots) (hx : p.tables.exec = Jvm.exec) (hby : c.code = bs) {x y : Int32} (hd : decode bs pc = .ok (.ixor, 1)) (hp : pc + 1 = pc') (h : own_End p e below F (T.setTop (mkF m pc' Ls (.int (x ^^^ y) :: st)))) : own_End p e below F (T.setTop (mkF m pc Ls (.int y :: .int x :: st))) := by
  subst hp; exact own_step (fun t k => XS.ixor X.here hx rfl (hb hby hd) rfl k) h
theorem own_ladd (X : Stand p l e R s m args below meth c T locs cells slots) (hx : p.tables.exec = Jvm.exec) (hby : c.code = bs) {x y : Int64} (hd : decode bs pc = .ok (.ladd, 1)) (hp : pc + 1 = pc') (h : own_End p e below F (T.setTop (mkF m pc' Ls (.long (x + y) :: st)))) : own_End p e below F (T.setTop (mkF m pc Ls (.long y :: .long x :: st))) := by
  subst hp; exact own_step (fun t k => XS.ladd X.here hx rfl (hb hby hd) rfl k) h
theorem own_lsub (X : Stand p l e R s m args below meth c T locs cells slots) (hx : p.tables.exec = Jvm.exec) (hby : c.code = bs) {x y : Int64} (hd : decode bs pc = .ok (.lsub, 1)) (hp : pc + 1 = pc') (h : own_End p e below F (T.setTop (mkF m pc' Ls (.long (x - y) :: st)))) : own_End p e below F (T.setTop (mkF m pc Ls (.long y :: .long x :: st))) := by
  subst hp; exact own_step (fun t k => XS.lsub X.here hx rfl (hb hby hd) rfl k) h
theorem own_lmul (X : Stand p l e R s m args below meth c T locs cells slots) (hx : p.tables.exec = Jvm.exec) (hby : c.code = bs) {x y : Int64} (hd : decode bs pc = .ok (.lmul, 1)) (hp : pc + 1 = pc') (h : own_End p e below F (T.setTop (mkF m pc' Ls (.long (x * y) :: st)))) : own_End p e below F (T.setTop (mkF m pc Ls (.long y :: .long x :: st))) := by
  subst hp; exact own_step (fun t k => XS.lmul X.here hx rfl (hb hby hd) rfl k) h
theorem own_land (X : Stand p l e R s m args below meth c T locs cells slots) (hx : p.tables.exec = Jvm.exec) (hby : c.code = bs) {x y : Int64} (hd : decode bs pc = .ok (.land, 1)) (hp : pc + 1 = pc') (h : own_End p e below F (T.setTop (mkF m pc' Ls (.long (x &&& y) :: st)))) : own_End p e below F (T.setTop (mkF m pc Ls (.long y :: .long x :: st))) := by
  subst hp; exact own_step (fun t k => XS.land X.here hx rfl (hb hby hd) rfl k) h
theorem own_lor (X : Stand p l e R s m args below meth c T locs cells slots) (hx : p.tables.exec = Jvm.exec) (hby : c.code = bs) {x y : Int64} (hd : decode bs pc = .ok (.lor, 1)) (hp : pc + 1 = pc') (h : own_End p e below F (T.setTop (mkF m pc' Ls (.long (x ||| y) :: st)))) : own_End p e below F (T.setTop (mkF m pc Ls (.long y :: .long x :: st))) := by
  subst hp; exact own_step (fun t k => XS.lor X.here hx rfl (hb hby hd) rfl k) h
theorem own_lxor (X : Stand p l e R s m args below meth c T locs cells slots) (hx : p.tables.exec = Jvm.exec) (hby : c.code = bs) {x y : Int64} (hd : decode bs pc = .ok (.lxor, 1)) (hp : pc + 1 = pc') (h : own_End p e below F (T.setTop (mkF m pc' Ls (.long (x ^^^ y) :: st)))) : own_End p e below F (T.setTop (mkF m pc Ls (.long y :: .long x :: st))) := by
  subst hp; exact own_step (fun t k => XS.lxor X.here hx rfl (hb hby hd) rfl k) h
theorem own_ishl (X : Stand p l e R s m args below meth c T locs cells slots) (hx : p.tables.exec = Jvm.exec) (hby : c.code = bs) {x y : Int32} (hd : decode bs pc = .ok (.ishl, 1)) (hp : pc + 1 = pc') (h : own_End p e below F (T.setTop (mkF m pc' Ls (.int (x <<< (y &&& 31)) :: st)))) : own_End p e below F (T.setTop (mkF m pc Ls (.int y :: .int x :: st))) := by
  subst hp; exact own_step (fun t k => XS.ishl X.here hx rfl (hb hby hd) rfl k) h
theorem own_ishr (X : Stand p l e R s m args below meth c T locs cells slots) (hx : p.tables.exec = Jvm.exec) (hby : c.code = bs) {x y : Int32} (hd : decode bs pc = .ok (.ishr, 1)) (hp : pc + 1 = pc') (h : own_End p e below F (T.setTop (mkF m pc' Ls (.int (x >>> (y &&& 31)) :: st)))) : own_End p e below F (T.setTop (mkF m pc Ls (.int y :: .int x :: st))) := by
  subst hp; exact own_step (fun t k => XS.ishr X.here hx rfl (hb hby hd) rfl k) h
theorem own_iushr (X : Stand p l e R s m args below meth c T locs cells slots) (hx : p.tables.exec = Jvm.exec) (hby : c.code = bs) {x y : Int32} (hd : decode bs pc = .ok (.iushr, 1)) (hp : pc + 1 = pc') (h : own_End p e below F (T.setTop (mkF m pc' Ls (.int ((x.toUInt32 >>> (y &&& 31).toUInt32).toInt32) :: st)))) : own_End p e below F (T.setTop (mkF m pc Ls (.int y :: .int x :: st))) := by
  subst hp; exact own_step (fun t k => XS.iushr X.here hx rfl (hb hby hd) rfl k) h
theorem own_lshl (X : Stand p l e R s m args below meth c T locs cells slots) (hx : p.tables.exec = Jvm.exec) (hby : c.code = bs) {x : Int64} {y : Int32} (hd : decode bs pc = .ok (.lshl, 1)) (hp : pc + 1 = pc') (h : own_End p e below F (T.setTop (mkF m pc' Ls (.long (x <<< (y &&& 0x3f).toInt64) :: st)))) : own_End p e below F (T.setTop (mkF m pc Ls (.int y :: .long x :: st))) := by
  subst hp; exact own_step (fun t k => XS.lshl X.here hx rfl (hb hby hd) rfl k) h
theorem own_lshr (X : Stand p l e R s m args below meth c T locs cells slots) (hx : p.tables.exec = Jvm.exec) (hby : c.code = bs) {x : Int64} {y : Int32} (hd : decode bs pc = .ok (.lshr, 1)) (hp : pc + 1 = pc') (h : own_End p e below F (T.setTop (mkF m pc' Ls (.long (x >>> (y &&& 0x3f).toInt64) :: st)))) : own_End p e below F (T.setTop (mkF m pc Ls (.int y :: .long x :: st))) := by
  subst hp; exact own_step (fun t k => XS.lshr X.here hx rfl (hb hby hd) rfl k) h
theorem own_lushr (X : Stand p l e R s m args below meth c T locs cells slots) (hx : p.tables.exec = Jvm.exec) (hby : c.code = bs) {x : Int64} {y : Int32} (hd : decode bs pc = .ok (.lushr, 1)) (hp : pc + 1 = pc') (h : own_End p e below F (T.setTop (mkF m pc' Ls (.long ((x.toUInt64 >>> (y &&& 0x3f).toInt64.toUInt64).toInt64) :: st)))) : own_End p e below F (T.setTop (mkF m pc Ls (.int y :: .long x :: st))) := by
  subst hp; exact own_step (fun t k => XS.lushr X.here hx rfl (hb hby hd) rfl k) h
theorem own_lcmp (X : Stand p l e R s m args below meth c T locs cells slots) (hx : p.tables.exec = Jvm.exec) (hby : c.code = bs) {x y : Int64} (hd : decode bs pc = .ok (.lcmp, 1)) (hp : pc + 1 = pc') (h : own_End p e below F (T.setTop (mkF m pc' Ls (.int (lcmpW x y) :: st)))) : own_End p e below F (T.setTop (mkF m pc Ls (.long y :: .long x :: st))) := by
  subst hp; exact own_step (fun t k => XS.lcmp X.here hx rfl (hb hby hd) rfl k) h
theorem own_ineg (X : Stand p l e R s m args below meth c T locs cells slots) (hx : p.tables.exec = Jvm.exec) (hby : c.code = bs) {x : Int32} (hd : decode bs pc = .ok (.ineg, 1)) (hp : pc + 1 = pc') (h : own_End p e below F (T.setTop (mkF m pc' Ls (.int (-x) :: st)))) : own_End p e below F (T.setTop (mkF m pc Ls (.int x :: st))) := by
  subst hp; exact own_step (fun t k => XS.ineg X.here hx rfl (hb hby hd) rfl k) h
theorem own_i2b (X : Stand p l e R s m args below meth c T locs cells slots) (hx : p.tables.exec = Jvm.exec) (hby : c.code = bs) {x : Int32} (hd : decode bs pc = .ok (.i2b, 1)) (hp : pc + 1 = pc') (h : own_End p e below F (T.setTop (mkF m pc' Ls (.int (x.toInt8.toInt32) :: st)))) : own_End p e below F (T.setTop (mkF m pc Ls (.int x :: st))) := by
  subst hp; exact own_step (fun t k => XS.i2b X.here hx rfl (hb hby hd) rfl k) h
theorem own_i2s (X : Stand p l e R s m args below meth c T locs cells slots) (hx : p.tables.exec = Jvm.exec) (hby : c.code = bs) {x : Int32} (hd : decode bs pc = .ok (.i2s, 1)) (hp : pc + 1 = pc') (h : own_End p e below F (T.setTop (mkF m pc' Ls (.int (x.toInt16.toInt32) :: st)))) : own_End p e below F (T.setTop (mkF m pc Ls (.int x :: st))) := by
  subst hp; exact own_step (fun t k => XS.i2s X.here hx rfl (hb hby hd) rfl k) h
theorem own_i2c (X : Stand p l e R s m args below meth c T locs cells slots) (hx : p.tables.exec = Jvm.exec) (hby : c.code = bs) {x : Int32} (hd : decode bs pc = .ok (.i2c, 1)) (hp : pc + 1 = pc') (h : own_End p e below F (T.setTop (mkF m pc' Ls (.int (x.toUInt32.toUInt16.toUInt32.toInt32) :: st)))) : own_End p e below F (T.setTop (mkF m pc Ls (.int x :: st))) := by
  subst hp; exact own_step (fun t k => XS.i2c X.here hx rfl (hb hby hd) rfl k) h
theorem own_i2l (X : Stand p l e R s m args below meth c T locs cells slots) (hx : p.tables.exec = Jvm.exec) (hby : c.code = bs) {x : Int32} (hd : decode bs pc = .ok (.i2l, 1)) (hp : pc + 1 = pc') (h : own_End p e below F (T.setTop (mkF m pc' Ls (.long (x.toInt64) :: st)))) : own_End p e below F (T.setTop (mkF m pc Ls (.int x :: st))) := by
  subst hp; exact own_step (fun t k => XS.i2l X.here hx rfl (hb hby hd) rfl k) h
theorem own_lneg (X : Stand p l e R s m args below meth c T locs cells slots) (hx : p.tables.exec = Jvm.exec) (hby : c.code = bs) {x : Int64} (hd : decode bs pc = .ok (.lneg, 1)) (hp : pc + 1 = pc') (h : own_End p e below F (T.setTop (mkF m pc' Ls (.long (-x) :: st)))) : own_End p e below F (T.setTop (mkF m pc Ls (.long x :: st))) := by
  subst hp; exact own_step (fun t k => XS.lneg X.here hx rfl (hb hby hd) rfl k) h
theorem own_l2i (X : Stand p l e R s m args below meth c T locs cells slots) (hx : p.tables.exec = Jvm.exec) (hby : c.code = bs) {x : Int64} (hd : decode bs pc = .ok (.l2i, 1)) (hp : pc + 1 = pc') (h : own_End p e below F (T.setTop (mkF m pc' Ls (.int (x.toInt32) :: st)))) : own_End p e below F (T.setTop (mkF m pc Ls (.long x :: st))) := by
  subst hp; exact own_step (fun t k => XS.l2i X.here hx rfl (hb hby hd) rfl k) h
theorem own_idiv (X : Stand p l e R s m args below meth c T locs cells slots) (hx : p.tables.exec = Jvm.exec) (hby : c.code = bs) {x y : Int32} (hd : decode bs pc = .ok (.idiv, 1)) (hp : pc + 1 = pc') (hy : ¬ y = 0) (h : own_End p e below F (T.setTop (mkF m pc' Ls (.int (x / y) :: st)))) : own_End p e below F (T.setTop (mkF m pc Ls (.int y :: .int x :: st))) := by
  subst hp; exact own_step (fun t k => XS.idiv X.here hx rfl (hb hby hd) rfl hy k) h
theorem own_irem (X : Stand p l e R s m args below meth c T locs cells slots) (hx : p.tables.exec = Jvm.exec) (hby : c.code = bs) {x y : Int32} (hd : decode bs pc = .ok (.irem, 1)) (hp : pc + 1 = pc') (hy : ¬ y = 0) (h : own_End p e below F (T.setTop (mkF m pc' Ls (.int (x % y) :: st)))) : own_End p e below F (T.setTop (mkF m pc Ls (.int y :: .int x :: st))) := by
  subst hp; exact own_step (fun t k => iremM X hx rfl (hb hby hd) rfl hy k) h
theorem own_ldiv (X : Stand p l e R s m args below meth c T locs cells slots) (hx : p.tables.exec = Jvm.exec) (hby : c.code = bs) {x y : Int64} (hd : decode bs pc = .ok (.ldiv, 1)) (hp : pc + 1 = pc') (hy : ¬ y = 0) (h : own_End p e below F (T.setTop (mkF m pc' Ls (.long (x / y) :: st)))) : own_End p e below F (T.setTop (mkF m pc Ls (.long y :: .long x :: st))) := by
  subst hp; exact own_step (fun t k => XS.ldiv X.here hx rfl (hb hby hd) rfl hy k) h
theorem own_lrem (X : Stand p l e R s m args below meth c T locs cells slots) (hx : p.tables.exec = Jvm.exec) (hby : c.code = bs) {x y : Int64} (hd : decode bs pc = .ok (.lrem, 1)) (hp : pc + 1 = pc') (hy : ¬ y = 0) (h : own_End p e below F (T.setTop (mkF m pc' Ls (.long (x % y) :: st)))) : own_End p e below F (T.setTop (mkF m pc Ls (.long y :: .long x :: st))) := by
  subst hp; exact own_step (fun t k => XS.lrem X.here hx rfl (hb hby hd) rfl hy (by rw [lrem_mod]; exact k)) h
/-- the branch's condition, and its contrary -/
abbrev own_ct (cd : ClassFile.Cond) (x y : Int32) : Prop := match cd with | .eq => x = y | .ne => ¬ x = y | .lt => x < y | .ge => ¬ x < y | .gt => y < x | .le => ¬ y < x
abbrev own_cf (cd : ClassFile.Cond) (x y : Int32) : Prop := match cd with | .eq => ¬ x = y | .ne => x = y | .lt => ¬ x < y | .ge => x < y | .gt => ¬ y < x | .le => y < x
abbrev own_ctL (cd : ClassFile.Cond) (x y : Int64) : Prop := match cd with | .eq => x = y | .ne => ¬ x = y | .lt => x < y | .ge => ¬ x < y | .gt => y < x | .le => ¬ y < x
abbrev own_cfL (cd : ClassFile.Cond) (x y : Int64) : Prop := match cd with | .eq => ¬ x = y | .ne => x = y | .lt => ¬ x < y | .ge => x < y | .gt => ¬ y < x | .le => y < x
theorem own_ct_y {cd : ClassFile.Cond} {x y : Int32} (h : own_ct cd x y) : if_icmp.holds cd x y = true := by
  cases cd
  · exact (teq h).1
  · exact (feq h).2
  · exact (tlt h).1
  · exact (flt h).2.1
  · exact (tlt h).2.2.1
  · exact (flt h).2.2.2
theorem own_ct_n {cd : ClassFile.Cond} {x y : Int32} (h : own_cf cd x y) : if_icmp.holds cd x y = false := by
  cases cd
  · exact (feq h).1
  · exact (teq h).2
  · exact (flt h).1
  · exact (tlt h).2.1
  · exact (flt h).2.2.1
  · exact (tlt h).2.2.2
theorem own_ct_or (cd : ClassFile.Cond) (x y : Int32) : own_ct cd x y ∨ own_cf cd x y := by
  cases cd
  · exact Decidable.em _
  · exact (Decidable.em _).symm
  · exact Decidable.em _
  · exact (Decidable.em _).symm
  · exact Decidable.em _
  · exact (Decidable.em _).symm
theorem own_ctL_or (cd : ClassFile.Cond) (x y : Int64) : own_ctL cd x y ∨ own_cfL cd x y := by
  cases cd
  · exact Decidable.em _
  · exact (Decidable.em _).symm
  · exact Decidable.em _
  · exact (Decidable.em _).symm
  · exact Decidable.em _
  · exact (Decidable.em _).symm
theorem own_ctL_y {cd : ClassFile.Cond} {x y : Int64} (h : own_ctL cd x y) : own_ct cd (lcmpW x y) 0 := by
  cases cd
  · exact (lw_eq x y).mpr h
  · exact fun q => h ((lw_eq x y).mp q)
  · exact (lw_lt x y).mpr h
  · exact fun q => h ((lw_lt x y).mp q)
  · exact (lw_gt x y).mpr h
  · exact fun q => h ((lw_gt x y).mp q)
theorem own_ctL_n {cd : ClassFile.Cond} {x y : Int64} (h : own_cfL cd x y) : own_cf cd (lcmpW x y) 0 := by
  cases cd
  · exact fun q => h ((lw_eq x y).mp q)
  · exact (lw_eq x y).mpr h
  · exact fun q => h ((lw_lt x y).mp q)
  · exact (lw_lt x y).mpr h
  · exact fun q => h ((lw_gt x y).mp q)
  · exact (lw_gt x y).mpr h
theorem own_ifY (X : Stand p l e R s m args below meth c T locs cells slots) (hx : p.tables.exec = Jvm.exec) (hby : c.code = bs) {cd : ClassFile.Cond} {x : Int32} {o : Int} (hd : decode bs pc = .ok (.ifCond cd o, 3)) (ho : 0 ≤ (pc : Int) + o) (hp : ((pc : Int) + o).toNat = pc') (hc : own_ct cd x 0) (h : own_End p e below F (T.setTop (mkF m pc' Ls st))) : own_End p e below F (T.setTop (mkF m pc Ls (.int x :: st))) :=
  own_step (fun t k => XS.ifYes X.here hx rfl (pc0 := pc) (pc' := pc') rfl (hb hby hd) rfl ((if0 _ _).trans (own_ct_y hc)) ho hp k) h
theorem own_ifN (X : Stand p l e R s m args below meth c T locs cells slots) (hx : p.tables.exec = Jvm.exec) (hby : c.code = bs) {cd : ClassFile.Cond} {x : Int32} {o : Int} (hd : decode bs pc = .ok (.ifCond cd o, 3)) (hp : pc + 3 = pc') (hc : own_cf cd x 0) (h : own_End p e below F (T.setTop (mkF m pc' Ls st))) : own_End p e below F (T.setTop (mkF m pc Ls (.int x :: st))) := by
  subst hp; exact own_step (fun t k => XS.ifNo X.here hx rfl (hb hby hd) rfl ((if0 _ _).trans (own_ct_n hc)) k) h
theorem own_icY (X : Stand p l e R s m args below meth c T locs cells slots) (hx : p.tables.exec = Jvm.exec) (hby : c.code = bs) {cd : ClassFile.Cond} {x y : Int32} {o : Int} (hd : decode bs pc = .ok (.if_icmp cd o, 3)) (ho : 0 ≤ (pc : Int) + o) (hp : ((pc : Int) + o).toNat = pc') (hc : own_ct cd x y) (h : own_End p e below F (T.setTop (mkF m pc' Ls st))) : own_End p e below F (T.setTop (mkF m pc Ls (.int y :: .int x :: st))) :=
  own_step (fun t k => XS.icmpYes X.here hx rfl (pc0 := pc) (pc' := pc') rfl (hb hby hd) rfl (own_ct_y hc) ho hp k) h
theorem own_icN (X : Stand p l e R s m args below meth c T locs cells slots) (hx : p.tables.exec = Jvm.exec) (hby : c.code = bs) {cd : ClassFile.Cond} {x y : Int32} {o : Int} (hd : decode bs pc = .ok (.if_icmp cd o, 3)) (hp : pc + 3 = pc') (hc : own_cf cd x y) (h : own_End p e below F (T.setTop (mkF m pc' Ls st))) : own_End p e below F (T.setTop (mkF m pc Ls (.int y :: .int x :: st))) := by
  subst hp; exact own_step (fun t k => XS.icmpNo X.here hx rfl (hb hby hd) rfl (own_ct_n hc) k) h
theorem own_if2 (X : Stand p l e R s m args below meth c T locs cells slots) (hx : p.tables.exec = Jvm.exec) (hby : c.code = bs) {cd : ClassFile.Cond} {x : Int32} {o : Int} {pc1 pc2 : Nat} (hd : decode bs pc = .ok (.ifCond cd o, 3)) (ho : 0 ≤ (pc : Int) + o) (hp : ((pc : Int) + o).toNat = pc1) (hp2 : pc + 3 = pc2) (h1 : own_ct cd x 0 → own_End p e below F (T.setTop (mkF m pc1 Ls st))) (h2 : own_cf cd x 0 → own_End p e below F (T.setTop (mkF m pc2 Ls st))) : own_End p e below F (T.setTop (mkF m pc Ls (.int x :: st))) :=
  (own_ct_or cd x 0).elim (fun q => own_ifY X hx hby hd ho hp q (h1 q)) (fun q => own_ifN X hx hby hd hp2 q (h2 q))
theorem own_ic2 (X : Stand p l e R s m args below meth c T locs cells slots) (hx : p.tables.exec = Jvm.exec) (hby : c.code = bs) {cd : ClassFile.Cond} {x y : Int32} {o : Int} {pc1 pc2 : Nat} (hd : decode bs pc = .ok (.if_icmp cd o, 3)) (ho : 0 ≤ (pc : Int) + o) (hp : ((pc : Int) + o).toNat = pc1) (hp2 : pc + 3 = pc2) (h1 : own_ct cd x y → own_End p e below F (T.setTop (mkF m pc1 Ls st))) (h2 : own_cf cd x y → own_End p e below F (T.setTop (mkF m pc2 Ls st))) : own_End p e below F (T.setTop (mkF m pc Ls (.int y :: .int x :: st))) :=
  (own_ct_or cd x y).elim (fun q => own_icY X hx hby hd ho hp q (h1 q)) (fun q => own_icN X hx hby hd hp2 q (h2 q))
theorem own_ifL2 (X : Stand p l e R s m args below meth c T locs cells slots) (hx : p.tables.exec = Jvm.exec) (hby : c.code = bs) {cd : ClassFile.Cond} {x y : Int64} {o : Int} {pc1 pc2 : Nat} (hd : decode bs pc = .ok (.ifCond cd o, 3)) (ho : 0 ≤ (pc : Int) + o) (hp : ((pc : Int) + o).toNat = pc1) (hp2 : pc + 3 = pc2) (h1 : own_ctL cd x y → own_End p e below F (T.setTop (mkF m pc1 Ls st))) (h2 : own_cfL cd x y → own_End p e below F (T.setTop (mkF m pc2 Ls st))) : own_End p e below F (T.setTop (mkF m pc Ls (.int (lcmpW x y) :: st))) :=
  (own_ctL_or cd x y).elim (fun q => own_ifY X hx hby hd ho hp (own_ctL_y q) (h1 q)) (fun q => own_ifN X hx hby hd hp2 (own_ctL_n q) (h2 q))
theorem own_ifnullY (X : Stand p l e R s m args below meth c T locs cells slots) (hx : p.tables.exec = Jvm.exec) (hby : c.code = bs) {o : Int} (hd : decode bs pc = .ok (.ifnull o, 3)) (ho : 0 ≤ (pc : Int) + o) (hp : ((pc : Int) + o).toNat = pc') (h : own_End p e below F (T.setTop (mkF m pc' Ls st))) : own_End p e below F (T.setTop (mkF m pc Ls (.null :: st))) :=
  own_step (fun t k => XS.ifnullYes X.here hx rfl (pc0 := pc) (pc' := pc') rfl (hb hby hd) rfl ho hp k) h
theorem own_ifnullN (X : Stand p l e R s m args below meth c T locs cells slots) (hx : p.tables.exec = Jvm.exec) (hby : c.code = bs) {o : Int} {b : Addr} (hd : decode bs pc = .ok (.ifnull o, 3)) (hp : pc + 3 = pc') (h : own_End p e below F (T.setTop (mkF m pc' Ls st))) : own_End p e below F (T.setTop (mkF m pc Ls (.ref b :: st))) := by
  subst hp; exact own_step (fun t k => XS.ifnullNo X.here hx rfl (hb hby hd) rfl k) h
theorem own_ifnonnullY (X : Stand p l e R s m args below meth c T locs cells slots) (hx : p.tables.exec = Jvm.exec) (hby : c.code = bs) {o : Int} {b : Addr} (hd : decode bs pc = .ok (.ifnonnull o, 3)) (ho : 0 ≤ (pc : Int) + o) (hp : ((pc : Int) + o).toNat = pc') (h : own_End p e below F (T.setTop (mkF m pc' Ls st))) : own_End p e below F (T.setTop (mkF m pc Ls (.ref b :: st))) :=
  own_step (fun t k => XS.ifnonnullYes X.here hx rfl (pc0 := pc) (pc' := pc') rfl (hb hby hd) rfl ho hp k) h
theorem own_ifnonnullN (X : Stand p l e R s m args below meth c T locs cells slots) (hx : p.tables.exec = Jvm.exec) (hby : c.code = bs) {o : Int} (hd : decode bs pc = .ok (.ifnonnull o, 3)) (hp : pc + 3 = pc') (h : own_End p e below F (T.setTop (mkF m pc' Ls st))) : own_End p e below F (T.setTop (mkF m pc Ls (.null :: st))) := by
  subst hp; exact own_step (fun t k => XS.ifnonnullNo X.here hx rfl (hb hby hd) rfl k) h
theorem own_acmp (X : Stand p l e R s m args below meth c T locs cells slots) (hx : p.tables.exec = Jvm.exec) (hby : c.code = bs) {cd : ACond} {x y : Value} {o : Int} {same : Bool} (hd : decode bs pc = .ok (.if_acmp cd o, 3)) (h1 : x.isRef = true) (h2 : y.isRef = true) (hq : decide (x = y) = same) (ho : 0 ≤ (pc : Int) + o) (hp : pc' = if acV cd same = true then ((pc : Int) + o).toNat else pc + 3) (h : own_End p e below F (T.setTop (mkF m pc' Ls st))) : own_End p e below F (T.setTop (mkF m pc Ls (y :: x :: st))) :=
  own_step (fun t k => Jvm.RoadKit.acmp (g := mkF m pc Ls (y :: x :: st)) X hx rfl h1 h2 (pc0 := pc) (pc' := pc') (same := same) rfl (hb hby hd) rfl hq ho hp k) h
end Plain
section Words
variable {Z : State} {a0 : Array Value}
theorem own_ldcInt (X : Stand p l e R s m args below meth c T locs cells slots) (hx : p.tables.exec = Jvm.exec) (hZ : Z.Warmed39 s.vm) (hby : c.code = bs) {own : String} {index : Nat} {v : Int32} (hown : s.vm.findClass own = some m.cls) (w : (Cond.constant own index v).before a0 Z = true) (hd : decode bs pc = .ok (.ldc index, 2)) (hp : pc + 2 = pc') (h : own_End p e below F (T.setTop (mkF m pc' Ls (.int v :: st)))) : own_End p e below F (T.setTop (mkF m pc Ls st)) := by
  subst hp; exact own_step (X.ldcInt hx hown (mvT hZ w) (g := mkF m pc Ls st) rfl (hb hby hd)) h
theorem own_ldc2Long (X : Stand p l e R s m args below meth c T locs cells slots) (hx : p.tables.exec = Jvm.exec) (hZ : Z.Warmed39 s.vm) (hby : c.code = bs) {own : String} {index : Nat} {v : Int64} (hown : s.vm.findClass own = some m.cls) (w : (Cond.constantLong own index v).before a0 Z = true) (hd : decode bs pc = .ok (.ldc2_w index, 3)) (hp : pc + 3 = pc') (h : own_End p e below F (T.setTop (mkF m pc' Ls (.long v :: st)))) : own_End p e below F (T.setTop (mkF m pc Ls st)) := by
  subst hp; exact own_step (X.ldc2Long hx hown (mvT hZ w) (g := mkF m pc Ls st) rfl (hb hby hd)) h
end Words
section Heap
variable {Z : State} {a0 : Array Value} {h : Heap}
theorem own_getF (X : Stand p l e R s m args below meth c T locs cells slots) (hx : p.tables.exec = Jvm.exec) (hZ : Z.Warmed39 s.vm) (hby : c.code = bs) {own R0 O n d host : String} {index : Nat} {a : Addr} {v : Value} (hown : s.vm.findClass own = some m.cls) (w : (Cond.fieldLink own index R0 n d).before a0 Z = true ∨ (Cond.fieldLinkNest own index R0 n d host).before a0 Z = true) (via : Via Z R0 O n d) (eT : T.heap = h) (Fd : Fld Z h a O n d v) (hd : decode bs pc = .ok (.getfield index, 3)) (hp : pc + 3 = pc')
    (k : ∀ T', Stand p l e R s m args below meth c T' locs cells slots → T'.heap = h → own_End p e below F (T'.setTop (mkF m pc' Ls (v :: st)))) : own_End p e below F (T.setTop (mkF m pc Ls (.ref a :: st))) := by
  subst hp
  obtain ⟨T', X', e', stp⟩ := getF X hx hZ hown w via eT Fd (g := mkF m pc Ls (.ref a :: st)) rfl rfl (hb hby hd)
  exact own_step stp (k T' X' e')
theorem own_getS (X : Stand p l e R s m args below meth c T locs cells slots) (hx : p.tables.exec = Jvm.exec) (hZ : Z.Warmed39 s.vm) (hby : c.code = bs) {own R0 O n d host : String} {index : Nat} {v : Value} (hown : s.vm.findClass own = some m.cls) (w : (Cond.fieldLink own index R0 n d).before a0 Z = true ∨ (Cond.fieldLinkNest own index R0 n d host).before a0 Z = true) (via : Via Z R0 O n d) (eT : T.heap = h) (Fd : Sta Z h O n d v) (hd : decode bs pc = .ok (.getstatic index, 3)) (hp : pc + 3 = pc')
    (k : ∀ T', Stand p l e R s m args below meth c T' locs cells slots → T'.heap = h → own_End p e below F (T'.setTop (mkF m pc' Ls (v :: st)))) : own_End p e below F (T.setTop (mkF m pc Ls st)) := by
  subst hp
  obtain ⟨T', X', e', stp⟩ := getS2 X hx hZ hown w via eT Fd (g := mkF m pc Ls st) rfl (hb hby hd)
  exact own_step stp (k T' X' e')
theorem own_putF (X : Stand p l e R s m args below meth c T locs cells slots) (hx : p.tables.exec = Jvm.exec) (hZ : Z.Warmed39 s.vm) (hby : c.code = bs) {own R0 O n d host C : String} {index kk : Nat} {ty : FieldType} {a : Addr} {v old : Value} (hown : s.vm.findClass own = some m.cls) (w : (Cond.fieldLink own index R0 n d).before a0 Z = true ∨ (Cond.fieldLinkNest own index R0 n d host).before a0 Z = true) (via : Via Z R0 O n d) (eT : T.heap = h) (Fd : Fld Z h a O n d old) (E : Exa Z h a C)
    (La : (Cond.lays C O n d).before a0 Z = true ∨ ((Cond.laysFinal C O n d).before a0 Z = true ∧ own = O ∧ meth.name = "<init>")) (wi : (Cond.instantiable C kk).before a0 Z = true) (hty : parseFieldDescriptor d = some ty) (hn : narrow ty v = v) (hf : fits ty v = true) (hd : decode bs pc = .ok (.putfield index, 3)) (hp : pc + 3 = pc')
    (k : ∀ T' h', Stand p l e R s m args below meth c T' (locs ++ [⟨a, Jvm.RoadKit.slotOf Z O n d⟩]) cells slots → T'.heap = h' → Wr h h' a (Jvm.RoadKit.slotOf Z O n d) v → own_End p e below F (T'.setTop (mkF m pc' Ls st))) : own_End p e below F (T.setTop (mkF m pc Ls (v :: .ref a :: st))) := by
  subst hp
  obtain ⟨T', h', X', e', W', stp⟩ := putF X hx hZ hown w via eT Fd E La wi hty hn hf (g := mkF m pc Ls (v :: .ref a :: st)) rfl rfl (hb hby hd)
  exact own_step stp (k T' h' X' e' W')
theorem own_putN (X : Stand p l e R s m args below meth c T locs cells slots) (hx : p.tables.exec = Jvm.exec) (hZ : Z.Warmed39 s.vm) (hby : c.code = bs) {own R0 O n d C : String} {index kk : Nat} {ty : FieldType} {a : Addr} {v v' old : Value} (hown : s.vm.findClass own = some m.cls) (w : (Cond.fieldLink own index R0 n d).before a0 Z = true) (via : Via Z R0 O n d) (eT : T.heap = h) (Fd : Fld Z h a O n d old) (E : Exa Z h a C)
    (La : (Cond.lays C O n d).before a0 Z = true ∨ ((Cond.laysFinal C O n d).before a0 Z = true ∧ own = O ∧ meth.name = "<init>")) (wi : (Cond.instantiable C kk).before a0 Z = true) (hty : parseFieldDescriptor d = some ty) (hn : narrow ty v = v') (hf : fits ty v' = true) (hd : decode bs pc = .ok (.putfield index, 3)) (hp : pc + 3 = pc')
    (k : ∀ T' h', Stand p l e R s m args below meth c T' (locs ++ [⟨a, Jvm.RoadKit.slotOf Z O n d⟩]) cells slots → T'.heap = h' → Wr h h' a (Jvm.RoadKit.slotOf Z O n d) v' → own_End p e below F (T'.setTop (mkF m pc' Ls st))) : own_End p e below F (T.setTop (mkF m pc Ls (v :: .ref a :: st))) := by
  subst hp
  obtain ⟨T', h', X', e', W', stp⟩ := putFN X hx hZ hown w via eT Fd E La wi hty hn hf (g := mkF m pc Ls (v :: .ref a :: st)) rfl rfl (hb hby hd)
  exact own_step stp (k T' h' X' e' W')
theorem own_new (X : Stand p l e R s m args below meth c T locs cells slots) (hx : p.tables.exec = Jvm.exec) (hZ : Z.Warmed39 s.vm) (hby : c.code = bs) {own C : String} {index n : Nat} (hown : s.vm.findClass own = some m.cls) (w : (Cond.classLink own index C).before a0 Z = true) (wi : (Cond.instantiable C n).before a0 Z = true) (wz : (Cond.initialized C).before a0 Z = true) (eT : T.heap = h) (hd : decode bs pc = .ok (.new index, 3)) (hp : pc + 3 = pc') (hc : cells + 1 ≤ R.cells) (hl : slots + n ≤ R.slots)
    (k : ∀ T' h' (b : Addr), b = h.size → Stand p l e R s m args below meth c T' locs (cells + 1) (slots + n) → T'.heap = h' → Ext h h' → Exa Z h' b C → (∀ {O nm d : String} {ty : FieldType}, Laid Z a0 C O nm d → parseFieldDescriptor d = some ty → Fld Z h' b O nm d (defaultValue ty)) → own_End p e below F (T'.setTop (mkF m pc' Ls (.ref b :: st)))) : own_End p e below F (T.setTop (mkF m pc Ls st)) := by
  subst hp
  obtain ⟨T', h', X', e', E', A', D', -, stp⟩ := newO X hx hZ hown w wi wz eT (g := mkF m pc Ls st) rfl (hb hby hd) hc hl
  exact own_step stp (k T' h' h.size rfl X' e' E' A' D')
theorem own_newP (X : Stand p l e R s m args below meth c T locs cells slots) (hx : p.tables.exec = Jvm.exec) (hZ : Z.Warmed39 s.vm) (hby : c.code = bs) {aty : ArrayType} {n : Int32} {cap : Nat} (w : (Cond.arrayClass (newarray.typeOf aty)).before a0 Z = true) (eT : T.heap = h) (hd : decode bs pc = .ok (.newarray aty, 2)) (hp : pc + 2 = pc') (hn : ¬ n < 0) (hcap : n.toNatClampNeg ≤ cap) (hb' : cap * 8 ≤ 536870912) (hc : cells + 1 ≤ R.cells) (hl : slots + cap ≤ R.slots)
    (k : ∀ T' h' cA (b : Addr), b = h.size → Stand p l e R s m args below meth c T' locs (cells + 1) (slots + cap) → T'.heap = h' → Ext h h' → Arr Z h' b (newA cA (newarray.typeOf aty) n) (newarray.typeOf aty) → own_End p e below F (T'.setTop (mkF m pc' Ls (.ref b :: st)))) : own_End p e below F (T.setTop (mkF m pc Ls (.int n :: st))) := by
  subst hp
  obtain ⟨T', h', cA, X', e', E', A', stp⟩ := newP X hx hZ w eT (g := mkF m pc Ls (.int n :: st)) rfl (hb hby hd) rfl hn hcap hb' hc hl
  exact own_step stp (k T' h' cA h.size rfl X' e' E' A')
theorem own_newPE (X : Stand p l e R s m args below meth c T locs cells slots) (hx : p.tables.exec = Jvm.exec) (hZ : Z.Warmed39 s.vm) (hby : c.code = bs) {aty : ArrayType} {n : Int32} {cap : Nat} {ad : String} (had : "[" ++ (newarray.typeOf aty).toString = ad) (w : (Cond.arrayClass (newarray.typeOf aty)).before a0 Z = true) (eT : T.heap = h) (hd : decode bs pc = .ok (.newarray aty, 2)) (hp : pc + 2 = pc') (hn : ¬ n < 0) (hcap : n.toNatClampNeg ≤ cap) (hb' : cap * 8 ≤ 536870912) (hc : cells + 1 ≤ R.cells) (hl : slots + cap ≤ R.slots)
    (k : ∀ T' h' cA (b : Addr), b = h.size → Stand p l e R s m args below meth c T' locs (cells + 1) (slots + cap) → T'.heap = h' → Ext h h' → Arr Z h' b (newA cA (newarray.typeOf aty) n) (newarray.typeOf aty) → Exa Z h' b ad → own_End p e below F (T'.setTop (mkF m pc' Ls (.ref b :: st)))) : own_End p e below F (T.setTop (mkF m pc Ls (.int n :: st))) := by
  subst hp
  obtain ⟨T', h', cA, X', e', E', A', Ex', stp⟩ := newPE X hx hZ w eT (g := mkF m pc Ls (.int n :: st)) rfl (hb hby hd) rfl hn hcap hb' hc hl had
  exact own_step stp (k T' h' cA h.size rfl X' e' E' A' Ex')
theorem own_newR (X : Stand p l e R s m args below meth c T locs cells slots) (hx : p.tables.exec = Jvm.exec) (hZ : Z.Warmed39 s.vm) (hby : c.code = bs) {own C : String} {index : Nat} {n : Int32} {cap : Nat} (hown : s.vm.findClass own = some m.cls) (w1 : (Cond.classLink own index C).before a0 Z = true) (w2 : (Cond.arrayOver (.object C)).before a0 Z = true) (eT : T.heap = h) (hd : decode bs pc = .ok (.anewarray index, 3)) (hp : pc + 3 = pc') (hn : ¬ n < 0) (hcap : n.toNatClampNeg ≤ cap) (hb' : cap * 8 ≤ 536870912) (hc : cells + 1 ≤ R.cells) (hl : slots + cap ≤ R.slots)
    (k : ∀ T' h' cA (b : Addr), b = h.size → Stand p l e R s m args below meth c T' locs (cells + 1) (slots + cap) → T'.heap = h' → Ext h h' → Arr Z h' b (newA cA (.object C) n) (.object C) → Ovr Z cA C → own_End p e below F (T'.setTop (mkF m pc' Ls (.ref b :: st)))) : own_End p e below F (T.setTop (mkF m pc Ls (.int n :: st))) := by
  subst hp
  obtain ⟨T', h', cA, X', e', E', A', O', stp⟩ := newR X hx hZ hown w1 w2 eT (g := mkF m pc Ls (.int n :: st)) rfl (hb hby hd) rfl hn hcap hb' hc hl
  exact own_step stp (k T' h' cA h.size rfl X' e' E' A' O')
theorem own_iastore (X : Stand p l e R s m args below meth c T locs cells slots) (hx : p.tables.exec = Jvm.exec) (hZ : Z.Warmed39 s.vm) (hby : c.code = bs) {a : Addr} {cl : Cell} (eT : T.heap = h) (A : Arr Z h a cl .int) {j : Int32} {x : Int32} (hj : ¬ (j < 0 ∨ cl.slots.size ≤ j.toNatClampNeg)) (hd : decode bs pc = .ok (.iastore, 1)) (hp : pc + 1 = pc')
    (k : ∀ T' h', Stand p l e R s m args below meth c T' (locs ++ [⟨a, j.toNatClampNeg⟩]) cells slots → T'.heap = h' → Wr h h' a j.toNatClampNeg (.int x) → own_End p e below F (T'.setTop (mkF m pc' Ls st))) : own_End p e below F (T.setTop (mkF m pc Ls (.int x :: .int j :: .ref a :: st))) := by
  subst hp
  obtain ⟨T', h', X', e', W', stp⟩ := stI X hx hZ eT A hj (g := mkF m pc Ls (.int x :: .int j :: .ref a :: st)) rfl rfl (hb hby hd)
  exact own_step stp (k T' h' X' e' W')
theorem own_lastore (X : Stand p l e R s m args below meth c T locs cells slots) (hx : p.tables.exec = Jvm.exec) (hZ : Z.Warmed39 s.vm) (hby : c.code = bs) {a : Addr} {cl : Cell} (eT : T.heap = h) (A : Arr Z h a cl .long) {j : Int32} {x : Int64} (hj : ¬ (j < 0 ∨ cl.slots.size ≤ j.toNatClampNeg)) (hd : decode bs pc = .ok (.lastore, 1)) (hp : pc + 1 = pc')
    (k : ∀ T' h', Stand p l e R s m args below meth c T' (locs ++ [⟨a, j.toNatClampNeg⟩]) cells slots → T'.heap = h' → Wr h h' a j.toNatClampNeg (.long x) → own_End p e below F (T'.setTop (mkF m pc' Ls st))) : own_End p e below F (T.setTop (mkF m pc Ls (.long x :: .int j :: .ref a :: st))) := by
  subst hp
  obtain ⟨T', h', X', e', W', stp⟩ := stJ X hx hZ eT A hj (g := mkF m pc Ls (.long x :: .int j :: .ref a :: st)) rfl rfl (hb hby hd)
  exact own_step stp (k T' h' X' e' W')
theorem own_castore (X : Stand p l e R s m args below meth c T locs cells slots) (hx : p.tables.exec = Jvm.exec) (hZ : Z.Warmed39 s.vm) (hby : c.code = bs) {a : Addr} {cl : Cell} (eT : T.heap = h) (A : Arr Z h a cl .char) {j : Int32} {x : Int32} (hj : ¬ (j < 0 ∨ cl.slots.size ≤ j.toNatClampNeg)) (hd : decode bs pc = .ok (.castore, 1)) (hp : pc + 1 = pc')
    (k : ∀ T' h', Stand p l e R s m args below meth c T' (locs ++ [⟨a, j.toNatClampNeg⟩]) cells slots → T'.heap = h' → Wr h h' a j.toNatClampNeg (.int (nar .char x)) → own_End p e below F (T'.setTop (mkF m pc' Ls st))) : own_End p e below F (T.setTop (mkF m pc Ls (.int x :: .int j :: .ref a :: st))) := by
  subst hp
  obtain ⟨T', h', X', e', W', stp⟩ := stC X hx hZ eT A hj (g := mkF m pc Ls (.int x :: .int j :: .ref a :: st)) rfl rfl (hb hby hd)
  exact own_step stp (k T' h' X' e' W')
theorem own_bastore (X : Stand p l e R s m args below meth c T locs cells slots) (hx : p.tables.exec = Jvm.exec) (hZ : Z.Warmed39 s.vm) (hby : c.code = bs) {a : Addr} {cl : Cell} (eT : T.heap = h) (A : Arr Z h a cl .byte) {j : Int32} {x : Int32} (hj : ¬ (j < 0 ∨ cl.slots.size ≤ j.toNatClampNeg)) (hd : decode bs pc = .ok (.bastore, 1)) (hp : pc + 1 = pc')
    (k : ∀ T' h', Stand p l e R s m args below meth c T' (locs ++ [⟨a, j.toNatClampNeg⟩]) cells slots → T'.heap = h' → Wr h h' a j.toNatClampNeg (.int (nar .byte x)) → own_End p e below F (T'.setTop (mkF m pc' Ls st))) : own_End p e below F (T.setTop (mkF m pc Ls (.int x :: .int j :: .ref a :: st))) := by
  subst hp
  obtain ⟨T', h', X', e', W', stp⟩ := stB X hx hZ eT A hj (g := mkF m pc Ls (.int x :: .int j :: .ref a :: st)) rfl rfl (hb hby hd)
  exact own_step stp (k T' h' X' e' W')
theorem own_stR (X : Stand p l e R s m args below meth c T locs cells slots) (hx : p.tables.exec = Jvm.exec) (hZ : Z.Warmed39 s.vm) (hby : c.code = bs) {a : Addr} {cl : Cell} {ty : FieldType} (eT : T.heap = h) (A : Arr Z h a cl ty) {j : Int32} {v : Value} (hj : ¬ (j < 0 ∨ cl.slots.size ≤ j.toNatClampNeg)) (hty : ty.isReference = true) (S : Sto Z h a v) (hd : decode bs pc = .ok (.aastore, 1)) (hp : pc + 1 = pc')
    (k : ∀ T' h', Stand p l e R s m args below meth c T' (locs ++ [⟨a, j.toNatClampNeg⟩]) cells slots → T'.heap = h' → Wr h h' a j.toNatClampNeg v → own_End p e below F (T'.setTop (mkF m pc' Ls st))) : own_End p e below F (T.setTop (mkF m pc Ls (v :: .int j :: .ref a :: st))) := by
  subst hp
  obtain ⟨T', h', X', e', W', stp⟩ := stR X hx hZ eT A hj hty S (g := mkF m pc Ls (v :: .int j :: .ref a :: st)) rfl rfl (hb hby hd)
  exact own_step stp (k T' h' X' e' W')
theorem own_iaload (X : Stand p l e R s m args below meth c T locs cells slots) (hx : p.tables.exec = Jvm.exec) (hZ : Z.Warmed39 s.vm) (hby : c.code = bs) {a : Addr} {cl : Cell} (eT : T.heap = h) (A : Arr Z h a cl .int) {j : Int32} {v : Value} (hj : ¬ (j < 0 ∨ cl.slots.size ≤ j.toNatClampNeg)) (hv : cl.slots[j.toNatClampNeg]? = some v) (hd : decode bs pc = .ok (.iaload, 1)) (hp : pc + 1 = pc') (k : own_End p e below F (T.setTop (mkF m pc' Ls (v :: st)))) : own_End p e below F (T.setTop (mkF m pc Ls (.int j :: .ref a :: st))) := by
  subst hp
  exact own_step (fun t q => X.iaload hx (j := j) (v := v) (by rw [eT]; exact A.1) (State.isArrayOf_alike hZ.alike A.2.1) A.2.2 hj hv (g := mkF m pc Ls (.int j :: .ref a :: st)) rfl rfl (hb hby hd) _ q) k
theorem own_laload (X : Stand p l e R s m args below meth c T locs cells slots) (hx : p.tables.exec = Jvm.exec) (hZ : Z.Warmed39 s.vm) (hby : c.code = bs) {a : Addr} {cl : Cell} (eT : T.heap = h) (A : Arr Z h a cl .long) {j : Int32} {v : Value} (hj : ¬ (j < 0 ∨ cl.slots.size ≤ j.toNatClampNeg)) (hv : cl.slots[j.toNatClampNeg]? = some v) (hd : decode bs pc = .ok (.laload, 1)) (hp : pc + 1 = pc') (k : own_End p e below F (T.setTop (mkF m pc' Ls (v :: st)))) : own_End p e below F (T.setTop (mkF m pc Ls (.int j :: .ref a :: st))) := by
  subst hp
  exact own_step (fun t q => X.laload hx (j := j) (v := v) (by rw [eT]; exact A.1) (State.isArrayOf_alike hZ.alike A.2.1) A.2.2 hj hv (g := mkF m pc Ls (.int j :: .ref a :: st)) rfl rfl (hb hby hd) _ q) k
theorem own_caload (X : Stand p l e R s m args below meth c T locs cells slots) (hx : p.tables.exec = Jvm.exec) (hZ : Z.Warmed39 s.vm) (hby : c.code = bs) {a : Addr} {cl : Cell} (eT : T.heap = h) (A : Arr Z h a cl .char) {j : Int32} {v : Value} (hj : ¬ (j < 0 ∨ cl.slots.size ≤ j.toNatClampNeg)) (hv : cl.slots[j.toNatClampNeg]? = some v) (hd : decode bs pc = .ok (.caload, 1)) (hp : pc + 1 = pc') (k : own_End p e below F (T.setTop (mkF m pc' Ls (v :: st)))) : own_End p e below F (T.setTop (mkF m pc Ls (.int j :: .ref a :: st))) := by
  subst hp
  exact own_step (fun t q => X.caload hx (j := j) (v := v) (by rw [eT]; exact A.1) (State.isArrayOf_alike hZ.alike A.2.1) A.2.2 hj hv (g := mkF m pc Ls (.int j :: .ref a :: st)) rfl rfl (hb hby hd) _ q) k
theorem own_baload (X : Stand p l e R s m args below meth c T locs cells slots) (hx : p.tables.exec = Jvm.exec) (hZ : Z.Warmed39 s.vm) (hby : c.code = bs) {a : Addr} {cl : Cell} (eT : T.heap = h) (A : Arr Z h a cl .byte) {j : Int32} {v : Value} (hj : ¬ (j < 0 ∨ cl.slots.size ≤ j.toNatClampNeg)) (hv : cl.slots[j.toNatClampNeg]? = some v) (hd : decode bs pc = .ok (.baload, 1)) (hp : pc + 1 = pc') (k : own_End p e below F (T.setTop (mkF m pc' Ls (v :: st)))) : own_End p e below F (T.setTop (mkF m pc Ls (.int j :: .ref a :: st))) := by
  subst hp
  exact own_step (fun t q => X.baloadBytes hx (j := j) (v := v) (by rw [eT]; exact A.1) (State.isArrayOf_alike hZ.alike A.2.1) A.2.2 hj hv (g := mkF m pc Ls (.int j :: .ref a :: st)) rfl rfl (hb hby hd) _ q) k
theorem own_aaload (X : Stand p l e R s m args below meth c T locs cells slots) (hx : p.tables.exec = Jvm.exec) (hZ : Z.Warmed39 s.vm) (hby : c.code = bs) {a : Addr} {cl : Cell} {ty : FieldType} (eT : T.heap = h) (A : Arr Z h a cl ty) (hty : ty.isReference = true) {j : Int32} {v : Value} (hj : ¬ (j < 0 ∨ cl.slots.size ≤ j.toNatClampNeg)) (hv : cl.slots[j.toNatClampNeg]? = some v) (hd : decode bs pc = .ok (.aaload, 1)) (hp : pc + 1 = pc') (k : own_End p e below F (T.setTop (mkF m pc' Ls (v :: st)))) : own_End p e below F (T.setTop (mkF m pc Ls (.int j :: .ref a :: st))) := by
  subst hp
  exact own_step (fun t q => X.aaload hx (j := j) (v := v) (by rw [eT]; exact A.1) (State.isArrayOf_alike hZ.alike A.2.1) hty A.2.2 hj hv (g := mkF m pc Ls (.int j :: .ref a :: st)) rfl rfl (hb hby hd) _ q) k
theorem own_alen (X : Stand p l e R s m args below meth c T locs cells slots) (hx : p.tables.exec = Jvm.exec) (hZ : Z.Warmed39 s.vm) (hby : c.code = bs) {a : Addr} {cl : Cell} {ty : FieldType} {z : Int32} (eT : T.heap = h) (A : Arr Z h a cl ty) (S : cl.slots.size = z.toNatClampNeg) (M : ¬ z < 0) (hd : decode bs pc = .ok (.arraylength, 1)) (hp : pc + 1 = pc') (k : own_End p e below F (T.setTop (mkF m pc' Ls (.int z :: st)))) : own_End p e below F (T.setTop (mkF m pc Ls (.ref a :: st))) := by
  subst hp
  have hl := len_of S M
  exact own_step (fun t q => X.arraylength hx (by rw [eT]; exact A.1) (State.isArrayOf_alike hZ.alike A.2.1) (g := mkF m pc Ls (.ref a :: st)) rfl rfl (hb hby hd) _ (by rw [hl]; exact q)) k
theorem own_init (X : Stand p l e R s m args below meth c T locs cells slots) (hx : p.tables.exec = Jvm.exec) (hZ : Z.Warmed39 s.vm) (hby : c.code = bs) {own : String} {index : Nat} {a : Addr} {W : Nat} (hown : s.vm.findClass own = some m.cls) (w1 : (Cond.methodLink own index Lib.objectInit).before a0 Z = true) (w2 : (Cond.instanceMethod Lib.objectInit).before a0 Z = true) (w3 : (Cond.code Lib.objectInit ⟨#[0xb1]⟩ 1 none).before a0 Z = true) (eT : T.heap = h) (hsz : Ls.size = c.maxLocals) (hd : decode bs pc = .ok (.invokespecial index, 3)) (hp : pc + 3 = pc') (hf : 1 ≤ R.frames) (hW : (st.map fun v => v.category).sum ≤ W) (hl : W + 12 ≤ R.locals)
    (k : ∀ T', Stand p l e R s m args below meth c T' locs cells slots → T'.heap = h → own_End p e below F (T'.setTop (mkF m pc' Ls st))) : own_End p e below F (T.setTop (mkF m pc Ls (.ref a :: st))) := by
  subst hp
  obtain ⟨T', X', e', stp⟩ := initO X hx hZ hown w1 w2 w3 eT (g := mkF m pc Ls (.ref a :: st)) rfl hsz rfl (hb hby hd) hf (W := W) (by show 2 * 0 + _ ≤ _; omega) hl
  exact own_step stp (k T' X' e')
theorem own_cast (X : Stand p l e R s m args below meth c T locs cells slots) (hx : p.tables.exec = Jvm.exec) (hZ : Z.Warmed39 s.vm) (hby : c.code = bs) {own K : String} {index : Nat} {a : Addr} (hown : s.vm.findClass own = some m.cls) (w : (Cond.classLink own index K).before a0 Z = true) (eT : T.heap = h) (I : Ins Z h a K true) (hd : decode bs pc = .ok (.checkcast index, 3)) (hp : pc + 3 = pc')
    (k : ∀ T', Stand p l e R s m args below meth c T' locs cells slots → T'.heap = h → own_End p e below F (T'.setTop (mkF m pc' Ls (.ref a :: st)))) : own_End p e below F (T.setTop (mkF m pc Ls (.ref a :: st))) := by
  subst hp
  obtain ⟨T', X', e', stp⟩ := castY X hx hZ hown w eT I (g := mkF m pc Ls (.ref a :: st)) rfl rfl (hb hby hd)
  exact own_step stp (k T' X' e')
theorem own_inst (X : Stand p l e R s m args below meth c T locs cells slots) (hx : p.tables.exec = Jvm.exec) (hZ : Z.Warmed39 s.vm) (hby : c.code = bs) {own K : String} {index : Nat} {a : Addr} (hown : s.vm.findClass own = some m.cls) (w : (Cond.classLink own index K).before a0 Z = true) (eT : T.heap = h) (I : Ins Z h a K true) (hd : decode bs pc = .ok (.instanceof index, 3)) (hp : pc + 3 = pc')
    (k : ∀ T', Stand p l e R s m args below meth c T' locs cells slots → T'.heap = h → own_End p e below F (T'.setTop (mkF m pc' Ls (.int 1 :: st)))) : own_End p e below F (T.setTop (mkF m pc Ls (.ref a :: st))) := by
  subst hp
  obtain ⟨T', X', e', stp⟩ := instY X hx hZ hown w eT I (g := mkF m pc Ls (.ref a :: st)) rfl rfl (hb hby hd)
  exact own_step stp (k T' X' e')
theorem own_instNull (X : Stand p l e R s m args below meth c T locs cells slots) (hx : p.tables.exec = Jvm.exec) (hby : c.code = bs) {index : Nat} (hd : decode bs pc = .ok (.instanceof index, 3)) (hp : pc + 3 = pc') (k : own_End p e below F (T.setTop (mkF m pc' Ls (.int 0 :: st)))) : own_End p e below F (T.setTop (mkF m pc Ls (.null :: st))) := by
  subst hp
  exact own_step (fun t q => X.instanceofNull hx (g := mkF m pc Ls (.null :: st)) rfl rfl (hb hby hd) _ q) k
end Heap
end OwnKit

theorem wd_0 {a0 : Array Value} {Z : State} (hw : ∀ d ∈ tables_1, d.before a0 Z = true) : (Jvm.Cond.constant "com/example/inflight/inflight/protocol/FrameHeaderEqualsPinLaw" (7 : Nat) (2147483647 : Int32)).before a0 Z = true := hw _ (List.mem_of_getElem? (i := 0) rfl)
theorem wd_1 {a0 : Array Value} {Z : State} (hw : ∀ d ∈ tables_1, d.before a0 Z = true) : (Jvm.Cond.constant "com/example/inflight/inflight/protocol/FrameHeaderEqualsPinLaw" (10 : Nat) (33554433 : Int32)).before a0 Z = true := hw _ (List.mem_of_getElem? (i := 1) rfl)
theorem wd_2 {a0 : Array Value} {Z : State} (hw : ∀ d ∈ tables_1, d.before a0 Z = true) : (Jvm.Cond.classLink "com/example/inflight/inflight/protocol/FrameHeaderEqualsPinLaw" (8 : Nat) "com/example/inflight/inflight/protocol/FrameHeader").before a0 Z = true := hw _ (List.mem_of_getElem? (i := 2) rfl)
theorem wd_3 {a0 : Array Value} {Z : State} (hw : ∀ d ∈ tables_1, d.before a0 Z = true) : (Jvm.Cond.instantiable "com/example/inflight/inflight/protocol/FrameHeader" (3 : Nat)).before a0 Z = true := hw _ (List.mem_of_getElem? (i := 3) rfl)
theorem wd_4 {a0 : Array Value} {Z : State} (hw : ∀ d ∈ tables_1, d.before a0 Z = true) : (Jvm.Cond.initialized "com/example/inflight/inflight/protocol/FrameHeader").before a0 Z = true := hw _ (List.mem_of_getElem? (i := 4) rfl)
theorem wd_5 {a0 : Array Value} {Z : State} (hw : ∀ d ∈ tables_1, d.before a0 Z = true) : (Jvm.Cond.methodLink "com/example/inflight/inflight/protocol/FrameHeaderEqualsPinLaw" (11 : Nat) ({ cls := "com/example/inflight/inflight/protocol/FrameHeader", name := "<init>", desc := "(III)V" } : Jvm.MethodName)).before a0 Z = true := hw _ (List.mem_of_getElem? (i := 5) rfl)
theorem wd_6 {a0 : Array Value} {Z : State} (hw : ∀ d ∈ tables_1, d.before a0 Z = true) : (Jvm.Cond.instanceMethod ({ cls := "com/example/inflight/inflight/protocol/FrameHeader", name := "<init>", desc := "(III)V" } : Jvm.MethodName)).before a0 Z = true := hw _ (List.mem_of_getElem? (i := 6) rfl)
theorem wd_7 {a0 : Array Value} {Z : State} (hw : ∀ d ∈ tables_1, d.before a0 Z = true) : (Jvm.Cond.code ({ cls := "com/example/inflight/inflight/protocol/FrameHeader", name := "<init>", desc := "(III)V" } : Jvm.MethodName) prog_84_method_1_code (4 : Nat) (Option.none : Option Jvm.ClassFile.FieldType)).before a0 Z = true := hw _ (List.mem_of_getElem? (i := 7) rfl)
theorem wd_8 {a0 : Array Value} {Z : State} (hw : ∀ d ∈ tables_1, d.before a0 Z = true) : (Jvm.Cond.methodLink "com/example/inflight/inflight/protocol/FrameHeader" (1 : Nat) ({ cls := "java/lang/Object", name := "<init>", desc := "()V" } : Jvm.MethodName)).before a0 Z = true := hw _ (List.mem_of_getElem? (i := 8) rfl)
theorem wd_9 {a0 : Array Value} {Z : State} (hw : ∀ d ∈ tables_1, d.before a0 Z = true) : (Jvm.Cond.instanceMethod ({ cls := "java/lang/Object", name := "<init>", desc := "()V" } : Jvm.MethodName)).before a0 Z = true := hw _ (List.mem_of_getElem? (i := 9) rfl)
theorem wd_10 {a0 : Array Value} {Z : State} (hw : ∀ d ∈ tables_1, d.before a0 Z = true) : (Jvm.Cond.code ({ cls := "java/lang/Object", name := "<init>", desc := "()V" } : Jvm.MethodName) object_method_1_code (1 : Nat) (Option.none : Option Jvm.ClassFile.FieldType)).before a0 Z = true := hw _ (List.mem_of_getElem? (i := 10) rfl)
theorem wd_11 {a0 : Array Value} {Z : State} (hw : ∀ d ∈ tables_1, d.before a0 Z = true) : (Jvm.Cond.constant "com/example/inflight/inflight/protocol/FrameHeader" (19 : Nat) (33554432 : Int32)).before a0 Z = true := hw _ (List.mem_of_getElem? (i := 11) rfl)
theorem wd_12 {a0 : Array Value} {Z : State} (hw : ∀ d ∈ tables_1, d.before a0 Z = true) : (Jvm.Cond.fieldLink "com/example/inflight/inflight/protocol/FrameHeader" (21 : Nat) "com/example/inflight/inflight/protocol/FrameHeader" "opCode" "I").before a0 Z = true := hw _ (List.mem_of_getElem? (i := 12) rfl)
theorem wd_13 {a0 : Array Value} {Z : State} (hw : ∀ d ∈ tables_1, d.before a0 Z = true) : (Jvm.Cond.laysFinal "com/example/inflight/inflight/protocol/FrameHeader" "com/example/inflight/inflight/protocol/FrameHeader" "opCode" "I").before a0 Z = true := hw _ (List.mem_of_getElem? (i := 13) rfl)
theorem wd_14 {a0 : Array Value} {Z : State} (hw : ∀ d ∈ tables_1, d.before a0 Z = true) : (Jvm.Cond.fieldLink "com/example/inflight/inflight/protocol/FrameHeader" (25 : Nat) "com/example/inflight/inflight/protocol/FrameHeader" "flags" "I").before a0 Z = true := hw _ (List.mem_of_getElem? (i := 14) rfl)
theorem wd_15 {a0 : Array Value} {Z : State} (hw : ∀ d ∈ tables_1, d.before a0 Z = true) : (Jvm.Cond.laysFinal "com/example/inflight/inflight/protocol/FrameHeader" "com/example/inflight/inflight/protocol/FrameHeader" "flags" "I").before a0 Z = true := hw _ (List.mem_of_getElem? (i := 15) rfl)
theorem wd_16 {a0 : Array Value} {Z : State} (hw : ∀ d ∈ tables_1, d.before a0 Z = true) : (Jvm.Cond.fieldLink "com/example/inflight/inflight/protocol/FrameHeader" (28 : Nat) "com/example/inflight/inflight/protocol/FrameHeader" "payloadLength" "I").before a0 Z = true := hw _ (List.mem_of_getElem? (i := 16) rfl)
theorem wd_17 {a0 : Array Value} {Z : State} (hw : ∀ d ∈ tables_1, d.before a0 Z = true) : (Jvm.Cond.laysFinal "com/example/inflight/inflight/protocol/FrameHeader" "com/example/inflight/inflight/protocol/FrameHeader" "payloadLength" "I").before a0 Z = true := hw _ (List.mem_of_getElem? (i := 17) rfl)
theorem wd_18 {a0 : Array Value} {Z : State} (hw : ∀ d ∈ tables_1, d.before a0 Z = true) : (Jvm.Cond.methodLink "com/example/inflight/inflight/protocol/FrameHeaderEqualsPinLaw" (20 : Nat) ({ cls := "com/example/inflight/inflight/protocol/FrameHeader", name := "equals", desc := "(Ljava/lang/Object;)Z" } : Jvm.MethodName)).before a0 Z = true := hw _ (List.mem_of_getElem? (i := 18) rfl)
theorem wd_19 {a0 : Array Value} {Z : State} (hw : ∀ d ∈ tables_1, d.before a0 Z = true) : (Jvm.Cond.declares ({ cls := "com/example/inflight/inflight/protocol/FrameHeader", name := "equals", desc := "(Ljava/lang/Object;)Z" } : Jvm.MethodName)).before a0 Z = true := hw _ (List.mem_of_getElem? (i := 19) rfl)
theorem wd_20 {a0 : Array Value} {Z : State} (hw : ∀ d ∈ tables_1, d.before a0 Z = true) : (Jvm.Cond.instanceMethod ({ cls := "com/example/inflight/inflight/protocol/FrameHeader", name := "equals", desc := "(Ljava/lang/Object;)Z" } : Jvm.MethodName)).before a0 Z = true := hw _ (List.mem_of_getElem? (i := 20) rfl)
theorem wd_21 {a0 : Array Value} {Z : State} (hw : ∀ d ∈ tables_1, d.before a0 Z = true) : (Jvm.Cond.selects "com/example/inflight/inflight/protocol/FrameHeader" ({ cls := "com/example/inflight/inflight/protocol/FrameHeader", name := "equals", desc := "(Ljava/lang/Object;)Z" } : Jvm.MethodName) ({ cls := "com/example/inflight/inflight/protocol/FrameHeader", name := "equals", desc := "(Ljava/lang/Object;)Z" } : Jvm.MethodName)).before a0 Z = true := hw _ (List.mem_of_getElem? (i := 21) rfl)
theorem wd_22 {a0 : Array Value} {Z : State} (hw : ∀ d ∈ tables_1, d.before a0 Z = true) : (Jvm.Cond.code ({ cls := "com/example/inflight/inflight/protocol/FrameHeader", name := "equals", desc := "(Ljava/lang/Object;)Z" } : Jvm.MethodName) prog_84_method_8_code (3 : Nat) (Option.some Jvm.ClassFile.FieldType.boolean)).before a0 Z = true := hw _ (List.mem_of_getElem? (i := 22) rfl)
theorem wd_23 {a0 : Array Value} {Z : State} (hw : ∀ d ∈ tables_1, d.before a0 Z = true) : (Jvm.Cond.classLink "com/example/inflight/inflight/protocol/FrameHeader" (17 : Nat) "com/example/inflight/inflight/protocol/FrameHeader").before a0 Z = true := hw _ (List.mem_of_getElem? (i := 23) rfl)
theorem wd_25 {a0 : Array Value} {Z : State} (hw : ∀ d ∈ tables_1, d.before a0 Z = true) : (Jvm.Cond.methodLink "com/example/inflight/inflight/protocol/FrameHeaderEqualsPinLaw" (14 : Nat) ({ cls := "java/lang/Integer", name := "valueOf", desc := "(I)Ljava/lang/Integer;" } : Jvm.MethodName)).before a0 Z = true := hw _ (List.mem_of_getElem? (i := 25) rfl)
theorem wd_26 {a0 : Array Value} {Z : State} (hw : ∀ d ∈ tables_1, d.before a0 Z = true) : (Jvm.Cond.static ({ cls := "java/lang/Integer", name := "valueOf", desc := "(I)Ljava/lang/Integer;" } : Jvm.MethodName)).before a0 Z = true := hw _ (List.mem_of_getElem? (i := 26) rfl)
theorem wd_27 {a0 : Array Value} {Z : State} (hw : ∀ d ∈ tables_1, d.before a0 Z = true) : (Jvm.Cond.initialized "java/lang/Integer").before a0 Z = true := hw _ (List.mem_of_getElem? (i := 27) rfl)
theorem wd_28 {a0 : Array Value} {Z : State} (hw : ∀ d ∈ tables_1, d.before a0 Z = true) : (Jvm.Cond.code ({ cls := "java/lang/Integer", name := "valueOf", desc := "(I)Ljava/lang/Integer;" } : Jvm.MethodName) jdk_33_method_22_code (1 : Nat) (Option.some (Jvm.ClassFile.FieldType.object "java/lang/Integer"))).before a0 Z = true := hw _ (List.mem_of_getElem? (i := 28) rfl)
theorem wd_29 {a0 : Array Value} {Z : State} (hw : ∀ d ∈ tables_1, d.before a0 Z = true) : (Jvm.Cond.fieldLink "java/lang/Integer" (191 : Nat) "java/lang/Integer$IntegerCache" "high" "I").before a0 Z = true := hw _ (List.mem_of_getElem? (i := 29) rfl)
theorem wd_30 {a0 : Array Value} {Z : State} (hw : ∀ d ∈ tables_1, d.before a0 Z = true) : (Jvm.Cond.initialized "java/lang/Integer$IntegerCache").before a0 Z = true := hw _ (List.mem_of_getElem? (i := 30) rfl)
theorem wd_31 {a0 : Array Value} {Z : State} (hw : ∀ d ∈ tables_1, d.before a0 Z = true) : (Jvm.Cond.fieldLink "java/lang/Integer" (195 : Nat) "java/lang/Integer$IntegerCache" "cache" "[Ljava/lang/Integer;").before a0 Z = true := hw _ (List.mem_of_getElem? (i := 31) rfl)
theorem wd_32 {a0 : Array Value} {Z : State} (hw : ∀ d ∈ tables_1, d.before a0 Z = true) : (Jvm.Cond.superclass "java/lang/Integer" "java/lang/Number").before a0 Z = true := hw _ (List.mem_of_getElem? (i := 32) rfl)
theorem wd_33 {a0 : Array Value} {Z : State} (hw : ∀ d ∈ tables_1, d.before a0 Z = true) : (Jvm.Cond.superclass "java/lang/Number" "java/lang/Object").before a0 Z = true := hw _ (List.mem_of_getElem? (i := 33) rfl)
theorem wd_34 {a0 : Array Value} {Z : State} (hw : ∀ d ∈ tables_1, d.before a0 Z = true) : (Jvm.Cond.noSuperclass "java/lang/Object").before a0 Z = true := hw _ (List.mem_of_getElem? (i := 34) rfl)
theorem wd_35 {a0 : Array Value} {Z : State} (hw : ∀ d ∈ tables_1, d.before a0 Z = true) : (Jvm.Cond.classLink "java/lang/Integer" (1 : Nat) "java/lang/Integer").before a0 Z = true := hw _ (List.mem_of_getElem? (i := 35) rfl)
theorem wd_36 {a0 : Array Value} {Z : State} (hw : ∀ d ∈ tables_1, d.before a0 Z = true) : (Jvm.Cond.instantiable "java/lang/Integer" (1 : Nat)).before a0 Z = true := hw _ (List.mem_of_getElem? (i := 36) rfl)
theorem wd_37 {a0 : Array Value} {Z : State} (hw : ∀ d ∈ tables_1, d.before a0 Z = true) : (Jvm.Cond.methodLink "java/lang/Integer" (199 : Nat) ({ cls := "java/lang/Integer", name := "<init>", desc := "(I)V" } : Jvm.MethodName)).before a0 Z = true := hw _ (List.mem_of_getElem? (i := 37) rfl)
theorem wd_38 {a0 : Array Value} {Z : State} (hw : ∀ d ∈ tables_1, d.before a0 Z = true) : (Jvm.Cond.instanceMethod ({ cls := "java/lang/Integer", name := "<init>", desc := "(I)V" } : Jvm.MethodName)).before a0 Z = true := hw _ (List.mem_of_getElem? (i := 38) rfl)
theorem wd_40 {a0 : Array Value} {Z : State} (hw : ∀ d ∈ tables_1, d.before a0 Z = true) : (Jvm.Cond.code ({ cls := "java/lang/Integer", name := "<init>", desc := "(I)V" } : Jvm.MethodName) jdk_33_method_23_code (2 : Nat) (Option.none : Option Jvm.ClassFile.FieldType)).before a0 Z = true := hw _ (List.mem_of_getElem? (i := 40) rfl)
theorem wd_41 {a0 : Array Value} {Z : State} (hw : ∀ d ∈ tables_1, d.before a0 Z = true) : (Jvm.Cond.methodLink "java/lang/Integer" (202 : Nat) ({ cls := "java/lang/Number", name := "<init>", desc := "()V" } : Jvm.MethodName)).before a0 Z = true := hw _ (List.mem_of_getElem? (i := 41) rfl)
theorem wd_42 {a0 : Array Value} {Z : State} (hw : ∀ d ∈ tables_1, d.before a0 Z = true) : (Jvm.Cond.instanceMethod ({ cls := "java/lang/Number", name := "<init>", desc := "()V" } : Jvm.MethodName)).before a0 Z = true := hw _ (List.mem_of_getElem? (i := 42) rfl)
theorem wd_45 {a0 : Array Value} {Z : State} (hw : ∀ d ∈ tables_1, d.before a0 Z = true) : (Jvm.Cond.initialized "java/lang/Number").before a0 Z = true := hw _ (List.mem_of_getElem? (i := 45) rfl)
theorem wd_46 {a0 : Array Value} {Z : State} (hw : ∀ d ∈ tables_1, d.before a0 Z = true) : (Jvm.Cond.code ({ cls := "java/lang/Number", name := "<init>", desc := "()V" } : Jvm.MethodName) jdk_18_method_1_code (1 : Nat) (Option.none : Option Jvm.ClassFile.FieldType)).before a0 Z = true := hw _ (List.mem_of_getElem? (i := 46) rfl)
theorem wd_47 {a0 : Array Value} {Z : State} (hw : ∀ d ∈ tables_1, d.before a0 Z = true) : (Jvm.Cond.methodLink "java/lang/Number" (1 : Nat) ({ cls := "java/lang/Object", name := "<init>", desc := "()V" } : Jvm.MethodName)).before a0 Z = true := hw _ (List.mem_of_getElem? (i := 47) rfl)
theorem wd_48 {a0 : Array Value} {Z : State} (hw : ∀ d ∈ tables_1, d.before a0 Z = true) : (Jvm.Cond.fieldLink "java/lang/Integer" (205 : Nat) "java/lang/Integer" "value" "I").before a0 Z = true := hw _ (List.mem_of_getElem? (i := 48) rfl)
theorem wd_49 {a0 : Array Value} {Z : State} (hw : ∀ d ∈ tables_1, d.before a0 Z = true) : (Jvm.Cond.laysFinal "java/lang/Integer" "java/lang/Integer" "value" "I").before a0 Z = true := hw _ (List.mem_of_getElem? (i := 49) rfl)
theorem d1_0 : decode prog_84_method_1_code 0 = .ok (.aload_n 0, 1) := by decide +kernel
theorem d1_1 : decode prog_84_method_1_code 1 = .ok (.invokespecial 1, 3) := by decide +kernel
theorem d1_4 : decode prog_84_method_1_code 4 = .ok (.iload_n 1, 1) := by decide +kernel
theorem d1_5 : decode prog_84_method_1_code 5 = .ok (.ifCond .lt 10, 3) := by decide +kernel
theorem d1_8 : decode prog_84_method_1_code 8 = .ok (.iload_n 1, 1) := by decide +kernel
theorem d1_9 : decode prog_84_method_1_code 9 = .ok (.sipush 255, 3) := by decide +kernel
theorem d1_12 : decode prog_84_method_1_code 12 = .ok (.if_icmp .le 17, 3) := by decide +kernel
theorem d1_29 : decode prog_84_method_1_code 29 = .ok (.iload_n 2, 1) := by decide +kernel
theorem d1_30 : decode prog_84_method_1_code 30 = .ok (.ifCond .lt 10, 3) := by decide +kernel
theorem d1_33 : decode prog_84_method_1_code 33 = .ok (.iload_n 2, 1) := by decide +kernel
theorem d1_34 : decode prog_84_method_1_code 34 = .ok (.sipush 255, 3) := by decide +kernel
theorem d1_37 : decode prog_84_method_1_code 37 = .ok (.if_icmp .le 17, 3) := by decide +kernel
theorem d1_54 : decode prog_84_method_1_code 54 = .ok (.iload_n 3, 1) := by decide +kernel
theorem d1_55 : decode prog_84_method_1_code 55 = .ok (.ifCond .lt 9, 3) := by decide +kernel
theorem d1_58 : decode prog_84_method_1_code 58 = .ok (.iload_n 3, 1) := by decide +kernel
theorem d1_59 : decode prog_84_method_1_code 59 = .ok (.ldc 19, 2) := by decide +kernel
theorem d1_61 : decode prog_84_method_1_code 61 = .ok (.if_icmp .le 17, 3) := by decide +kernel
theorem d1_78 : decode prog_84_method_1_code 78 = .ok (.aload_n 0, 1) := by decide +kernel
theorem d1_79 : decode prog_84_method_1_code 79 = .ok (.iload_n 1, 1) := by decide +kernel
theorem d1_80 : decode prog_84_method_1_code 80 = .ok (.putfield 21, 3) := by decide +kernel
theorem d1_83 : decode prog_84_method_1_code 83 = .ok (.aload_n 0, 1) := by decide +kernel
theorem d1_84 : decode prog_84_method_1_code 84 = .ok (.iload_n 2, 1) := by decide +kernel
theorem d1_85 : decode prog_84_method_1_code 85 = .ok (.putfield 25, 3) := by decide +kernel
theorem d1_88 : decode prog_84_method_1_code 88 = .ok (.aload_n 0, 1) := by decide +kernel
theorem d1_89 : decode prog_84_method_1_code 89 = .ok (.iload_n 3, 1) := by decide +kernel
theorem d1_90 : decode prog_84_method_1_code 90 = .ok (.putfield 28, 3) := by decide +kernel
theorem d1_93 : decode prog_84_method_1_code 93 = .ok (.return_, 1) := by decide +kernel
theorem d3_0 : decode prog_84_method_8_code 0 = .ok (.aload_n 1, 1) := by decide +kernel
theorem d3_1 : decode prog_84_method_8_code 1 = .ok (.instanceof 17, 3) := by decide +kernel
theorem d3_4 : decode prog_84_method_8_code 4 = .ok (.ifCond .eq 45, 3) := by decide +kernel
theorem d3_7 : decode prog_84_method_8_code 7 = .ok (.aload_n 1, 1) := by decide +kernel
theorem d3_8 : decode prog_84_method_8_code 8 = .ok (.checkcast 17, 3) := by decide +kernel
theorem d3_11 : decode prog_84_method_8_code 11 = .ok (.astore_n 2, 1) := by decide +kernel
theorem d3_12 : decode prog_84_method_8_code 12 = .ok (.aload_n 0, 1) := by decide +kernel
theorem d3_13 : decode prog_84_method_8_code 13 = .ok (.getfield 21, 3) := by decide +kernel
theorem d3_16 : decode prog_84_method_8_code 16 = .ok (.aload_n 2, 1) := by decide +kernel
theorem d3_17 : decode prog_84_method_8_code 17 = .ok (.getfield 21, 3) := by decide +kernel
theorem d3_20 : decode prog_84_method_8_code 20 = .ok (.if_icmp .ne 29, 3) := by decide +kernel
theorem d3_23 : decode prog_84_method_8_code 23 = .ok (.aload_n 0, 1) := by decide +kernel
theorem d3_24 : decode prog_84_method_8_code 24 = .ok (.getfield 25, 3) := by decide +kernel
theorem d3_27 : decode prog_84_method_8_code 27 = .ok (.aload_n 2, 1) := by decide +kernel
theorem d3_28 : decode prog_84_method_8_code 28 = .ok (.getfield 25, 3) := by decide +kernel
theorem d3_31 : decode prog_84_method_8_code 31 = .ok (.if_icmp .ne 18, 3) := by decide +kernel
theorem d3_34 : decode prog_84_method_8_code 34 = .ok (.aload_n 0, 1) := by decide +kernel
theorem d3_35 : decode prog_84_method_8_code 35 = .ok (.getfield 28, 3) := by decide +kernel
theorem d3_38 : decode prog_84_method_8_code 38 = .ok (.aload_n 2, 1) := by decide +kernel
theorem d3_39 : decode prog_84_method_8_code 39 = .ok (.getfield 28, 3) := by decide +kernel
theorem d3_42 : decode prog_84_method_8_code 42 = .ok (.if_icmp .ne 7, 3) := by decide +kernel
theorem d3_45 : decode prog_84_method_8_code 45 = .ok (.iconst 1, 1) := by decide +kernel
theorem d3_46 : decode prog_84_method_8_code 46 = .ok (.goto 4, 3) := by decide +kernel
theorem d3_49 : decode prog_84_method_8_code 49 = .ok (.iconst 0, 1) := by decide +kernel
theorem d3_50 : decode prog_84_method_8_code 50 = .ok (.ireturn, 1) := by decide +kernel
theorem d4_0 : decode jdk_33_method_22_code 0 = .ok (.iload_n 0, 1) := by decide +kernel
theorem d4_1 : decode jdk_33_method_22_code 1 = .ok (.bipush (-128), 2) := by decide +kernel
theorem d4_3 : decode jdk_33_method_22_code 3 = .ok (.if_icmp .lt 20, 3) := by decide +kernel
theorem d4_6 : decode jdk_33_method_22_code 6 = .ok (.iload_n 0, 1) := by decide +kernel
theorem d4_7 : decode jdk_33_method_22_code 7 = .ok (.getstatic 191, 3) := by decide +kernel
theorem d4_10 : decode jdk_33_method_22_code 10 = .ok (.if_icmp .gt 13, 3) := by decide +kernel
theorem d4_13 : decode jdk_33_method_22_code 13 = .ok (.getstatic 195, 3) := by decide +kernel
theorem d4_16 : decode jdk_33_method_22_code 16 = .ok (.iload_n 0, 1) := by decide +kernel
theorem d4_17 : decode jdk_33_method_22_code 17 = .ok (.sipush 128, 3) := by decide +kernel
theorem d4_20 : decode jdk_33_method_22_code 20 = .ok (.iadd, 1) := by decide +kernel
theorem d4_21 : decode jdk_33_method_22_code 21 = .ok (.aaload, 1) := by decide +kernel
theorem d4_22 : decode jdk_33_method_22_code 22 = .ok (.areturn, 1) := by decide +kernel
theorem d4_23 : decode jdk_33_method_22_code 23 = .ok (.new 1, 3) := by decide +kernel
theorem d4_26 : decode jdk_33_method_22_code 26 = .ok (.dup, 1) := by decide +kernel
theorem d4_27 : decode jdk_33_method_22_code 27 = .ok (.iload_n 0, 1) := by decide +kernel
theorem d4_28 : decode jdk_33_method_22_code 28 = .ok (.invokespecial 199, 3) := by decide +kernel
theorem d4_31 : decode jdk_33_method_22_code 31 = .ok (.areturn, 1) := by decide +kernel
theorem d5_0 : decode jdk_33_method_23_code 0 = .ok (.aload_n 0, 1) := by decide +kernel
theorem d5_1 : decode jdk_33_method_23_code 1 = .ok (.invokespecial 202, 3) := by decide +kernel
theorem d5_4 : decode jdk_33_method_23_code 4 = .ok (.aload_n 0, 1) := by decide +kernel
theorem d5_5 : decode jdk_33_method_23_code 5 = .ok (.iload_n 1, 1) := by decide +kernel
theorem d5_6 : decode jdk_33_method_23_code 6 = .ok (.putfield 205, 3) := by decide +kernel
theorem d5_9 : decode jdk_33_method_23_code 9 = .ok (.return_, 1) := by decide +kernel
theorem d6_0 : decode jdk_18_method_1_code 0 = .ok (.aload_n 0, 1) := by decide +kernel
theorem d6_1 : decode jdk_18_method_1_code 1 = .ok (.invokespecial 1, 3) := by decide +kernel
theorem d6_4 : decode jdk_18_method_1_code 4 = .ok (.return_, 1) := by decide +kernel
theorem own_pn0 : plainName "com/example/inflight/inflight/protocol/FrameHeader" = true := by first | (simp [plainName, overriddenIn]; done) | decide +kernel
theorem own_pn1 : plainName "java/lang/Number" = true := by first | (simp [plainName, overriddenIn]; done) | decide +kernel
theorem own_pd2 : parseMethodDescriptor "()V" = some ⟨[], none⟩ := by decide +kernel
theorem own_pn3 : plainName "java/lang/Integer" = true := by first | (simp [plainName, overriddenIn]; done) | decide +kernel
theorem own_pd4 : parseMethodDescriptor "(I)V" = some ⟨[.int], none⟩ := by decide +kernel
theorem own_pd5 : parseMethodDescriptor "(III)V" = some ⟨[.int, .int, .int], none⟩ := by decide +kernel
theorem own_pd6 : parseMethodDescriptor "(Ljava/lang/Object;)Z" = some ⟨[(.object "java/lang/Object")], some .boolean⟩ := by decide +kernel
theorem own_pd7 : parseMethodDescriptor "(I)Ljava/lang/Integer;" = some ⟨[.int], some (.object "java/lang/Integer")⟩ := by decide +kernel
theorem own_pn8 : plainName "com/example/inflight/inflight/protocol/FrameHeaderEqualsPinLaw" = true := by first | (simp [plainName, overriddenIn]; done) | decide +kernel
set_option maxRecDepth 65536 in
theorem own_lk0 {p : Program} {l : Launch} {e : Env} {R : Room} {s : State} {m : MethodId} {args : Array Value} {below : List Frame} {meth : Method} {c : Code} {T : State} {locs : List Loc} {cells slots : Nat} {F : Option Value → State → Prop} {bs : ByteArray} {pc pc' : Nat} {Ls : Array Slot} {Z : State} {a0 : Array Value} {h : Heap} {b : Addr} {rest : List Value} {W : Nat} {rm : Room} {Q : Option Value → Heap → List Loc → Prop} (hw : ∀ d ∈ tables_1, d.before a0 Z = true) (X : Stand p l e R s m args below meth c T locs cells slots) (hx : p.tables.exec = Jvm.exec) (hZ : Z.Warmed39 s.vm) (hby : c.code = bs) (hsz : Ls.size = c.maxLocals) (hown : s.vm.findClass "java/lang/Integer" = some m.cls) (hd : decode bs pc = .ok (.invokespecial 202, 3)) (hp : pc + 3 = pc') (eT : T.heap = h) (hW : (rest.map fun v => v.category).sum ≤ W)
    (hM : MetFree l (⟨"java/lang/Number", "<init>", "()V"⟩ : MethodName) (head1 [(Cond.code (⟨"java/lang/Number", "<init>", "()V"⟩ : MethodName) jdk_18_method_1_code 1 none)] rm) (fun aa U => aa = #[.ref b] ∧ Z.Warmed39 U.vm ∧ U.heap = h) (fun _ _ _ _ _ => True) (fun _ U o U' => ∃ v L, o = .returned v ∧ Q v U'.heap L ∧ FrameEnd U o U' L rm.cells rm.slots)) (hf : rm.frames + 1 ≤ R.frames) (hl : W + (1 + 11) + rm.locals ≤ R.locals) (hc : cells + rm.cells ≤ R.cells) (hs : slots + rm.slots ≤ R.slots)
    (k : ∀ v T' L', Stand p l e R s m args below meth c T' (locs ++ L') (cells + rm.cells) (slots + rm.slots) → Q v T'.heap L' → own_End p e below F (T'.setTop (mkF m pc' Ls (v.toList ++ rest)))) : own_End p e below F (T.setTop (mkF m pc Ls (.ref b :: rest))) := by
  subst hp
  obtain ⟨v, _, ⟨T', L0, k0, n0⟩, -, X', ⟨L', hQ, e1, e2, e3⟩, stp⟩ := X.specialBack hx (y := (⟨"java/lang/Number", "<init>", "()V"⟩ : MethodName)) rfl hown (mvT hZ (wd_41 hw)) (mvT hZ (wd_42 hw)) (mvT hZ (wd_46 hw)) (by decide) (backOf (W := W) hM hZ (wd_46 hw) (wd_45 hw) hf hl) (g := mkF m pc Ls (.ref b :: rest)) rfl hsz (Steps.refl _) (a := b) (argsL := []) (rest := rest) (lenOf own_pd2 rfl) rfl (by show 2 * 0 + _ ≤ _; omega) (hb hby hd) (fun _ _ => ⟨rfl, eT, hc, hs⟩)
  dsimp only [Pt.U, Pt.locs, Pt.cells, Pt.slots] at X' e1 e2 e3 stp hQ
  subst e1 e2 e3
  exact own_trans stp (k v T' L' X' hQ)
set_option maxRecDepth 65536 in
theorem own_lk1 {p : Program} {l : Launch} {e : Env} {R : Room} {s : State} {m : MethodId} {args : Array Value} {below : List Frame} {meth : Method} {c : Code} {T : State} {locs : List Loc} {cells slots : Nat} {F : Option Value → State → Prop} {bs : ByteArray} {pc pc' : Nat} {Ls : Array Slot} {Z : State} {a0 : Array Value} {h : Heap} {x0 : Value} {b : Addr} {rest : List Value} {W : Nat} {rm : Room} {Q : Option Value → Heap → List Loc → Prop} (hw : ∀ d ∈ tables_1, d.before a0 Z = true) (X : Stand p l e R s m args below meth c T locs cells slots) (hx : p.tables.exec = Jvm.exec) (hZ : Z.Warmed39 s.vm) (hby : c.code = bs) (hsz : Ls.size = c.maxLocals) (hown : s.vm.findClass "java/lang/Integer" = some m.cls) (hd : decode bs pc = .ok (.invokespecial 199, 3)) (hp : pc + 3 = pc') (eT : T.heap = h) (hW : (rest.map fun v => v.category).sum ≤ W)
    (hM : MetFree l (⟨"java/lang/Integer", "<init>", "(I)V"⟩ : MethodName) (head1 [(Cond.code (⟨"java/lang/Integer", "<init>", "(I)V"⟩ : MethodName) jdk_33_method_23_code 2 none)] rm) (fun aa U => aa = #[.ref b, x0] ∧ Z.Warmed39 U.vm ∧ U.heap = h) (fun _ _ _ _ _ => True) (fun _ U o U' => ∃ v L, o = .returned v ∧ Q v U'.heap L ∧ FrameEnd U o U' L rm.cells rm.slots)) (hf : rm.frames + 1 ≤ R.frames) (hl : W + (2 + 11) + rm.locals ≤ R.locals) (hc : cells + rm.cells ≤ R.cells) (hs : slots + rm.slots ≤ R.slots)
    (k : ∀ v T' L', Stand p l e R s m args below meth c T' (locs ++ L') (cells + rm.cells) (slots + rm.slots) → Q v T'.heap L' → own_End p e below F (T'.setTop (mkF m pc' Ls (v.toList ++ rest)))) : own_End p e below F (T.setTop (mkF m pc Ls (x0 :: .ref b :: rest))) := by
  subst hp
  obtain ⟨v, _, ⟨T', L0, k0, n0⟩, -, X', ⟨L', hQ, e1, e2, e3⟩, stp⟩ := X.specialBack hx (y := (⟨"java/lang/Integer", "<init>", "(I)V"⟩ : MethodName)) rfl hown (mvT hZ (wd_37 hw)) (mvT hZ (wd_38 hw)) (mvT hZ (wd_40 hw)) (by decide) (backOf (W := W) hM hZ (wd_40 hw) (wd_27 hw) hf hl) (g := mkF m pc Ls (x0 :: .ref b :: rest)) rfl hsz (Steps.refl _) (a := b) (argsL := [x0]) (rest := rest) (lenOf own_pd4 rfl) rfl (by show 2 * 0 + _ ≤ _; omega) (hb hby hd) (fun _ _ => ⟨rfl, eT, hc, hs⟩)
  dsimp only [Pt.U, Pt.locs, Pt.cells, Pt.slots] at X' e1 e2 e3 stp hQ
  subst e1 e2 e3
  exact own_trans stp (k v T' L' X' hQ)
set_option maxRecDepth 65536 in
theorem own_lk2 {p : Program} {l : Launch} {e : Env} {R : Room} {s : State} {m : MethodId} {args : Array Value} {below : List Frame} {meth : Method} {c : Code} {T : State} {locs : List Loc} {cells slots : Nat} {F : Option Value → State → Prop} {bs : ByteArray} {pc pc' : Nat} {Ls : Array Slot} {Z : State} {a0 : Array Value} {h : Heap} {x0 : Value} {x1 : Value} {x2 : Value} {b : Addr} {rest : List Value} {W : Nat} {rm : Room} {Q : Option Value → Heap → List Loc → Prop} (hw : ∀ d ∈ tables_1, d.before a0 Z = true) (X : Stand p l e R s m args below meth c T locs cells slots) (hx : p.tables.exec = Jvm.exec) (hZ : Z.Warmed39 s.vm) (hby : c.code = bs) (hsz : Ls.size = c.maxLocals) (hown : s.vm.findClass "com/example/inflight/inflight/protocol/FrameHeaderEqualsPinLaw" = some m.cls) (hd : decode bs pc = .ok (.invokespecial 11, 3)) (hp : pc + 3 = pc') (eT : T.heap = h) (hW : (rest.map fun v => v.category).sum ≤ W)
    (hM : MetFree l (⟨"com/example/inflight/inflight/protocol/FrameHeader", "<init>", "(III)V"⟩ : MethodName) (head1 [(Cond.code (⟨"com/example/inflight/inflight/protocol/FrameHeader", "<init>", "(III)V"⟩ : MethodName) prog_84_method_1_code 4 none)] rm) (fun aa U => aa = #[.ref b, x0, x1, x2] ∧ Z.Warmed39 U.vm ∧ U.heap = h) (fun _ _ _ _ _ => True) (fun _ U o U' => ∃ v L, o = .returned v ∧ Q v U'.heap L ∧ FrameEnd U o U' L rm.cells rm.slots)) (hf : rm.frames + 1 ≤ R.frames) (hl : W + (4 + 11) + rm.locals ≤ R.locals) (hc : cells + rm.cells ≤ R.cells) (hs : slots + rm.slots ≤ R.slots)
    (k : ∀ v T' L', Stand p l e R s m args below meth c T' (locs ++ L') (cells + rm.cells) (slots + rm.slots) → Q v T'.heap L' → own_End p e below F (T'.setTop (mkF m pc' Ls (v.toList ++ rest)))) : own_End p e below F (T.setTop (mkF m pc Ls (x2 :: x1 :: x0 :: .ref b :: rest))) := by
  subst hp
  obtain ⟨v, _, ⟨T', L0, k0, n0⟩, -, X', ⟨L', hQ, e1, e2, e3⟩, stp⟩ := X.specialBack hx (y := (⟨"com/example/inflight/inflight/protocol/FrameHeader", "<init>", "(III)V"⟩ : MethodName)) rfl hown (mvT hZ (wd_5 hw)) (mvT hZ (wd_6 hw)) (mvT hZ (wd_7 hw)) (by decide) (backOf (W := W) hM hZ (wd_7 hw) (wd_4 hw) hf hl) (g := mkF m pc Ls (x2 :: x1 :: x0 :: .ref b :: rest)) rfl hsz (Steps.refl _) (a := b) (argsL := [x0, x1, x2]) (rest := rest) (lenOf own_pd5 rfl) rfl (by show 2 * 0 + _ ≤ _; omega) (hb hby hd) (fun _ _ => ⟨rfl, eT, hc, hs⟩)
  dsimp only [Pt.U, Pt.locs, Pt.cells, Pt.slots] at X' e1 e2 e3 stp hQ
  subst e1 e2 e3
  exact own_trans stp (k v T' L' X' hQ)
set_option maxRecDepth 65536 in
theorem own_lk3 {p : Program} {l : Launch} {e : Env} {R : Room} {s : State} {m : MethodId} {args : Array Value} {below : List Frame} {meth : Method} {c : Code} {T : State} {locs : List Loc} {cells slots : Nat} {F : Option Value → State → Prop} {bs : ByteArray} {pc pc' : Nat} {Ls : Array Slot} {Z : State} {a0 : Array Value} {h : Heap} {x0 : Value} {b : Addr} {rest : List Value} {W : Nat} {rm : Room} {Q : Option Value → Heap → List Loc → Prop} (hw : ∀ d ∈ tables_1, d.before a0 Z = true) (X : Stand p l e R s m args below meth c T locs cells slots) (hx : p.tables.exec = Jvm.exec) (hZ : Z.Warmed39 s.vm) (hby : c.code = bs) (hsz : Ls.size = c.maxLocals) (hown : s.vm.findClass "com/example/inflight/inflight/protocol/FrameHeaderEqualsPinLaw" = some m.cls) (hd : decode bs pc = .ok (.invokevirtual 20, 3)) (hp : pc + 3 = pc') (eT : T.heap = h) (E : Exa Z h b "com/example/inflight/inflight/protocol/FrameHeader") (hW : (rest.map fun v => v.category).sum ≤ W)
    (hM : MetFree l (⟨"com/example/inflight/inflight/protocol/FrameHeader", "equals", "(Ljava/lang/Object;)Z"⟩ : MethodName) (head1 [(Cond.code (⟨"com/example/inflight/inflight/protocol/FrameHeader", "equals", "(Ljava/lang/Object;)Z"⟩ : MethodName) prog_84_method_8_code 3 (some .boolean))] rm) (fun aa U => aa = #[.ref b, x0] ∧ Z.Warmed39 U.vm ∧ U.heap = h) (fun _ _ _ _ _ => True) (fun _ U o U' => ∃ v L, o = .returned v ∧ Q v U'.heap L ∧ FrameEnd U o U' L rm.cells rm.slots)) (hf : rm.frames + 1 ≤ R.frames) (hl : W + (3 + 11) + rm.locals ≤ R.locals) (hc : cells + rm.cells ≤ R.cells) (hs : slots + rm.slots ≤ R.slots)
    (k : ∀ v T' L', Stand p l e R s m args below meth c T' (locs ++ L') (cells + rm.cells) (slots + rm.slots) → Q v T'.heap L' → own_End p e below F (T'.setTop (mkF m pc' Ls (v.toList ++ rest)))) : own_End p e below F (T.setTop (mkF m pc Ls (x0 :: .ref b :: rest))) := by
  subst hp
  obtain ⟨cq, kq, q1, q2, q3⟩ := isOf hZ eT E
  obtain ⟨v, _, ⟨T', L0, k0, n0⟩, -, X', ⟨L', hQ, e1, e2, e3⟩, stp⟩ := X.virtualBack hx (y := (⟨"com/example/inflight/inflight/protocol/FrameHeader", "equals", "(Ljava/lang/Object;)Z"⟩ : MethodName)) (z := (⟨"com/example/inflight/inflight/protocol/FrameHeader", "equals", "(Ljava/lang/Object;)Z"⟩ : MethodName)) hown (mvT hZ (wd_18 hw)) (mvT hZ (wd_19 hw)) (notFace_of_selects (args := #[]) (mvT hZ (wd_21 hw))) (mvT hZ (wd_21 hw)) (mvT hZ (wd_20 hw)) (by decide) (backOf (W := W) hM hZ (wd_22 hw) (wd_4 hw) hf hl) q1 q3 (g := mkF m pc Ls (x0 :: .ref b :: rest)) rfl hsz (Steps.refl _) (argsL := [x0]) (rest := rest) (lenOf own_pd6 rfl) rfl (by show 2 * 0 + _ ≤ _; omega) (hb hby hd) (fun _ _ => ⟨rfl, eT, hc, hs⟩)
  dsimp only [Pt.U, Pt.locs, Pt.cells, Pt.slots] at X' e1 e2 e3 stp hQ
  subst e1 e2 e3
  exact own_trans stp (k v T' L' X' hQ)
set_option maxRecDepth 65536 in
theorem own_lk4 {p : Program} {l : Launch} {e : Env} {R : Room} {s : State} {m : MethodId} {args : Array Value} {below : List Frame} {meth : Method} {c : Code} {T : State} {locs : List Loc} {cells slots : Nat} {F : Option Value → State → Prop} {bs : ByteArray} {pc pc' : Nat} {Ls : Array Slot} {Z : State} {a0 : Array Value} {h : Heap} {x0 : Value} {rest : List Value} {W : Nat} {rm : Room} {Q : Option Value → Heap → List Loc → Prop} (hw : ∀ d ∈ tables_1, d.before a0 Z = true) (X : Stand p l e R s m args below meth c T locs cells slots) (hx : p.tables.exec = Jvm.exec) (hZ : Z.Warmed39 s.vm) (hby : c.code = bs) (hsz : Ls.size = c.maxLocals) (hown : s.vm.findClass "com/example/inflight/inflight/protocol/FrameHeaderEqualsPinLaw" = some m.cls) (hd : decode bs pc = .ok (.invokestatic 14, 3)) (hp : pc + 3 = pc') (eT : T.heap = h) (hW : (rest.map fun v => v.category).sum ≤ W)
    (hM : MetFree l (⟨"java/lang/Integer", "valueOf", "(I)Ljava/lang/Integer;"⟩ : MethodName) (head1 [(Cond.code (⟨"java/lang/Integer", "valueOf", "(I)Ljava/lang/Integer;"⟩ : MethodName) jdk_33_method_22_code 1 (some (.object "java/lang/Integer")))] rm) (fun aa U => aa = #[x0] ∧ Z.Warmed39 U.vm ∧ U.heap = h) (fun _ _ _ _ _ => True) (fun _ U o U' => ∃ v L, o = .returned v ∧ Q v U'.heap L ∧ FrameEnd U o U' L rm.cells rm.slots)) (hf : rm.frames + 1 ≤ R.frames) (hl : W + (1 + 11) + rm.locals ≤ R.locals) (hc : cells + rm.cells ≤ R.cells) (hs : slots + rm.slots ≤ R.slots)
    (k : ∀ v T' L', Stand p l e R s m args below meth c T' (locs ++ L') (cells + rm.cells) (slots + rm.slots) → Q v T'.heap L' → own_End p e below F (T'.setTop (mkF m pc' Ls (v.toList ++ rest)))) : own_End p e below F (T.setTop (mkF m pc Ls (x0 :: rest))) := by
  subst hp
  obtain ⟨v, _, ⟨T', L0, k0, n0⟩, -, X', ⟨L', hQ, e1, e2, e3⟩, stp⟩ := Jvm.LawKit.callS X hx (y := (⟨"java/lang/Integer", "valueOf", "(I)Ljava/lang/Integer;"⟩ : MethodName)) hown (mvT hZ (wd_25 hw)) (mvT hZ (wd_26 hw)) (mvT hZ (wd_27 hw)) (mvT hZ (wd_28 hw)) (by decide) (backOf (W := W) hM hZ (wd_28 hw) (wd_27 hw) hf hl) (g := mkF m pc Ls (x0 :: rest)) rfl hsz (argsL := [x0]) (rest := rest) (lenOf own_pd7 rfl) rfl (by show 2 * 0 + _ ≤ _; omega) (hb hby hd) (fun _ _ => ⟨rfl, eT, hc, hs⟩)
  dsimp only [Pt.U, Pt.locs, Pt.cells, Pt.slots] at X' e1 e2 e3 stp hQ
  subst e1 e2 e3
  exact own_step stp (k v T' L' X' hQ)

def own_FH (Z : State) (h : Heap) (a : Addr) (v0 : Int32) (v1 : Int32) (v2 : Int32) : Prop := Exa Z h a "com/example/inflight/inflight/protocol/FrameHeader" ∧ Fld Z h a "com/example/inflight/inflight/protocol/FrameHeader" "opCode" "I" (.int v0) ∧ Fld Z h a "com/example/inflight/inflight/protocol/FrameHeader" "flags" "I" (.int v1) ∧ Fld Z h a "com/example/inflight/inflight/protocol/FrameHeader" "payloadLength" "I" (.int v2)
theorem own_FH.ext {Z : State} {h h' : Heap} {a : Addr} {v0 : Int32} {v1 : Int32} {v2 : Int32} (O : own_FH Z h a v0 v1 v2) (X : Ext h h') : own_FH Z h' a v0 v1 v2 := by
  obtain ⟨E, F0, F1, F2⟩ := O
  exact ⟨E.ext X, F0.ext X, F1.ext X, F2.ext X⟩
theorem own_FH.keep {Z : State} {h h' : Heap} {a : Addr} {v0 : Int32} {v1 : Int32} {v2 : Int32} (O : own_FH Z h a v0 v1 v2) {ws : List Addr} (K : Keep h h' ws) (q : a ∉ ws) : own_FH Z h' a v0 v1 v2 := by
  obtain ⟨E, F0, F1, F2⟩ := O
  exact ⟨E.keep K, F0.keep K q, F1.keep K q, F2.keep K q⟩
theorem own_FH.other {Z : State} {h h' : Heap} {a : Addr} {v0 : Int32} {v1 : Int32} {v2 : Int32} (O : own_FH Z h a v0 v1 v2) {b : Addr} {sl : Nat} {v : Value} (W : Wr h h' b sl v) (q : a ≠ b) : own_FH Z h' a v0 v1 v2 := by
  obtain ⟨E, F0, F1, F2⟩ := O
  exact ⟨E.wr W, F0.other W (Or.inl q), F1.other W (Or.inl q), F2.other W (Or.inl q)⟩
theorem own_FH.lt {Z : State} {h : Heap} {a : Addr} {v0 : Int32} {v1 : Int32} {v2 : Int32} (O : own_FH Z h a v0 v1 v2) : a < h.size := by
  obtain ⟨E, F0, F1, F2⟩ := O
  exact E.lt
def own_IN (Z : State) (h : Heap) (a : Addr) (v0 : Int32) : Prop := Exa Z h a "java/lang/Integer" ∧ Fld Z h a "java/lang/Integer" "value" "I" (.int v0)
theorem own_IN.ext {Z : State} {h h' : Heap} {a : Addr} {v0 : Int32} (O : own_IN Z h a v0) (X : Ext h h') : own_IN Z h' a v0 := by
  obtain ⟨E, F0⟩ := O
  exact ⟨E.ext X, F0.ext X⟩
theorem own_IN.keep {Z : State} {h h' : Heap} {a : Addr} {v0 : Int32} (O : own_IN Z h a v0) {ws : List Addr} (K : Keep h h' ws) (q : a ∉ ws) : own_IN Z h' a v0 := by
  obtain ⟨E, F0⟩ := O
  exact ⟨E.keep K, F0.keep K q⟩
theorem own_IN.other {Z : State} {h h' : Heap} {a : Addr} {v0 : Int32} (O : own_IN Z h a v0) {b : Addr} {sl : Nat} {v : Value} (W : Wr h h' b sl v) (q : a ≠ b) : own_IN Z h' a v0 := by
  obtain ⟨E, F0⟩ := O
  exact ⟨E.wr W, F0.other W (Or.inl q)⟩
theorem own_IN.lt {Z : State} {h : Heap} {a : Addr} {v0 : Int32} (O : own_IN Z h a v0) : a < h.size := by
  obtain ⟨E, F0⟩ := O
  exact E.lt
theorem own_and3 (x : Int32) : x &&& 3 = 0 ∨ x &&& 3 = 1 ∨ x &&& 3 = 2 ∨ x &&& 3 = 3 := by
  have h := c_mask x 3 2 (by decide) (by decide)
  have e : ∀ k : Int32, (x &&& 3).toInt = k.toInt → x &&& 3 = k := fun k q => Int32.toInt_inj.mp q
  have h0 : (0 : Int32).toInt = 0 := rfl
  have h1 : (1 : Int32).toInt = 1 := rfl
  have h2 : (2 : Int32).toInt = 2 := rfl
  have h3 : (3 : Int32).toInt = 3 := rfl
  have : (x &&& 3).toInt = 0 ∨ (x &&& 3).toInt = 1 ∨ (x &&& 3).toInt = 2 ∨ (x &&& 3).toInt = 3 := by omega
  rcases this with q | q | q | q
  · exact Or.inl (e 0 q)
  · exact Or.inr (Or.inl (e 1 q))
  · exact Or.inr (Or.inr (Or.inl (e 2 q)))
  · exact Or.inr (Or.inr (Or.inr (e 3 q)))

theorem own_nsroot {Z : State} {a0 : Array Value} {O K : String} {n : Nat} (w : (Cond.noSuperclass O).before a0 Z = true) (wk : (Cond.instantiable K n).before a0 Z = true) (hn : O ≠ K) : NS Z O K := by
  obtain ⟨c, k, h1, h2, h3, -, -⟩ := Cond.noSuperclass_spec w
  obtain ⟨t, kt, g1, -⟩ := Cond.instantiable_spec wk
  have ne := ids_ne h1 g1 hn
  refine ⟨c, t, h1, g1, fun fuel => ?_⟩
  cases fuel with
  | zero => rfl
  | succ f => simp [Vm.isSubclassAux, ne, h2, h3]
theorem own_nsno {Z : State} {a0 : Array Value} {C S K : String} {n : Nat} (w : (Cond.superclass C S).before a0 Z = true) (wk : (Cond.instantiable K n).before a0 Z = true) (n : NS Z C K) (hn : C ≠ K) : ∃ c t, Z.vm.findClass C = some c ∧ Z.vm.findClass K = some t ∧ Z.vm.assignable c t = false := by
  obtain ⟨c, t, h0, g0, n3⟩ := n
  obtain ⟨p, k, kp, h1, h2, h3, h4, h5, -, h7⟩ := Cond.superclass_spec h0 w
  obtain ⟨t', k', g1, g2, g5, g7, -⟩ := Cond.instantiable_spec wk
  cases g0.symm.trans g1
  simp only [Bool.or_eq_false_iff] at g7
  have ne := ids_ne h0 g0 hn
  refine ⟨c, t, h0, g0, ?_⟩
  show Z.vm.assignableAux (255 + 1) c t = false
  simp [Vm.assignableAux, ne, h2, g2, h5, g5, g7.1, Vm.isSubclass, n3]
theorem own_intno {Z : State} {a0 : Array Value} (hw : ∀ d ∈ tables_1, d.before a0 Z = true) : ∃ c t, Z.vm.findClass "java/lang/Integer" = some c ∧ Z.vm.findClass "com/example/inflight/inflight/protocol/FrameHeader" = some t ∧ Z.vm.assignable c t = false :=
  own_nsno (wd_32 hw) (wd_3 hw) (NS.step (wd_32 hw) (NS.step (wd_33 hw) (own_nsroot (wd_34 hw) (wd_3 hw) (by decide)) (by decide)) (by decide)) (by decide)
theorem own_instN {p : Program} {l : Launch} {e : Env} {R : Room} {s : State} {m : MethodId} {args : Array Value} {below : List Frame} {meth : Method} {c : Code} {T : State} {locs : List Loc} {cells slots : Nat} {F : Option Value → State → Prop} {bs : ByteArray} {pc pc' : Nat} {Ls : Array Slot} {st : List Value} {Z : State} {a0 : Array Value} {h : Heap} (X : Stand p l e R s m args below meth c T locs cells slots) (hx : p.tables.exec = Jvm.exec) (hZ : Z.Warmed39 s.vm) (hby : c.code = bs)
    {own K C : String} {index : Nat} {a : Addr} (hown : s.vm.findClass own = some m.cls) (w : (Cond.classLink own index K).before a0 Z = true) (eT : T.heap = h) (E : Exa Z h a C) (no : ∃ c t, Z.vm.findClass C = some c ∧ Z.vm.findClass K = some t ∧ Z.vm.assignable c t = false) (hd : decode bs pc = .ok (.instanceof index, 3)) (hp : pc + 3 = pc')
    (k : ∀ T', Stand p l e R s m args below meth c T' locs cells slots → T'.heap = h → own_End p e below F (T'.setTop (mkF m pc' Ls (.int 0 :: st)))) : own_End p e below F (T.setTop (mkF m pc Ls (.ref a :: st))) := by
  subst hp
  obtain ⟨T', X', e', stp⟩ := instNo X hx hZ hown w eT E no (g := mkF m pc Ls (.ref a :: st)) rfl rfl (hb hby hd)
  exact own_step stp (k T' X' e')
/-- the cache of Integers: an array of 256 references to Integers -/
def own_IC (Z : State) (h : Heap) (ca : Addr) (cl : Cell) : Prop := Arr Z h ca cl (.object "java/lang/Integer") ∧ cl.slots.size = 256 ∧ ∀ i, i < 256 → ∃ o, cl.slots[i]? = some (.ref o) ∧ Exa Z h o "java/lang/Integer"
theorem own_IC.ext {Z : State} {h h' : Heap} {ca : Addr} {cl : Cell} (I : own_IC Z h ca cl) (E : Ext h h') : own_IC Z h' ca cl := ⟨I.1.ext E, I.2.1, fun i hi => by obtain ⟨o, a, b⟩ := I.2.2 i hi; exact ⟨o, a, b.ext E⟩⟩
theorem own_IC.other {Z : State} {h h' : Heap} {ca b : Addr} {cl : Cell} {sl : Nat} {v : Value} (I : own_IC Z h ca cl) (W : Wr h h' b sl v) (q : ca ≠ b) : own_IC Z h' ca cl := ⟨I.1.other W q, I.2.1, fun i hi => by obtain ⟨o, a, b⟩ := I.2.2 i hi; exact ⟨o, a, b.wr W⟩⟩
theorem own_IC.keep {Z : State} {h h' : Heap} {ca : Addr} {cl : Cell} {ws : List Addr} (I : own_IC Z h ca cl) (K : Keep h h' ws) (q : ca ∉ ws) : own_IC Z h' ca cl := ⟨⟨K.2.1 _ _ I.1.1 q, I.1.2⟩, I.2.1, fun i hi => by obtain ⟨o, a, b⟩ := I.2.2 i hi; exact ⟨o, a, b.keep K⟩⟩
theorem own_IC.lt {Z : State} {h : Heap} {ca : Addr} {cl : Cell} (I : own_IC Z h ca cl) : ca < h.size := I.1.lt
theorem own_IC.at {Z : State} {h : Heap} {ca : Addr} {cl : Cell} (I : own_IC Z h ca cl) (x : Int32) (h1 : ¬ x < (-128 : Int32)) (h2 : ¬ (127 : Int32) < x) : ¬ ((x + (128 : Int32)) < 0 ∨ cl.slots.size ≤ (x + (128 : Int32)).toNatClampNeg) ∧ ∃ o, cl.slots[(x + (128 : Int32)).toNatClampNeg]? = some (.ref o) ∧ Exa Z h o "java/lang/Integer" := by
  have q := Jvm.Free.IntBox.place_ok x h1 h2
  rw [I.2.1]
  exact ⟨q.1, I.2.2 _ q.2⟩
def own_e3 (a b c d e f : Int32) : Int32 := if a = d then (if b = e then (if c = f then 1 else 0) else 0) else 0
theorem own_m8 (x : Int32) : 0 ≤ (x &&& (255 : Int32)).toInt ∧ (x &&& (255 : Int32)).toInt ≤ 255 := by
  have h := c_mask x 255 8 (by decide) (by decide)
  omega
theorem own_ml (x : Int32) : 0 ≤ ((x &&& (2147483647 : Int32)) % (33554433 : Int32)).toInt ∧ ((x &&& (2147483647 : Int32)) % (33554433 : Int32)).toInt ≤ 33554432 := by
  have h1 := c_mask x 2147483647 31 (by decide) (by decide)
  have h2 := (c_irem (x &&& 2147483647) 33554433 33554433 rfl).1 (by omega)
  omega
theorem own_mu (x : Int32) : 0 ≤ (((x.toUInt32 >>> ((3 : Int32) &&& 31).toUInt32).toInt32) % (33554433 : Int32)).toInt ∧ (((x.toUInt32 >>> ((3 : Int32) &&& 31).toUInt32).toInt32) % (33554433 : Int32)).toInt ≤ 33554432 := by
  have h1 := c_iushr x 3 3 (by decide) (by decide)
  have r := rng32 x
  have h2 := (c_irem ((x.toUInt32 >>> ((3 : Int32) &&& 31).toUInt32).toInt32) 33554433 33554433 rfl).1 (by omega)
  omega
theorem own_b8n (x : Int32) (h : 0 ≤ x.toInt ∧ x.toInt ≤ 255) : ¬ x < (0 : Int32) ∧ ¬ (255 : Int32) < x := by
  have e0 : (0 : Int32).toInt = 0 := rfl
  have e1 : (255 : Int32).toInt = 255 := rfl
  rw [Int32.lt_iff_toInt_lt, Int32.lt_iff_toInt_lt]
  omega
theorem own_bln (x : Int32) (h : 0 ≤ x.toInt ∧ x.toInt ≤ 33554432) : ¬ x < (0 : Int32) ∧ ¬ (33554432 : Int32) < x := by
  have e0 : (0 : Int32).toInt = 0 := rfl
  have e1 : (33554432 : Int32).toInt = 33554432 := rfl
  rw [Int32.lt_iff_toInt_lt, Int32.lt_iff_toInt_lt]
  omega
theorem own_ef_rm1 (m : MethodId) (a : Addr) (x1 : Int32) (x2 : Int32) (x3 : Int32)  : entryFrame m #[(.ref a), (.int x1), (.int x2), (.int x3)] 4 = mkF m 0 #[.val (.ref a), .val (.int x1), .val (.int x2), .val (.int x3)] [] := by first | (simp [entryFrame, mkF, argsToLocals, Value.category]; done) | rfl
def Q1 (Z : State) (a : Addr) (x1 : Int32) (x2 : Int32) (x3 : Int32) (h0 : Heap) (n0 : Nat) (v : Option Value) (h : Heap) (L : List Loc) : Prop := v = none ∧ Fr n0 L ∧ Keep h0 h [a] ∧ own_FH Z h a x1 x2 x3
set_option maxRecDepth 65536 in
set_option maxHeartbeats 40000000 in
theorem rm1 (l : Launch) (Z : State) (a0 : Array Value) (hw : ∀ d ∈ tables_1, d.before a0 Z = true) (ws : List Jvm.Cond) (a : Addr) (x1 : Int32) (x2 : Int32) (x3 : Int32) (h0 : Heap) (n0 : Nat) (Z0 : n0 ≤ h0.size) (f_O_a : own_FH Z h0 a (0 : Int32) (0 : Int32) (0 : Int32)) (ge_a : n0 ≤ a) (b1 : 0 ≤ x1.toInt ∧ x1.toInt ≤ 255) (b2 : 0 ≤ x2.toInt ∧ x2.toInt ≤ 255) (b3 : 0 ≤ x3.toInt ∧ x3.toInt ≤ 33554432) :
    MetFree l (⟨"com/example/inflight/inflight/protocol/FrameHeader", "<init>", "(III)V"⟩ : MethodName) (head1 (Jvm.Cond.code (⟨"com/example/inflight/inflight/protocol/FrameHeader", "<init>", "(III)V"⟩ : MethodName) prog_84_method_1_code 4 none :: ws) ({ frames := 1, cells := 0, slots := 0, locals := 12 } : Room)) (fun aa U => aa = #[(.ref a), (.int x1), (.int x2), (.int x3)] ∧ Z.Warmed39 U.vm ∧ U.heap = h0) (fun _ _ _ _ _ => True) (fun _ U oc U' => ∃ v L, oc = .returned v ∧ Q1 Z a x1 x2 x3 h0 n0 v U'.heap L ∧ FrameEnd U oc U' L ({ frames := 1, cells := 0, slots := 0, locals := 12 } : Room).cells ({ frames := 1, cells := 0, slots := 0, locals := 12 } : Room).slots) := by
  refine MetFree.of_bodySF (plainFor_of_name own_pn0) hisR ?_
  intro p e s m args below meth c s₁ Bd hml0 hP hK
  obtain ⟨rfl, hZ, hh⟩ := hP
  have hx := Bd.exec
  have hby := Bd.bytes
  have hlk := Bd.notSynchronized
  have hret := Bd.returns
  have hml : c.maxLocals = 4 := hml0
  have hown : s.vm.findClass "com/example/inflight/inflight/protocol/FrameHeader" = some m.cls := findClass_of_methodNamed Bd.named
  have hnm := (name_of_methodNamed Bd.named Bd.method).1
  have X0 : Stand p l e ({ frames := 1, cells := 0, slots := 0, locals := 12 } : Room) s m #[(.ref a), (.int x1), (.int x2), (.int x3)] below meth c s₁ [] 0 0 := Stand.of_body Bd
  have e0 : s₁.heap = h0 := by rw [← hh, Bd.state]; rfl
  have N0 := Fr.nil n0
  refine own_body (Q := Q1 Z a x1 x2 x3 h0 n0) (KC := ({ frames := 1, cells := 0, slots := 0, locals := 12 } : Room).cells) (KS := ({ frames := 1, cells := 0, slots := 0, locals := 12 } : Room).slots) ?_
  rw [own_ef_rm1 m a x1 x2 x3]
  have Kp : Keep h0 h0 [a] := Keep.refl h0 _
  refine own_aloadN X0 hx hby d1_0 (pc' := 1) rfl rfl rfl ?_
  refine own_init X0 hx hZ hby hown (wd_8 hw) (wd_9 hw) (wd_10 hw) e0 (by rw [hml]; rfl) d1_1 (pc' := 4) rfl (by decide) (W := 0) (Nat.le_of_eq rfl) (by decide) (fun T1 X1 e1 => ?_)
  refine own_iloadN X1 hx hby d1_4 (pc' := 5) rfl rfl ?_
  refine own_ifN X1 hx hby d1_5 (pc' := 8) rfl (show ¬ x1 < (0 : Int32) from (own_b8n x1 b1).1) ?_
  refine own_iloadN X1 hx hby d1_8 (pc' := 9) rfl rfl ?_
  refine own_sipush X1 hx hby d1_9 (pc' := 12) rfl (n := (255 : Int32)) (by decide) ?_
  refine own_icY X1 hx hby d1_12 (pc' := 29) (by decide) (by decide) (show ¬ (255 : Int32) < x1 from (own_b8n x1 b1).2) ?_
  refine own_iloadN X1 hx hby d1_29 (pc' := 30) rfl rfl ?_
  refine own_ifN X1 hx hby d1_30 (pc' := 33) rfl (show ¬ x2 < (0 : Int32) from (own_b8n x2 b2).1) ?_
  refine own_iloadN X1 hx hby d1_33 (pc' := 34) rfl rfl ?_
  refine own_sipush X1 hx hby d1_34 (pc' := 37) rfl (n := (255 : Int32)) (by decide) ?_
  refine own_icY X1 hx hby d1_37 (pc' := 54) (by decide) (by decide) (show ¬ (255 : Int32) < x2 from (own_b8n x2 b2).2) ?_
  refine own_iloadN X1 hx hby d1_54 (pc' := 55) rfl rfl ?_
  refine own_ifN X1 hx hby d1_55 (pc' := 58) rfl (show ¬ x3 < (0 : Int32) from (own_bln x3 b3).1) ?_
  refine own_iloadN X1 hx hby d1_58 (pc' := 59) rfl rfl ?_
  refine own_ldcInt X1 hx hZ hby hown (wd_11 hw) d1_59 (pc' := 61) rfl ?_
  refine own_icY X1 hx hby d1_61 (pc' := 78) (by decide) (by decide) (show ¬ (33554432 : Int32) < x3 from (own_bln x3 b3).2) ?_
  refine own_aloadN X1 hx hby d1_78 (pc' := 79) rfl rfl rfl ?_
  refine own_iloadN X1 hx hby d1_79 (pc' := 80) rfl rfl ?_
  obtain ⟨f_E_a, f_F_a_opCode, f_F_a_flags, f_F_a_payloadLength⟩ := f_O_a
  refine own_putF X1 hx hZ hby hown (host := "") (Or.inl (wd_12 hw)) Via.refl e1 f_F_a_opCode f_E_a (Or.inr ⟨(wd_13 hw), rfl, hnm⟩) (wd_3 hw) (ty := .int) (by decide) rfl rfl d1_80 (pc' := 83) rfl (fun T2 h2 X2 e2 W2 => ?_)
  have f_F_a_opCode := f_F_a_opCode.same W2
  have f_E_a := f_E_a.wr W2
  have f_F_a_flags := f_F_a_flags.other W2 (Or.inr (slot_ne (Or.inr (wd_15 hw)) (Or.inr (wd_13 hw)) (by decide) (t := .int) (t' := .int) (by decide) (by decide)))
  have f_F_a_payloadLength := f_F_a_payloadLength.other W2 (Or.inr (slot_ne (Or.inr (wd_17 hw)) (Or.inr (wd_13 hw)) (by decide) (t := .int) (t' := .int) (by decide) (by decide)))
  have Zn := Nat.le_trans Z0 (Keep.of_wr W2).1
  have Kp := Kp.wr W2 (Or.inl (List.mem_of_getElem? (i := 0) rfl))
  have N2 := Fr.snoc X2 N0 ge_a
  refine own_aloadN X2 hx hby d1_83 (pc' := 84) rfl rfl rfl ?_
  refine own_iloadN X2 hx hby d1_84 (pc' := 85) rfl rfl ?_
  refine own_putF X2 hx hZ hby hown (host := "") (Or.inl (wd_14 hw)) Via.refl e2 f_F_a_flags f_E_a (Or.inr ⟨(wd_15 hw), rfl, hnm⟩) (wd_3 hw) (ty := .int) (by decide) rfl rfl d1_85 (pc' := 88) rfl (fun T3 h3 X3 e3 W3 => ?_)
  have f_F_a_flags := f_F_a_flags.same W3
  have f_E_a := f_E_a.wr W3
  have f_F_a_opCode := f_F_a_opCode.other W3 (Or.inr (slot_ne (Or.inr (wd_13 hw)) (Or.inr (wd_15 hw)) (by decide) (t := .int) (t' := .int) (by decide) (by decide)))
  have f_F_a_payloadLength := f_F_a_payloadLength.other W3 (Or.inr (slot_ne (Or.inr (wd_17 hw)) (Or.inr (wd_15 hw)) (by decide) (t := .int) (t' := .int) (by decide) (by decide)))
  have Zn := Nat.le_trans Zn (Keep.of_wr W3).1
  have Kp := Kp.wr W3 (Or.inl (List.mem_of_getElem? (i := 0) rfl))
  have N3 := Fr.snoc X3 N2 ge_a
  refine own_aloadN X3 hx hby d1_88 (pc' := 89) rfl rfl rfl ?_
  refine own_iloadN X3 hx hby d1_89 (pc' := 90) rfl rfl ?_
  refine own_putF X3 hx hZ hby hown (host := "") (Or.inl (wd_16 hw)) Via.refl e3 f_F_a_payloadLength f_E_a (Or.inr ⟨(wd_17 hw), rfl, hnm⟩) (wd_3 hw) (ty := .int) (by decide) rfl rfl d1_90 (pc' := 93) rfl (fun T4 h4 X4 e4 W4 => ?_)
  have f_F_a_payloadLength := f_F_a_payloadLength.same W4
  have f_E_a := f_E_a.wr W4
  have f_F_a_opCode := f_F_a_opCode.other W4 (Or.inr (slot_ne (Or.inr (wd_13 hw)) (Or.inr (wd_17 hw)) (by decide) (t := .int) (t' := .int) (by decide) (by decide)))
  have f_F_a_flags := f_F_a_flags.other W4 (Or.inr (slot_ne (Or.inr (wd_15 hw)) (Or.inr (wd_17 hw)) (by decide) (t := .int) (t' := .int) (by decide) (by decide)))
  have Zn := Nat.le_trans Zn (Keep.of_wr W4).1
  have Kp := Kp.wr W4 (Or.inl (List.mem_of_getElem? (i := 0) rfl))
  have N4 := Fr.snoc X4 N3 ge_a
  refine own_return X4 hx hlk hby hret d1_93 (own_lv ?_ (by decide) (by decide))
  show Q1 Z a x1 x2 x3  h0 n0 none T4.heap _
  rw [e4]
  exact ⟨rfl, N4, Kp, ⟨f_E_a, f_F_a_opCode, f_F_a_flags, f_F_a_payloadLength⟩⟩
theorem own_ef_rm3o (m : MethodId) (a : Addr) (b : Addr)  : entryFrame m #[(.ref a), (.ref b)] 3 = mkF m 0 #[.val (.ref a), .val (.ref b), .unset] [] := by first | (simp [entryFrame, mkF, argsToLocals, Value.category]; done) | rfl
def Q3o (Z : State) (a : Addr) (b : Addr) (a1 : Int32) (a2 : Int32) (a3 : Int32) (b1 : Int32) (b2 : Int32) (b3 : Int32) (z : Int32) (h0 : Heap) (n0 : Nat) (v : Option Value) (h : Heap) (L : List Loc) : Prop := v = some (.int z) ∧ Fr n0 L ∧ h = h0
set_option maxRecDepth 65536 in
set_option maxHeartbeats 40000000 in
theorem rm3o (l : Launch) (Z : State) (a0 : Array Value) (hw : ∀ d ∈ tables_1, d.before a0 Z = true) (ws : List Jvm.Cond) (a : Addr) (b : Addr) (a1 : Int32) (a2 : Int32) (a3 : Int32) (b1 : Int32) (b2 : Int32) (b3 : Int32) (z : Int32) (h0 : Heap) (n0 : Nat) (Z0 : n0 ≤ h0.size) (f_O_a : own_FH Z h0 a a1 a2 a3) (f_O_b : own_FH Z h0 b b1 b2 b3) (hz : own_e3 a1 a2 a3 b1 b2 b3 = z) :
    MetFree l (⟨"com/example/inflight/inflight/protocol/FrameHeader", "equals", "(Ljava/lang/Object;)Z"⟩ : MethodName) (head1 (Jvm.Cond.code (⟨"com/example/inflight/inflight/protocol/FrameHeader", "equals", "(Ljava/lang/Object;)Z"⟩ : MethodName) prog_84_method_8_code 3 (some .boolean) :: ws) ({ frames := 0, cells := 0, slots := 0, locals := 0 } : Room)) (fun aa U => aa = #[(.ref a), (.ref b)] ∧ Z.Warmed39 U.vm ∧ U.heap = h0) (fun _ _ _ _ _ => True) (fun _ U oc U' => ∃ v L, oc = .returned v ∧ Q3o Z a b a1 a2 a3 b1 b2 b3 z h0 n0 v U'.heap L ∧ FrameEnd U oc U' L ({ frames := 0, cells := 0, slots := 0, locals := 0 } : Room).cells ({ frames := 0, cells := 0, slots := 0, locals := 0 } : Room).slots) := by
  refine MetFree.of_bodySF (plainFor_of_name own_pn0) hisR ?_
  intro p e s m args below meth c s₁ Bd hml0 hP hK
  obtain ⟨rfl, hZ, hh⟩ := hP
  have hx := Bd.exec
  have hby := Bd.bytes
  have hlk := Bd.notSynchronized
  have hret := Bd.returns
  have hml : c.maxLocals = 3 := hml0
  have hown : s.vm.findClass "com/example/inflight/inflight/protocol/FrameHeader" = some m.cls := findClass_of_methodNamed Bd.named
  have hnm := (name_of_methodNamed Bd.named Bd.method).1
  have X0 : Stand p l e ({ frames := 0, cells := 0, slots := 0, locals := 0 } : Room) s m #[(.ref a), (.ref b)] below meth c s₁ [] 0 0 := Stand.of_body Bd
  have e0 : s₁.heap = h0 := by rw [← hh, Bd.state]; rfl
  have N0 := Fr.nil n0
  refine own_body (Q := Q3o Z a b a1 a2 a3 b1 b2 b3 z h0 n0) (KC := ({ frames := 0, cells := 0, slots := 0, locals := 0 } : Room).cells) (KS := ({ frames := 0, cells := 0, slots := 0, locals := 0 } : Room).slots) ?_
  rw [own_ef_rm3o m a b]
  refine own_aloadN X0 hx hby d3_0 (pc' := 1) rfl rfl rfl ?_
  refine own_inst X0 hx hZ hby hown (wd_23 hw) e0 (Ins.self f_O_b.1) d3_1 (pc' := 4) rfl (fun T1 X1 e1 => ?_)
  refine own_ifN X1 hx hby d3_4 (pc' := 7) rfl (show ¬ (1 : Int32) = (0 : Int32) by decide) ?_
  refine own_aloadN X1 hx hby d3_7 (pc' := 8) rfl rfl rfl ?_
  refine own_cast X1 hx hZ hby hown (wd_23 hw) e1 (Ins.self f_O_b.1) d3_8 (pc' := 11) rfl (fun T2 X2 e2 => ?_)
  refine own_astoreN X2 hx hby d3_11 (pc' := 12) rfl rfl (l' := #[.val (.ref a), .val (.ref b), .val (.ref b)]) rfl ?_
  refine own_aloadN X2 hx hby d3_12 (pc' := 13) rfl rfl rfl ?_
  obtain ⟨f_E_a, f_F_a_opCode, f_F_a_flags, f_F_a_payloadLength⟩ := f_O_a
  refine own_getF X2 hx hZ hby hown (host := "") (Or.inl (wd_12 hw)) Via.refl e2 f_F_a_opCode d3_13 (pc' := 16) rfl (fun T3 X3 e3 => ?_)
  refine own_aloadN X3 hx hby d3_16 (pc' := 17) rfl rfl rfl ?_
  obtain ⟨f_E_b, f_F_b_opCode, f_F_b_flags, f_F_b_payloadLength⟩ := f_O_b
  refine own_getF X3 hx hZ hby hown (host := "") (Or.inl (wd_12 hw)) Via.refl e3 f_F_b_opCode d3_17 (pc' := 20) rfl (fun T4 X4 e4 => ?_)
  refine own_ic2 X4 hx hby d3_20 (pc1 := 49) (by decide) (by decide) (pc2 := 23) rfl (fun (hc20 : ¬ a1 = b1) => ?_) (fun (hc20 : a1 = b1) => ?_)
  · refine own_iconst X4 hx hby d3_49 (pc' := 50) rfl (n := (0 : Int32)) (by decide) ?_
    refine own_zreturn X4 hx hlk hby hret (Or.inl rfl) d3_50 (own_lv ?_ (by decide) (by decide))
    show Q3o Z a b a1 a2 a3 b1 b2 b3 z  h0 n0 (some (.int (0 : Int32))) T4.heap _
    rw [e4]
    exact ⟨by rw [← hz]; simp [own_e3, hc20], N0, rfl⟩
  · refine own_aloadN X4 hx hby d3_23 (pc' := 24) rfl rfl rfl ?_
    refine own_getF X4 hx hZ hby hown (host := "") (Or.inl (wd_14 hw)) Via.refl e4 f_F_a_flags d3_24 (pc' := 27) rfl (fun T5 X5 e5 => ?_)
    refine own_aloadN X5 hx hby d3_27 (pc' := 28) rfl rfl rfl ?_
    refine own_getF X5 hx hZ hby hown (host := "") (Or.inl (wd_14 hw)) Via.refl e5 f_F_b_flags d3_28 (pc' := 31) rfl (fun T6 X6 e6 => ?_)
    refine own_ic2 X6 hx hby d3_31 (pc1 := 49) (by decide) (by decide) (pc2 := 34) rfl (fun (hc31 : ¬ a2 = b2) => ?_) (fun (hc31 : a2 = b2) => ?_)
    · refine own_iconst X6 hx hby d3_49 (pc' := 50) rfl (n := (0 : Int32)) (by decide) ?_
      refine own_zreturn X6 hx hlk hby hret (Or.inl rfl) d3_50 (own_lv ?_ (by decide) (by decide))
      show Q3o Z a b a1 a2 a3 b1 b2 b3 z  h0 n0 (some (.int (0 : Int32))) T6.heap _
      rw [e6]
      exact ⟨by rw [← hz]; simp [own_e3, hc20, hc31], N0, rfl⟩
    · refine own_aloadN X6 hx hby d3_34 (pc' := 35) rfl rfl rfl ?_
      refine own_getF X6 hx hZ hby hown (host := "") (Or.inl (wd_16 hw)) Via.refl e6 f_F_a_payloadLength d3_35 (pc' := 38) rfl (fun T7 X7 e7 => ?_)
      refine own_aloadN X7 hx hby d3_38 (pc' := 39) rfl rfl rfl ?_
      refine own_getF X7 hx hZ hby hown (host := "") (Or.inl (wd_16 hw)) Via.refl e7 f_F_b_payloadLength d3_39 (pc' := 42) rfl (fun T8 X8 e8 => ?_)
      refine own_ic2 X8 hx hby d3_42 (pc1 := 49) (by decide) (by decide) (pc2 := 45) rfl (fun (hc42 : ¬ a3 = b3) => ?_) (fun (hc42 : a3 = b3) => ?_)
      · refine own_iconst X8 hx hby d3_49 (pc' := 50) rfl (n := (0 : Int32)) (by decide) ?_
        refine own_zreturn X8 hx hlk hby hret (Or.inl rfl) d3_50 (own_lv ?_ (by decide) (by decide))
        show Q3o Z a b a1 a2 a3 b1 b2 b3 z  h0 n0 (some (.int (0 : Int32))) T8.heap _
        rw [e8]
        exact ⟨by rw [← hz]; simp [own_e3, hc20, hc31, hc42], N0, rfl⟩
      · refine own_iconst X8 hx hby d3_45 (pc' := 46) rfl (n := (1 : Int32)) (by decide) ?_
        refine own_goto X8 hx hby d3_46 (pc' := 50) (by decide) (by decide) ?_
        refine own_zreturn X8 hx hlk hby hret (Or.inr rfl) d3_50 (own_lv ?_ (by decide) (by decide))
        show Q3o Z a b a1 a2 a3 b1 b2 b3 z  h0 n0 (some (.int (1 : Int32))) T8.heap _
        rw [e8]
        exact ⟨by rw [← hz]; simp [own_e3, hc20, hc31, hc42], N0, rfl⟩
theorem own_ef_rm3s (m : MethodId) (a : Addr) (a : Addr)  : entryFrame m #[(.ref a), (.ref a)] 3 = mkF m 0 #[.val (.ref a), .val (.ref a), .unset] [] := by first | (simp [entryFrame, mkF, argsToLocals, Value.category]; done) | rfl
def Q3s (Z : State) (a : Addr) (a1 : Int32) (a2 : Int32) (a3 : Int32) (h0 : Heap) (n0 : Nat) (v : Option Value) (h : Heap) (L : List Loc) : Prop := v = some (.int 1) ∧ Fr n0 L ∧ h = h0
set_option maxRecDepth 65536 in
set_option maxHeartbeats 40000000 in
theorem rm3s (l : Launch) (Z : State) (a0 : Array Value) (hw : ∀ d ∈ tables_1, d.before a0 Z = true) (ws : List Jvm.Cond) (a : Addr) (a1 : Int32) (a2 : Int32) (a3 : Int32) (h0 : Heap) (n0 : Nat) (Z0 : n0 ≤ h0.size) (f_O_a : own_FH Z h0 a a1 a2 a3) :
    MetFree l (⟨"com/example/inflight/inflight/protocol/FrameHeader", "equals", "(Ljava/lang/Object;)Z"⟩ : MethodName) (head1 (Jvm.Cond.code (⟨"com/example/inflight/inflight/protocol/FrameHeader", "equals", "(Ljava/lang/Object;)Z"⟩ : MethodName) prog_84_method_8_code 3 (some .boolean) :: ws) ({ frames := 0, cells := 0, slots := 0, locals := 0 } : Room)) (fun aa U => aa = #[(.ref a), (.ref a)] ∧ Z.Warmed39 U.vm ∧ U.heap = h0) (fun _ _ _ _ _ => True) (fun _ U oc U' => ∃ v L, oc = .returned v ∧ Q3s Z a a1 a2 a3 h0 n0 v U'.heap L ∧ FrameEnd U oc U' L ({ frames := 0, cells := 0, slots := 0, locals := 0 } : Room).cells ({ frames := 0, cells := 0, slots := 0, locals := 0 } : Room).slots) := by
  refine MetFree.of_bodySF (plainFor_of_name own_pn0) hisR ?_
  intro p e s m args below meth c s₁ Bd hml0 hP hK
  obtain ⟨rfl, hZ, hh⟩ := hP
  have hx := Bd.exec
  have hby := Bd.bytes
  have hlk := Bd.notSynchronized
  have hret := Bd.returns
  have hml : c.maxLocals = 3 := hml0
  have hown : s.vm.findClass "com/example/inflight/inflight/protocol/FrameHeader" = some m.cls := findClass_of_methodNamed Bd.named
  have hnm := (name_of_methodNamed Bd.named Bd.method).1
  have X0 : Stand p l e ({ frames := 0, cells := 0, slots := 0, locals := 0 } : Room) s m #[(.ref a), (.ref a)] below meth c s₁ [] 0 0 := Stand.of_body Bd
  have e0 : s₁.heap = h0 := by rw [← hh, Bd.state]; rfl
  have N0 := Fr.nil n0
  refine own_body (Q := Q3s Z a a1 a2 a3 h0 n0) (KC := ({ frames := 0, cells := 0, slots := 0, locals := 0 } : Room).cells) (KS := ({ frames := 0, cells := 0, slots := 0, locals := 0 } : Room).slots) ?_
  rw [own_ef_rm3s m a a]
  refine own_aloadN X0 hx hby d3_0 (pc' := 1) rfl rfl rfl ?_
  refine own_inst X0 hx hZ hby hown (wd_23 hw) e0 (Ins.self f_O_a.1) d3_1 (pc' := 4) rfl (fun T1 X1 e1 => ?_)
  refine own_ifN X1 hx hby d3_4 (pc' := 7) rfl (show ¬ (1 : Int32) = (0 : Int32) by decide) ?_
  refine own_aloadN X1 hx hby d3_7 (pc' := 8) rfl rfl rfl ?_
  refine own_cast X1 hx hZ hby hown (wd_23 hw) e1 (Ins.self f_O_a.1) d3_8 (pc' := 11) rfl (fun T2 X2 e2 => ?_)
  refine own_astoreN X2 hx hby d3_11 (pc' := 12) rfl rfl (l' := #[.val (.ref a), .val (.ref a), .val (.ref a)]) rfl ?_
  refine own_aloadN X2 hx hby d3_12 (pc' := 13) rfl rfl rfl ?_
  obtain ⟨f_E_a, f_F_a_opCode, f_F_a_flags, f_F_a_payloadLength⟩ := f_O_a
  refine own_getF X2 hx hZ hby hown (host := "") (Or.inl (wd_12 hw)) Via.refl e2 f_F_a_opCode d3_13 (pc' := 16) rfl (fun T3 X3 e3 => ?_)
  refine own_aloadN X3 hx hby d3_16 (pc' := 17) rfl rfl rfl ?_
  refine own_getF X3 hx hZ hby hown (host := "") (Or.inl (wd_12 hw)) Via.refl e3 f_F_a_opCode d3_17 (pc' := 20) rfl (fun T4 X4 e4 => ?_)
  refine own_icN X4 hx hby d3_20 (pc' := 23) rfl (show a1 = a1 from rfl) ?_
  refine own_aloadN X4 hx hby d3_23 (pc' := 24) rfl rfl rfl ?_
  refine own_getF X4 hx hZ hby hown (host := "") (Or.inl (wd_14 hw)) Via.refl e4 f_F_a_flags d3_24 (pc' := 27) rfl (fun T5 X5 e5 => ?_)
  refine own_aloadN X5 hx hby d3_27 (pc' := 28) rfl rfl rfl ?_
  refine own_getF X5 hx hZ hby hown (host := "") (Or.inl (wd_14 hw)) Via.refl e5 f_F_a_flags d3_28 (pc' := 31) rfl (fun T6 X6 e6 => ?_)
  refine own_icN X6 hx hby d3_31 (pc' := 34) rfl (show a2 = a2 from rfl) ?_
  refine own_aloadN X6 hx hby d3_34 (pc' := 35) rfl rfl rfl ?_
  refine own_getF X6 hx hZ hby hown (host := "") (Or.inl (wd_16 hw)) Via.refl e6 f_F_a_payloadLength d3_35 (pc' := 38) rfl (fun T7 X7 e7 => ?_)
  refine own_aloadN X7 hx hby d3_38 (pc' := 39) rfl rfl rfl ?_
  refine own_getF X7 hx hZ hby hown (host := "") (Or.inl (wd_16 hw)) Via.refl e7 f_F_a_payloadLength d3_39 (pc' := 42) rfl (fun T8 X8 e8 => ?_)
  refine own_icN X8 hx hby d3_42 (pc' := 45) rfl (show a3 = a3 from rfl) ?_
  refine own_iconst X8 hx hby d3_45 (pc' := 46) rfl (n := (1 : Int32)) (by decide) ?_
  refine own_goto X8 hx hby d3_46 (pc' := 50) (by decide) (by decide) ?_
  refine own_zreturn X8 hx hlk hby hret (Or.inr rfl) d3_50 (own_lv ?_ (by decide) (by decide))
  show Q3s Z a a1 a2 a3  h0 n0 (some (.int (1 : Int32))) T8.heap _
  rw [e8]
  exact ⟨rfl, N0, rfl⟩
theorem own_ef_rm3n (m : MethodId) (a : Addr)  : entryFrame m #[(.ref a), .null] 3 = mkF m 0 #[.val (.ref a), .val .null, .unset] [] := by first | (simp [entryFrame, mkF, argsToLocals, Value.category]; done) | rfl
def Q3n (Z : State) (a : Addr) (h0 : Heap) (n0 : Nat) (v : Option Value) (h : Heap) (L : List Loc) : Prop := v = some (.int 0) ∧ Fr n0 L ∧ h = h0
set_option maxRecDepth 65536 in
set_option maxHeartbeats 40000000 in
theorem rm3n (l : Launch) (Z : State) (a0 : Array Value) (hw : ∀ d ∈ tables_1, d.before a0 Z = true) (ws : List Jvm.Cond) (a : Addr) (h0 : Heap) (n0 : Nat) (Z0 : n0 ≤ h0.size)  :
    MetFree l (⟨"com/example/inflight/inflight/protocol/FrameHeader", "equals", "(Ljava/lang/Object;)Z"⟩ : MethodName) (head1 (Jvm.Cond.code (⟨"com/example/inflight/inflight/protocol/FrameHeader", "equals", "(Ljava/lang/Object;)Z"⟩ : MethodName) prog_84_method_8_code 3 (some .boolean) :: ws) ({ frames := 0, cells := 0, slots := 0, locals := 0 } : Room)) (fun aa U => aa = #[(.ref a), .null] ∧ Z.Warmed39 U.vm ∧ U.heap = h0) (fun _ _ _ _ _ => True) (fun _ U oc U' => ∃ v L, oc = .returned v ∧ Q3n Z a h0 n0 v U'.heap L ∧ FrameEnd U oc U' L ({ frames := 0, cells := 0, slots := 0, locals := 0 } : Room).cells ({ frames := 0, cells := 0, slots := 0, locals := 0 } : Room).slots) := by
  refine MetFree.of_bodySF (plainFor_of_name own_pn0) hisR ?_
  intro p e s m args below meth c s₁ Bd hml0 hP hK
  obtain ⟨rfl, hZ, hh⟩ := hP
  have hx := Bd.exec
  have hby := Bd.bytes
  have hlk := Bd.notSynchronized
  have hret := Bd.returns
  have hml : c.maxLocals = 3 := hml0
  have hown : s.vm.findClass "com/example/inflight/inflight/protocol/FrameHeader" = some m.cls := findClass_of_methodNamed Bd.named
  have hnm := (name_of_methodNamed Bd.named Bd.method).1
  have X0 : Stand p l e ({ frames := 0, cells := 0, slots := 0, locals := 0 } : Room) s m #[(.ref a), .null] below meth c s₁ [] 0 0 := Stand.of_body Bd
  have e0 : s₁.heap = h0 := by rw [← hh, Bd.state]; rfl
  have N0 := Fr.nil n0
  refine own_body (Q := Q3n Z a h0 n0) (KC := ({ frames := 0, cells := 0, slots := 0, locals := 0 } : Room).cells) (KS := ({ frames := 0, cells := 0, slots := 0, locals := 0 } : Room).slots) ?_
  rw [own_ef_rm3n m a]
  refine own_aloadN X0 hx hby d3_0 (pc' := 1) rfl rfl rfl ?_
  refine own_instNull X0 hx hby d3_1 (pc' := 4) rfl ?_
  refine own_ifY X0 hx hby d3_4 (pc' := 49) (by decide) (by decide) (show (0 : Int32) = (0 : Int32) by decide) ?_
  refine own_iconst X0 hx hby d3_49 (pc' := 50) rfl (n := (0 : Int32)) (by decide) ?_
  refine own_zreturn X0 hx hlk hby hret (Or.inl rfl) d3_50 (own_lv ?_ (by decide) (by decide))
  show Q3n Z a  h0 n0 (some (.int (0 : Int32))) s₁.heap _
  rw [e0]
  exact ⟨rfl, N0, rfl⟩
theorem own_ef_rm3i (m : MethodId) (a : Addr) (b : Addr)  : entryFrame m #[(.ref a), (.ref b)] 3 = mkF m 0 #[.val (.ref a), .val (.ref b), .unset] [] := by first | (simp [entryFrame, mkF, argsToLocals, Value.category]; done) | rfl
def Q3i (Z : State) (a : Addr) (b : Addr) (h0 : Heap) (n0 : Nat) (v : Option Value) (h : Heap) (L : List Loc) : Prop := v = some (.int 0) ∧ Fr n0 L ∧ h = h0
set_option maxRecDepth 65536 in
set_option maxHeartbeats 40000000 in
theorem rm3i (l : Launch) (Z : State) (a0 : Array Value) (hw : ∀ d ∈ tables_1, d.before a0 Z = true) (ws : List Jvm.Cond) (a : Addr) (b : Addr) (h0 : Heap) (n0 : Nat) (Z0 : n0 ≤ h0.size) (f_E_b : Exa Z h0 b "java/lang/Integer") :
    MetFree l (⟨"com/example/inflight/inflight/protocol/FrameHeader", "equals", "(Ljava/lang/Object;)Z"⟩ : MethodName) (head1 (Jvm.Cond.code (⟨"com/example/inflight/inflight/protocol/FrameHeader", "equals", "(Ljava/lang/Object;)Z"⟩ : MethodName) prog_84_method_8_code 3 (some .boolean) :: ws) ({ frames := 0, cells := 0, slots := 0, locals := 0 } : Room)) (fun aa U => aa = #[(.ref a), (.ref b)] ∧ Z.Warmed39 U.vm ∧ U.heap = h0) (fun _ _ _ _ _ => True) (fun _ U oc U' => ∃ v L, oc = .returned v ∧ Q3i Z a b h0 n0 v U'.heap L ∧ FrameEnd U oc U' L ({ frames := 0, cells := 0, slots := 0, locals := 0 } : Room).cells ({ frames := 0, cells := 0, slots := 0, locals := 0 } : Room).slots) := by
  refine MetFree.of_bodySF (plainFor_of_name own_pn0) hisR ?_
  intro p e s m args below meth c s₁ Bd hml0 hP hK
  obtain ⟨rfl, hZ, hh⟩ := hP
  have hx := Bd.exec
  have hby := Bd.bytes
  have hlk := Bd.notSynchronized
  have hret := Bd.returns
  have hml : c.maxLocals = 3 := hml0
  have hown : s.vm.findClass "com/example/inflight/inflight/protocol/FrameHeader" = some m.cls := findClass_of_methodNamed Bd.named
  have hnm := (name_of_methodNamed Bd.named Bd.method).1
  have X0 : Stand p l e ({ frames := 0, cells := 0, slots := 0, locals := 0 } : Room) s m #[(.ref a), (.ref b)] below meth c s₁ [] 0 0 := Stand.of_body Bd
  have e0 : s₁.heap = h0 := by rw [← hh, Bd.state]; rfl
  have N0 := Fr.nil n0
  refine own_body (Q := Q3i Z a b h0 n0) (KC := ({ frames := 0, cells := 0, slots := 0, locals := 0 } : Room).cells) (KS := ({ frames := 0, cells := 0, slots := 0, locals := 0 } : Room).slots) ?_
  rw [own_ef_rm3i m a b]
  refine own_aloadN X0 hx hby d3_0 (pc' := 1) rfl rfl rfl ?_
  refine own_instN X0 hx hZ hby hown (wd_23 hw) e0 f_E_b (own_intno hw) d3_1 (pc' := 4) rfl (fun T1 X1 e1 => ?_)
  refine own_ifY X1 hx hby d3_4 (pc' := 49) (by decide) (by decide) (show (0 : Int32) = (0 : Int32) by decide) ?_
  refine own_iconst X1 hx hby d3_49 (pc' := 50) rfl (n := (0 : Int32)) (by decide) ?_
  refine own_zreturn X1 hx hlk hby hret (Or.inl rfl) d3_50 (own_lv ?_ (by decide) (by decide))
  show Q3i Z a b  h0 n0 (some (.int (0 : Int32))) T1.heap _
  rw [e1]
  exact ⟨rfl, N0, rfl⟩
theorem own_ef_rm6 (m : MethodId) (a : Addr)  : entryFrame m #[(.ref a)] 1 = mkF m 0 #[.val (.ref a)] [] := by first | (simp [entryFrame, mkF, argsToLocals, Value.category]; done) | rfl
def Q6 (Z : State) (a : Addr) (h0 : Heap) (n0 : Nat) (v : Option Value) (h : Heap) (L : List Loc) : Prop := v = none ∧ Fr n0 L ∧ h = h0
set_option maxRecDepth 65536 in
set_option maxHeartbeats 40000000 in
theorem rm6 (l : Launch) (Z : State) (a0 : Array Value) (hw : ∀ d ∈ tables_1, d.before a0 Z = true) (ws : List Jvm.Cond) (a : Addr) (h0 : Heap) (n0 : Nat) (Z0 : n0 ≤ h0.size)  :
    MetFree l (⟨"java/lang/Number", "<init>", "()V"⟩ : MethodName) (head1 (Jvm.Cond.code (⟨"java/lang/Number", "<init>", "()V"⟩ : MethodName) jdk_18_method_1_code 1 none :: ws) ({ frames := 1, cells := 0, slots := 0, locals := 12 } : Room)) (fun aa U => aa = #[(.ref a)] ∧ Z.Warmed39 U.vm ∧ U.heap = h0) (fun _ _ _ _ _ => True) (fun _ U oc U' => ∃ v L, oc = .returned v ∧ Q6 Z a h0 n0 v U'.heap L ∧ FrameEnd U oc U' L ({ frames := 1, cells := 0, slots := 0, locals := 12 } : Room).cells ({ frames := 1, cells := 0, slots := 0, locals := 12 } : Room).slots) := by
  refine MetFree.of_bodySF (plainFor_of_name own_pn1) hisR ?_
  intro p e s m args below meth c s₁ Bd hml0 hP hK
  obtain ⟨rfl, hZ, hh⟩ := hP
  have hx := Bd.exec
  have hby := Bd.bytes
  have hlk := Bd.notSynchronized
  have hret := Bd.returns
  have hml : c.maxLocals = 1 := hml0
  have hown : s.vm.findClass "java/lang/Number" = some m.cls := findClass_of_methodNamed Bd.named
  have hnm := (name_of_methodNamed Bd.named Bd.method).1
  have X0 : Stand p l e ({ frames := 1, cells := 0, slots := 0, locals := 12 } : Room) s m #[(.ref a)] below meth c s₁ [] 0 0 := Stand.of_body Bd
  have e0 : s₁.heap = h0 := by rw [← hh, Bd.state]; rfl
  have N0 := Fr.nil n0
  refine own_body (Q := Q6 Z a h0 n0) (KC := ({ frames := 1, cells := 0, slots := 0, locals := 12 } : Room).cells) (KS := ({ frames := 1, cells := 0, slots := 0, locals := 12 } : Room).slots) ?_
  rw [own_ef_rm6 m a]
  refine own_aloadN X0 hx hby d6_0 (pc' := 1) rfl rfl rfl ?_
  refine own_init X0 hx hZ hby hown (wd_47 hw) (wd_9 hw) (wd_10 hw) e0 (by rw [hml]; rfl) d6_1 (pc' := 4) rfl (by decide) (W := 0) (Nat.le_of_eq rfl) (by decide) (fun T1 X1 e1 => ?_)
  refine own_return X1 hx hlk hby hret d6_4 (own_lv ?_ (by decide) (by decide))
  show Q6 Z a  h0 n0 none T1.heap _
  rw [e1]
  exact ⟨rfl, N0, rfl⟩
theorem own_ef_rm5 (m : MethodId) (a : Addr) (x : Int32)  : entryFrame m #[(.ref a), (.int x)] 2 = mkF m 0 #[.val (.ref a), .val (.int x)] [] := by first | (simp [entryFrame, mkF, argsToLocals, Value.category]; done) | rfl
def Q5 (Z : State) (a : Addr) (x : Int32) (h0 : Heap) (n0 : Nat) (v : Option Value) (h : Heap) (L : List Loc) : Prop := v = none ∧ Fr n0 L ∧ Keep h0 h [a] ∧ own_IN Z h a x
set_option maxRecDepth 65536 in
set_option maxHeartbeats 40000000 in
theorem rm5 (l : Launch) (Z : State) (a0 : Array Value) (hw : ∀ d ∈ tables_1, d.before a0 Z = true) (ws : List Jvm.Cond) (a : Addr) (x : Int32) (h0 : Heap) (n0 : Nat) (Z0 : n0 ≤ h0.size) (f_O_a : own_IN Z h0 a (0 : Int32)) (ge_a : n0 ≤ a) :
    MetFree l (⟨"java/lang/Integer", "<init>", "(I)V"⟩ : MethodName) (head1 (Jvm.Cond.code (⟨"java/lang/Integer", "<init>", "(I)V"⟩ : MethodName) jdk_33_method_23_code 2 none :: ws) ({ frames := 2, cells := 0, slots := 0, locals := 24 } : Room)) (fun aa U => aa = #[(.ref a), (.int x)] ∧ Z.Warmed39 U.vm ∧ U.heap = h0) (fun _ _ _ _ _ => True) (fun _ U oc U' => ∃ v L, oc = .returned v ∧ Q5 Z a x h0 n0 v U'.heap L ∧ FrameEnd U oc U' L ({ frames := 2, cells := 0, slots := 0, locals := 24 } : Room).cells ({ frames := 2, cells := 0, slots := 0, locals := 24 } : Room).slots) := by
  refine MetFree.of_bodySF (plainFor_of_name own_pn3) hisR ?_
  intro p e s m args below meth c s₁ Bd hml0 hP hK
  obtain ⟨rfl, hZ, hh⟩ := hP
  have hx := Bd.exec
  have hby := Bd.bytes
  have hlk := Bd.notSynchronized
  have hret := Bd.returns
  have hml : c.maxLocals = 2 := hml0
  have hown : s.vm.findClass "java/lang/Integer" = some m.cls := findClass_of_methodNamed Bd.named
  have hnm := (name_of_methodNamed Bd.named Bd.method).1
  have X0 : Stand p l e ({ frames := 2, cells := 0, slots := 0, locals := 24 } : Room) s m #[(.ref a), (.int x)] below meth c s₁ [] 0 0 := Stand.of_body Bd
  have e0 : s₁.heap = h0 := by rw [← hh, Bd.state]; rfl
  have N0 := Fr.nil n0
  refine own_body (Q := Q5 Z a x h0 n0) (KC := ({ frames := 2, cells := 0, slots := 0, locals := 24 } : Room).cells) (KS := ({ frames := 2, cells := 0, slots := 0, locals := 24 } : Room).slots) ?_
  rw [own_ef_rm5 m a x]
  have Kp : Keep h0 h0 [a] := Keep.refl h0 _
  refine own_aloadN X0 hx hby d5_0 (pc' := 1) rfl rfl rfl ?_
  refine own_lk0 hw X0 hx hZ hby (by rw [hml]; rfl) hown d5_1 (pc' := 4) rfl e0 (W := 0) (Nat.le_of_eq rfl) (rm6 l Z a0 hw [] a h0 n0 Z0 ) (by decide) (by decide) (by decide) (by decide) (fun v1 T1 L1 X1 hQ1 => ?_)
  obtain ⟨rfl, Nq1, e1⟩ := hQ1
  have N1 := Fr.app N0 Nq1
  show own_End p e below _ (T1.setTop (mkF m 4 _ []))
  refine own_aloadN X1 hx hby d5_4 (pc' := 5) rfl rfl rfl ?_
  refine own_iloadN X1 hx hby d5_5 (pc' := 6) rfl rfl ?_
  obtain ⟨f_E_a, f_F_a_value⟩ := f_O_a
  refine own_putF X1 hx hZ hby hown (host := "") (Or.inl (wd_48 hw)) Via.refl e1 f_F_a_value f_E_a (Or.inr ⟨(wd_49 hw), rfl, hnm⟩) (wd_36 hw) (ty := .int) (by decide) rfl rfl d5_6 (pc' := 9) rfl (fun T2 h2 X2 e2 W2 => ?_)
  have f_F_a_value := f_F_a_value.same W2
  have f_E_a := f_E_a.wr W2
  have Zn := Nat.le_trans Z0 (Keep.of_wr W2).1
  have Kp := Kp.wr W2 (Or.inl (List.mem_of_getElem? (i := 0) rfl))
  have N2 := Fr.snoc X2 N1 ge_a
  refine own_return X2 hx hlk hby hret d5_9 (own_lv ?_ (by decide) (by decide))
  show Q5 Z a x  h0 n0 none T2.heap _
  rw [e2]
  exact ⟨rfl, N2, Kp, ⟨f_E_a, f_F_a_value⟩⟩
theorem own_ef_rm4 (m : MethodId) (x : Int32)  : entryFrame m #[(.int x)] 1 = mkF m 0 #[.val (.int x)] [] := by first | (simp [entryFrame, mkF, argsToLocals, Value.category]; done) | rfl
def Q4 (Z : State) (x : Int32) (ca : Addr) (cl : Cell) (h0 : Heap) (n0 : Nat) (v : Option Value) (h : Heap) (L : List Loc) : Prop := ∃ o : Addr, v = some (.ref o) ∧ Fr n0 L ∧ Keep h0 h [] ∧ Exa Z h o "java/lang/Integer"
set_option maxRecDepth 65536 in
set_option maxHeartbeats 40000000 in
theorem rm4 (l : Launch) (Z : State) (a0 : Array Value) (hw : ∀ d ∈ tables_1, d.before a0 Z = true) (ws : List Jvm.Cond) (x : Int32) (ca : Addr) (cl : Cell) (h0 : Heap) (n0 : Nat) (Z0 : n0 ≤ h0.size) (f_S_java_lang_Integer_IntegerCache_high : Sta Z h0 "java/lang/Integer$IntegerCache" "high" "I" (.int (127 : Int32))) (f_S_java_lang_Integer_IntegerCache_cache : Sta Z h0 "java/lang/Integer$IntegerCache" "cache" "[Ljava/lang/Integer;" (.ref ca)) (f_IC_ca : own_IC Z h0 ca cl) :
    MetFree l (⟨"java/lang/Integer", "valueOf", "(I)Ljava/lang/Integer;"⟩ : MethodName) (head1 (Jvm.Cond.code (⟨"java/lang/Integer", "valueOf", "(I)Ljava/lang/Integer;"⟩ : MethodName) jdk_33_method_22_code 1 (some (.object "java/lang/Integer")) :: ws) ({ frames := 3, cells := 1, slots := 1, locals := 38 } : Room)) (fun aa U => aa = #[(.int x)] ∧ Z.Warmed39 U.vm ∧ U.heap = h0) (fun _ _ _ _ _ => True) (fun _ U oc U' => ∃ v L, oc = .returned v ∧ Q4 Z x ca cl h0 n0 v U'.heap L ∧ FrameEnd U oc U' L ({ frames := 3, cells := 1, slots := 1, locals := 38 } : Room).cells ({ frames := 3, cells := 1, slots := 1, locals := 38 } : Room).slots) := by
  refine MetFree.of_bodySF (plainFor_of_name own_pn3) hisR ?_
  intro p e s m args below meth c s₁ Bd hml0 hP hK
  obtain ⟨rfl, hZ, hh⟩ := hP
  have hx := Bd.exec
  have hby := Bd.bytes
  have hlk := Bd.notSynchronized
  have hret := Bd.returns
  have hml : c.maxLocals = 1 := hml0
  have hown : s.vm.findClass "java/lang/Integer" = some m.cls := findClass_of_methodNamed Bd.named
  have hnm := (name_of_methodNamed Bd.named Bd.method).1
  have X0 : Stand p l e ({ frames := 3, cells := 1, slots := 1, locals := 38 } : Room) s m #[(.int x)] below meth c s₁ [] 0 0 := Stand.of_body Bd
  have e0 : s₁.heap = h0 := by rw [← hh, Bd.state]; rfl
  have N0 := Fr.nil n0
  refine own_body (Q := Q4 Z x ca cl h0 n0) (KC := ({ frames := 3, cells := 1, slots := 1, locals := 38 } : Room).cells) (KS := ({ frames := 3, cells := 1, slots := 1, locals := 38 } : Room).slots) ?_
  rw [own_ef_rm4 m x]
  have Kp : Keep h0 h0 [] := Keep.refl h0 _
  refine own_iloadN X0 hx hby d4_0 (pc' := 1) rfl rfl ?_
  refine own_bipush X0 hx hby d4_1 (pc' := 3) rfl (n := (-128 : Int32)) (by decide) ?_
  refine own_ic2 X0 hx hby d4_3 (pc1 := 23) (by decide) (by decide) (pc2 := 6) rfl (fun (hc3 : x < (-128 : Int32)) => ?_) (fun (hc3 : ¬ x < (-128 : Int32)) => ?_)
  · refine own_new X0 hx hZ hby hown (wd_35 hw) (wd_36 hw) (wd_27 hw) e0 d4_23 (pc' := 26) rfl (by decide) (by decide) (fun T1 h1 b1 g1 X1 e1 E1 A1 D1 => ?_)
    have ne_ca_b1 : ca ≠ b1 := Nat.ne_of_lt (by rw [g1]; exact f_IC_ca.lt)
    have ge_b1 : n0 ≤ b1 := by rw [g1]; exact Z0
    have sz_b1 : h0.size ≤ b1 := by rw [g1]; exact Kp.1
    have f_S_java_lang_Integer_IntegerCache_high := f_S_java_lang_Integer_IntegerCache_high.ext E1
    have f_S_java_lang_Integer_IntegerCache_cache := f_S_java_lang_Integer_IntegerCache_cache.ext E1
    have f_IC_ca := f_IC_ca.ext E1
    have Zn := Nat.le_trans Z0 E1.1
    have Kp := Kp.ext E1
    have f_O_b1 : own_IN Z h1 b1 (0 : Int32) := ⟨A1, D1 (Or.inr (wd_49 hw)) (ty := .int) (by decide)⟩
    refine own_dup X1 hx hby d4_26 (pc' := 27) rfl rfl ?_
    refine own_iloadN X1 hx hby d4_27 (pc' := 28) rfl rfl ?_
    refine own_lk1 hw X1 hx hZ hby (by rw [hml]; rfl) hown d4_28 (pc' := 31) rfl e1 (W := 1) (Nat.le_of_eq rfl) (rm5 l Z a0 hw [] b1 x h1 n0 Zn f_O_b1 ge_b1) (by decide) (by decide) (by decide) (by decide) (fun v2 T2 L2 X2 hQ2 => ?_)
    obtain ⟨rfl, Nq2, K2, O2⟩ := hQ2
    have N2 := Fr.app N0 Nq2
    have f_S_java_lang_Integer_IntegerCache_high := own_sta1 f_S_java_lang_Integer_IntegerCache_high K2 f_O_b1.1
    have f_S_java_lang_Integer_IntegerCache_cache := own_sta1 f_S_java_lang_Integer_IntegerCache_cache K2 f_O_b1.1
    have f_IC_ca := f_IC_ca.keep K2 (ninS ne_ca_b1 nin0)
    have Zn := Nat.le_trans Zn K2.1
    have Kp := Kp.trans K2 (allS (Or.inr sz_b1) all0)
    show own_End p e below _ (T2.setTop (mkF m 31 _ [(.ref b1)]))
    refine own_areturn X2 hx hlk hby hret rfl rfl d4_31 (own_lv ?_ (by decide) (by decide))
    show Q4 Z x ca cl  h0 n0 (some (.ref b1)) T2.heap _
    exact ⟨_, rfl, N2, Kp, O2.1⟩
  · refine own_iloadN X0 hx hby d4_6 (pc' := 7) rfl rfl ?_
    refine own_getS X0 hx hZ hby hown (host := "") (Or.inl (wd_29 hw)) Via.refl e0 f_S_java_lang_Integer_IntegerCache_high d4_7 (pc' := 10) rfl (fun T3 X3 e3 => ?_)
    refine own_ic2 X3 hx hby d4_10 (pc1 := 23) (by decide) (by decide) (pc2 := 13) rfl (fun (hc10 : (127 : Int32) < x) => ?_) (fun (hc10 : ¬ (127 : Int32) < x) => ?_)
    · refine own_new X3 hx hZ hby hown (wd_35 hw) (wd_36 hw) (wd_27 hw) e3 d4_23 (pc' := 26) rfl (by decide) (by decide) (fun T4 h4 b4 g4 X4 e4 E4 A4 D4 => ?_)
      have ne_ca_b4 : ca ≠ b4 := Nat.ne_of_lt (by rw [g4]; exact f_IC_ca.lt)
      have ge_b4 : n0 ≤ b4 := by rw [g4]; exact Z0
      have sz_b4 : h0.size ≤ b4 := by rw [g4]; exact Kp.1
      have f_S_java_lang_Integer_IntegerCache_high := f_S_java_lang_Integer_IntegerCache_high.ext E4
      have f_S_java_lang_Integer_IntegerCache_cache := f_S_java_lang_Integer_IntegerCache_cache.ext E4
      have f_IC_ca := f_IC_ca.ext E4
      have Zn := Nat.le_trans Z0 E4.1
      have Kp := Kp.ext E4
      have f_O_b4 : own_IN Z h4 b4 (0 : Int32) := ⟨A4, D4 (Or.inr (wd_49 hw)) (ty := .int) (by decide)⟩
      refine own_dup X4 hx hby d4_26 (pc' := 27) rfl rfl ?_
      refine own_iloadN X4 hx hby d4_27 (pc' := 28) rfl rfl ?_
      refine own_lk1 hw X4 hx hZ hby (by rw [hml]; rfl) hown d4_28 (pc' := 31) rfl e4 (W := 1) (Nat.le_of_eq rfl) (rm5 l Z a0 hw [] b4 x h4 n0 Zn f_O_b4 ge_b4) (by decide) (by decide) (by decide) (by decide) (fun v5 T5 L5 X5 hQ5 => ?_)
      obtain ⟨rfl, Nq5, K5, O5⟩ := hQ5
      have N5 := Fr.app N0 Nq5
      have f_S_java_lang_Integer_IntegerCache_high := own_sta1 f_S_java_lang_Integer_IntegerCache_high K5 f_O_b4.1
      have f_S_java_lang_Integer_IntegerCache_cache := own_sta1 f_S_java_lang_Integer_IntegerCache_cache K5 f_O_b4.1
      have f_IC_ca := f_IC_ca.keep K5 (ninS ne_ca_b4 nin0)
      have Zn := Nat.le_trans Zn K5.1
      have Kp := Kp.trans K5 (allS (Or.inr sz_b4) all0)
      show own_End p e below _ (T5.setTop (mkF m 31 _ [(.ref b4)]))
      refine own_areturn X5 hx hlk hby hret rfl rfl d4_31 (own_lv ?_ (by decide) (by decide))
      show Q4 Z x ca cl  h0 n0 (some (.ref b4)) T5.heap _
      exact ⟨_, rfl, N5, Kp, O5.1⟩
    · refine own_getS X3 hx hZ hby hown (host := "") (Or.inl (wd_31 hw)) Via.refl e3 f_S_java_lang_Integer_IntegerCache_cache d4_13 (pc' := 16) rfl (fun T6 X6 e6 => ?_)
      refine own_iloadN X6 hx hby d4_16 (pc' := 17) rfl rfl ?_
      refine own_sipush X6 hx hby d4_17 (pc' := 20) rfl (n := (128 : Int32)) (by decide) ?_
      refine own_iadd X6 hx hby d4_20 (pc' := 21) rfl ?_
      obtain ⟨hin7, o7, hat7, Eo7⟩ := f_IC_ca.at x hc3 hc10
      refine own_aaload X6 hx hZ hby e6 f_IC_ca.1 rfl hin7 hat7 d4_21 (pc' := 22) rfl ?_
      refine own_areturn X6 hx hlk hby hret rfl rfl d4_22 (own_lv ?_ (by decide) (by decide))
      show Q4 Z x ca cl  h0 n0 (some (.ref o7)) T6.heap _
      rw [e6]
      exact ⟨_, rfl, N0, Kp, Eo7⟩
theorem own_ef_rm0 (m : MethodId) (p0 : Int32) (p1 : Int32) (p2 : Int32) (p3 : Int32) (p4 : Int32) (p5 : Int32)  : entryFrame m #[(.int p0), (.int p1), (.int p2), (.int p3), (.int p4), (.int p5)] maxLocals = mkF m 0 #[.val (.int p0), .val (.int p1), .val (.int p2), .val (.int p3), .val (.int p4), .val (.int p5), .unset, .unset, .unset, .unset, .unset, .unset, .unset, .unset, .unset, .unset, .unset, .unset, .unset, .unset, .unset] [] := by first | (simp [entryFrame, mkF, argsToLocals, Value.category, maxLocals]; done) | rfl
def Q0 (Z : State) (p0 : Int32) (p1 : Int32) (p2 : Int32) (p3 : Int32) (p4 : Int32) (p5 : Int32) (ca : Addr) (cl : Cell) (h0 : Heap) (n0 : Nat) (v : Option Value) (h : Heap) (L : List Loc) : Prop := v = some (.int 1) ∧ Fr n0 L
set_option maxRecDepth 65536 in
set_option maxHeartbeats 40000000 in
theorem own_s83 {p : Program} {l : Launch} {e : Env} {s : State} {m : MethodId} {below : List Frame} {meth : Method} {c : Code} {T0 : State} {locs : List Loc} (Z : State) (a0 : Array Value) (hw : ∀ d ∈ tables_1, d.before a0 Z = true) (p0 : Int32) (p1 : Int32) (p2 : Int32) (p3 : Int32) (p4 : Int32) (p5 : Int32) (ca : Addr) (cl : Cell) (o1 : Int32) (f1 : Int32) (l1 : Int32) (o2 : Int32) (f2 : Int32) (l2 : Int32) (h0 : Heap) (n0 : Nat) (h1 : Heap)
    (X0 : Stand p l e room_1 s m #[(.int p0), (.int p1), (.int p2), (.int p3), (.int p4), (.int p5)] below meth c T0 locs 0 0) (hx : p.tables.exec = Jvm.exec) (hby : c.code = code) (hlk : meth.locks = false) (hml : c.maxLocals = 21) (hown : s.vm.findClass "com/example/inflight/inflight/protocol/FrameHeaderEqualsPinLaw" = some m.cls) (hret : meth.sig.returnType = some .boolean) (hZ : Z.Warmed39 s.vm) (e1 : T0.heap = h1) (N0 : Fr n0 locs) (Z1 : n0 ≤ h1.size) (f_S_java_lang_Integer_IntegerCache_high : Sta Z h1 "java/lang/Integer$IntegerCache" "high" "I" (.int (127 : Int32))) (f_S_java_lang_Integer_IntegerCache_cache : Sta Z h1 "java/lang/Integer$IntegerCache" "cache" "[Ljava/lang/Integer;" (.ref ca)) (f_IC_ca : own_IC Z h1 ca cl) (ho1 : 0 ≤ o1.toInt ∧ o1.toInt ≤ 255) (hf1 : 0 ≤ f1.toInt ∧ f1.toInt ≤ 255) (hl1 : 0 ≤ l1.toInt ∧ l1.toInt ≤ 33554432) (ho2 : 0 ≤ o2.toInt ∧ o2.toInt ≤ 255) (hf2 : 0 ≤ f2.toInt ∧ f2.toInt ≤ 255) (hl2 : 0 ≤ l2.toInt ∧ l2.toInt ≤ 33554432) :
    own_End p e below (own_F s (Q0 Z p0 p1 p2 p3 p4 p5 ca cl h0 n0) room_1.cells room_1.slots) (T0.setTop (mkF m 83 #[.val (.int p0), .val (.int p1), .val (.int p2), .val (.int p3), .val (.int p4), .val (.int p5), .val (.int o1), .val (.int f1), .val (.int l1), .val (.int o2), .val (.int f2), .val (.int l2), .unset, .unset, .unset, .unset, .unset, .unset, .unset, .unset, .unset] [])) := by
  refine own_iload X0 hx hby at_83 (pc' := 85) rfl rfl ?_
  refine own_bipush X0 hx hby at_85 (pc' := 87) rfl (n := (8 : Int32)) (by decide) ?_
  refine own_iushr X0 hx hby at_87 (pc' := 88) rfl ?_
  refine own_iconst X0 hx hby at_88 (pc' := 89) rfl (n := (3 : Int32)) (by decide) ?_
  refine own_iand X0 hx hby at_89 (pc' := 90) rfl ?_
  rcases own_and3 (p4.toUInt32 >>> ((8 : Int32) &&& 31).toUInt32).toInt32 with hs1 | hs1 | hs1 | hs1
  · rw [hs1]
    show own_End p e below _ (T0.setTop (mkF m 90 #[.val (.int p0), .val (.int p1), .val (.int p2), .val (.int p3), .val (.int p4), .val (.int p5), .val (.int o1), .val (.int f1), .val (.int l1), .val (.int o2), .val (.int f2), .val (.int l2), .unset, .unset, .unset, .unset, .unset, .unset, .unset, .unset, .unset] [(.int (0 : Int32))]))
    refine own_istore X0 hx hby at_90 (pc' := 92) rfl (l' := #[.val (.int p0), .val (.int p1), .val (.int p2), .val (.int p3), .val (.int p4), .val (.int p5), .val (.int o1), .val (.int f1), .val (.int l1), .val (.int o2), .val (.int f2), .val (.int l2), .val (.int (0 : Int32)), .unset, .unset, .unset, .unset, .unset, .unset, .unset, .unset]) rfl ?_
    refine own_new X0 hx hZ hby hown (wd_2 hw) (wd_3 hw) (wd_4 hw) e1 at_92 (pc' := 95) rfl (by decide) (by decide) (fun T2 h2 b2 g2 X2 e2 E2 A2 D2 => ?_)
    have ne_ca_b2 : ca ≠ b2 := Nat.ne_of_lt (by rw [g2]; exact f_IC_ca.lt)
    have ge_b2 : n0 ≤ b2 := by rw [g2]; exact Z1
    have f_S_java_lang_Integer_IntegerCache_high := f_S_java_lang_Integer_IntegerCache_high.ext E2
    have f_S_java_lang_Integer_IntegerCache_cache := f_S_java_lang_Integer_IntegerCache_cache.ext E2
    have f_IC_ca := f_IC_ca.ext E2
    have Zn := Nat.le_trans Z1 E2.1
    have f_O_b2 : own_FH Z h2 b2 (0 : Int32) (0 : Int32) (0 : Int32) := ⟨A2, D2 (Or.inr (wd_13 hw)) (ty := .int) (by decide), D2 (Or.inr (wd_15 hw)) (ty := .int) (by decide), D2 (Or.inr (wd_17 hw)) (ty := .int) (by decide)⟩
    refine own_dup X2 hx hby at_95 (pc' := 96) rfl rfl ?_
    refine own_iload X2 hx hby at_96 (pc' := 98) rfl rfl ?_
    refine own_iload X2 hx hby at_98 (pc' := 100) rfl rfl ?_
    refine own_iload X2 hx hby at_100 (pc' := 102) rfl rfl ?_
    refine own_lk2 hw X2 hx hZ hby (by rw [hml]; rfl) hown at_102 (pc' := 105) rfl e2 (W := 1) (Nat.le_of_eq rfl) (rm1 l Z a0 hw [] b2 o1 f1 l1 h2 n0 Zn f_O_b2 ge_b2 ho1 hf1 hl1) (by decide) (by decide) (by decide) (by decide) (fun v3 T3 L3 X3 hQ3 => ?_)
    obtain ⟨rfl, Nq3, K3, O3⟩ := hQ3
    have N3 := Fr.app N0 Nq3
    have f_S_java_lang_Integer_IntegerCache_high := own_sta1 f_S_java_lang_Integer_IntegerCache_high K3 f_O_b2.1
    have f_S_java_lang_Integer_IntegerCache_cache := own_sta1 f_S_java_lang_Integer_IntegerCache_cache K3 f_O_b2.1
    have f_IC_ca := f_IC_ca.keep K3 (ninS ne_ca_b2 nin0)
    have Zn := Nat.le_trans Zn K3.1
    show own_End p e below _ (T3.setTop (mkF m 105 _ [(.ref b2)]))
    refine own_astore X3 hx hby at_105 (pc' := 107) rfl rfl (l' := #[.val (.int p0), .val (.int p1), .val (.int p2), .val (.int p3), .val (.int p4), .val (.int p5), .val (.int o1), .val (.int f1), .val (.int l1), .val (.int o2), .val (.int f2), .val (.int l2), .val (.int (0 : Int32)), .val (.ref b2), .unset, .unset, .unset, .unset, .unset, .unset, .unset]) rfl ?_
    refine own_new X3 hx hZ hby hown (wd_2 hw) (wd_3 hw) (wd_4 hw) rfl at_107 (pc' := 110) rfl (by decide) (by decide) (fun T4 h4 b4 g4 X4 e4 E4 A4 D4 => ?_)
    have ne_ca_b4 : ca ≠ b4 := Nat.ne_of_lt (by rw [g4]; exact f_IC_ca.lt)
    have ne_b2_b4 : b2 ≠ b4 := Nat.ne_of_lt (by rw [g4]; exact O3.lt)
    have ge_b4 : n0 ≤ b4 := by rw [g4]; exact Zn
    have f_S_java_lang_Integer_IntegerCache_high := f_S_java_lang_Integer_IntegerCache_high.ext E4
    have f_S_java_lang_Integer_IntegerCache_cache := f_S_java_lang_Integer_IntegerCache_cache.ext E4
    have f_IC_ca := f_IC_ca.ext E4
    have O3 := O3.ext E4
    have Zn := Nat.le_trans Zn E4.1
    have f_O_b4 : own_FH Z h4 b4 (0 : Int32) (0 : Int32) (0 : Int32) := ⟨A4, D4 (Or.inr (wd_13 hw)) (ty := .int) (by decide), D4 (Or.inr (wd_15 hw)) (ty := .int) (by decide), D4 (Or.inr (wd_17 hw)) (ty := .int) (by decide)⟩
    refine own_dup X4 hx hby at_110 (pc' := 111) rfl rfl ?_
    refine own_iload X4 hx hby at_111 (pc' := 113) rfl rfl ?_
    refine own_iload X4 hx hby at_113 (pc' := 115) rfl rfl ?_
    refine own_iload X4 hx hby at_115 (pc' := 117) rfl rfl ?_
    refine own_lk2 hw X4 hx hZ hby (by rw [hml]; rfl) hown at_117 (pc' := 120) rfl e4 (W := 1) (Nat.le_of_eq rfl) (rm1 l Z a0 hw [] b4 o2 f2 l2 h4 n0 Zn f_O_b4 ge_b4 ho2 hf2 hl2) (by decide) (by decide) (by decide) (by decide) (fun v5 T5 L5 X5 hQ5 => ?_)
    obtain ⟨rfl, Nq5, K5, O5⟩ := hQ5
    have N5 := Fr.app N3 Nq5
    have f_S_java_lang_Integer_IntegerCache_high := own_sta1 f_S_java_lang_Integer_IntegerCache_high K5 f_O_b4.1
    have f_S_java_lang_Integer_IntegerCache_cache := own_sta1 f_S_java_lang_Integer_IntegerCache_cache K5 f_O_b4.1
    have f_IC_ca := f_IC_ca.keep K5 (ninS ne_ca_b4 nin0)
    have O3 := O3.keep K5 (ninS ne_b2_b4 nin0)
    have Zn := Nat.le_trans Zn K5.1
    show own_End p e below _ (T5.setTop (mkF m 120 _ [(.ref b4)]))
    refine own_astore X5 hx hby at_120 (pc' := 122) rfl rfl (l' := #[.val (.int p0), .val (.int p1), .val (.int p2), .val (.int p3), .val (.int p4), .val (.int p5), .val (.int o1), .val (.int f1), .val (.int l1), .val (.int o2), .val (.int f2), .val (.int l2), .val (.int (0 : Int32)), .val (.ref b2), .val (.ref b4), .unset, .unset, .unset, .unset, .unset, .unset]) rfl ?_
    refine own_iload X5 hx hby at_122 (pc' := 124) rfl rfl ?_
    refine own_iconst X5 hx hby at_124 (pc' := 125) rfl (n := (2 : Int32)) (by decide) ?_
    refine own_icY X5 hx hby at_125 (pc' := 134) (by decide) (by decide) (show ¬ (0 : Int32) = (2 : Int32) by decide) ?_
    refine own_iload X5 hx hby at_134 (pc' := 136) rfl rfl ?_
    refine own_iconst X5 hx hby at_136 (pc' := 137) rfl (n := (3 : Int32)) (by decide) ?_
    refine own_icY X5 hx hby at_137 (pc' := 149) (by decide) (by decide) (show ¬ (0 : Int32) = (3 : Int32) by decide) ?_
    refine own_aload X5 hx hby at_149 (pc' := 151) rfl rfl rfl ?_
    refine own_astore X5 hx hby at_151 (pc' := 153) rfl rfl (l' := #[.val (.int p0), .val (.int p1), .val (.int p2), .val (.int p3), .val (.int p4), .val (.int p5), .val (.int o1), .val (.int f1), .val (.int l1), .val (.int o2), .val (.int f2), .val (.int l2), .val (.int (0 : Int32)), .val (.ref b2), .val (.ref b4), .val (.ref b4), .unset, .unset, .unset, .unset, .unset]) rfl ?_
    refine own_iload X5 hx hby at_153 (pc' := 155) rfl rfl ?_
    refine own_iload X5 hx hby at_155 (pc' := 157) rfl rfl ?_
    refine own_ic2 X5 hx hby at_157 (pc1 := 178) (by decide) (by decide) (pc2 := 160) rfl (fun (hc157 : ¬ o1 = o2) => ?_) (fun (hc157 : o1 = o2) => ?_)
    · refine own_iconst X5 hx hby at_178 (pc' := 179) rfl (n := (0 : Int32)) (by decide) ?_
      refine own_istore X5 hx hby at_179 (pc' := 181) rfl (l' := #[.val (.int p0), .val (.int p1), .val (.int p2), .val (.int p3), .val (.int p4), .val (.int p5), .val (.int o1), .val (.int f1), .val (.int l1), .val (.int o2), .val (.int f2), .val (.int l2), .val (.int (0 : Int32)), .val (.ref b2), .val (.ref b4), .val (.ref b4), .val (.int (0 : Int32)), .unset, .unset, .unset, .unset]) rfl ?_
      refine own_iload X5 hx hby at_181 (pc' := 183) rfl rfl ?_
      refine own_iconst X5 hx hby at_183 (pc' := 184) rfl (n := (2 : Int32)) (by decide) ?_
      refine own_icN X5 hx hby at_184 (pc' := 187) rfl (show (0 : Int32) < (2 : Int32) by decide) ?_
      refine own_iload X5 hx hby at_187 (pc' := 189) rfl rfl ?_
      refine own_ifY X5 hx hby at_189 (pc' := 196) (by decide) (by decide) (show (0 : Int32) = (0 : Int32) by decide) ?_
      refine own_iconst X5 hx hby at_196 (pc' := 197) rfl (n := (0 : Int32)) (by decide) ?_
      refine own_istore X5 hx hby at_197 (pc' := 199) rfl (l' := #[.val (.int p0), .val (.int p1), .val (.int p2), .val (.int p3), .val (.int p4), .val (.int p5), .val (.int o1), .val (.int f1), .val (.int l1), .val (.int o2), .val (.int f2), .val (.int l2), .val (.int (0 : Int32)), .val (.ref b2), .val (.ref b4), .val (.ref b4), .val (.int (0 : Int32)), .val (.int (0 : Int32)), .unset, .unset, .unset]) rfl ?_
      refine own_aload X5 hx hby at_199 (pc' := 201) rfl rfl rfl ?_
      refine own_aload X5 hx hby at_201 (pc' := 203) rfl rfl rfl ?_
      refine own_lk3 hw X5 hx hZ hby (by rw [hml]; rfl) hown at_203 (pc' := 206) rfl rfl O3.1 (W := 0) (Nat.le_of_eq rfl) (rm3o l Z a0 hw [] b2 b4 o1 f1 l1 o2 f2 l2 (0 : Int32) T5.heap n0 Zn O3 O5 (by simp [own_e3, hc157, (Ne.symm hc157)])) (by decide) (by decide) (by decide) (by decide) (fun v6 T6 L6 X6 hQ6 => ?_)
      obtain ⟨rfl, Nq6, e6⟩ := hQ6
      have N6 := Fr.app N5 Nq6
      show own_End p e below _ (T6.setTop (mkF m 206 _ [(.int (0 : Int32))]))
      refine own_istore X6 hx hby at_206 (pc' := 208) rfl (l' := #[.val (.int p0), .val (.int p1), .val (.int p2), .val (.int p3), .val (.int p4), .val (.int p5), .val (.int o1), .val (.int f1), .val (.int l1), .val (.int o2), .val (.int f2), .val (.int l2), .val (.int (0 : Int32)), .val (.ref b2), .val (.ref b4), .val (.ref b4), .val (.int (0 : Int32)), .val (.int (0 : Int32)), .val (.int (0 : Int32)), .unset, .unset]) rfl ?_
      refine own_aload X6 hx hby at_208 (pc' := 210) rfl rfl rfl ?_
      refine own_aload X6 hx hby at_210 (pc' := 212) rfl rfl rfl ?_
      refine own_lk3 hw X6 hx hZ hby (by rw [hml]; rfl) hown at_212 (pc' := 215) rfl e6 O5.1 (W := 0) (Nat.le_of_eq rfl) (rm3o l Z a0 hw [] b4 b2 o2 f2 l2 o1 f1 l1 (0 : Int32) T5.heap n0 Zn O5 O3 (by simp [own_e3, (Ne.symm hc157), (Ne.symm hc157)])) (by decide) (by decide) (by decide) (by decide) (fun v7 T7 L7 X7 hQ7 => ?_)
      obtain ⟨rfl, Nq7, e7⟩ := hQ7
      have N7 := Fr.app N6 Nq7
      show own_End p e below _ (T7.setTop (mkF m 215 _ [(.int (0 : Int32))]))
      refine own_istore X7 hx hby at_215 (pc' := 217) rfl (l' := #[.val (.int p0), .val (.int p1), .val (.int p2), .val (.int p3), .val (.int p4), .val (.int p5), .val (.int o1), .val (.int f1), .val (.int l1), .val (.int o2), .val (.int f2), .val (.int l2), .val (.int (0 : Int32)), .val (.ref b2), .val (.ref b4), .val (.ref b4), .val (.int (0 : Int32)), .val (.int (0 : Int32)), .val (.int (0 : Int32)), .val (.int (0 : Int32)), .unset]) rfl ?_
      refine own_aload X7 hx hby at_217 (pc' := 219) rfl rfl rfl ?_
      refine own_aload X7 hx hby at_219 (pc' := 221) rfl rfl rfl ?_
      refine own_lk3 hw X7 hx hZ hby (by rw [hml]; rfl) hown at_221 (pc' := 224) rfl e7 O3.1 (W := 0) (Nat.le_of_eq rfl) (rm3s l Z a0 hw [] b2 o1 f1 l1 T5.heap n0 Zn O3) (by decide) (by decide) (by decide) (by decide) (fun v8 T8 L8 X8 hQ8 => ?_)
      obtain ⟨rfl, Nq8, e8⟩ := hQ8
      have N8 := Fr.app N7 Nq8
      show own_End p e below _ (T8.setTop (mkF m 224 _ [(.int (1 : Int32))]))
      refine own_istore X8 hx hby at_224 (pc' := 226) rfl (l' := #[.val (.int p0), .val (.int p1), .val (.int p2), .val (.int p3), .val (.int p4), .val (.int p5), .val (.int o1), .val (.int f1), .val (.int l1), .val (.int o2), .val (.int f2), .val (.int l2), .val (.int (0 : Int32)), .val (.ref b2), .val (.ref b4), .val (.ref b4), .val (.int (0 : Int32)), .val (.int (0 : Int32)), .val (.int (0 : Int32)), .val (.int (0 : Int32)), .val (.int (1 : Int32))]) rfl ?_
      refine own_iload X8 hx hby at_226 (pc' := 228) rfl rfl ?_
      refine own_iload X8 hx hby at_228 (pc' := 230) rfl rfl ?_
      refine own_icN X8 hx hby at_230 (pc' := 233) rfl (show (0 : Int32) = (0 : Int32) by decide) ?_
      refine own_iload X8 hx hby at_233 (pc' := 235) rfl rfl ?_
      refine own_iload X8 hx hby at_235 (pc' := 237) rfl rfl ?_
      refine own_icN X8 hx hby at_237 (pc' := 240) rfl (show (0 : Int32) = (0 : Int32) by decide) ?_
      refine own_iload X8 hx hby at_240 (pc' := 242) rfl rfl ?_
      refine own_ifN X8 hx hby at_242 (pc' := 245) rfl (show ¬ (1 : Int32) = (0 : Int32) by decide) ?_
      refine own_iconst X8 hx hby at_245 (pc' := 246) rfl (n := (1 : Int32)) (by decide) ?_
      refine own_goto X8 hx hby at_246 (pc' := 250) (by decide) (by decide) ?_
      refine own_zreturn X8 hx hlk hby hret (Or.inr rfl) at_250 (own_lv ?_ (by decide) (by decide))
      show Q0 Z p0 p1 p2 p3 p4 p5 ca cl  h0 n0 (some (.int (1 : Int32))) T8.heap _
      rw [e8]
      exact ⟨rfl, N8⟩
    · refine own_iload X5 hx hby at_160 (pc' := 162) rfl rfl ?_
      refine own_iload X5 hx hby at_162 (pc' := 164) rfl rfl ?_
      refine own_ic2 X5 hx hby at_164 (pc1 := 178) (by decide) (by decide) (pc2 := 167) rfl (fun (hc164 : ¬ f1 = f2) => ?_) (fun (hc164 : f1 = f2) => ?_)
      · refine own_iconst X5 hx hby at_178 (pc' := 179) rfl (n := (0 : Int32)) (by decide) ?_
        refine own_istore X5 hx hby at_179 (pc' := 181) rfl (l' := #[.val (.int p0), .val (.int p1), .val (.int p2), .val (.int p3), .val (.int p4), .val (.int p5), .val (.int o1), .val (.int f1), .val (.int l1), .val (.int o2), .val (.int f2), .val (.int l2), .val (.int (0 : Int32)), .val (.ref b2), .val (.ref b4), .val (.ref b4), .val (.int (0 : Int32)), .unset, .unset, .unset, .unset]) rfl ?_
        refine own_iload X5 hx hby at_181 (pc' := 183) rfl rfl ?_
        refine own_iconst X5 hx hby at_183 (pc' := 184) rfl (n := (2 : Int32)) (by decide) ?_
        refine own_icN X5 hx hby at_184 (pc' := 187) rfl (show (0 : Int32) < (2 : Int32) by decide) ?_
        refine own_iload X5 hx hby at_187 (pc' := 189) rfl rfl ?_
        refine own_ifY X5 hx hby at_189 (pc' := 196) (by decide) (by decide) (show (0 : Int32) = (0 : Int32) by decide) ?_
        refine own_iconst X5 hx hby at_196 (pc' := 197) rfl (n := (0 : Int32)) (by decide) ?_
        refine own_istore X5 hx hby at_197 (pc' := 199) rfl (l' := #[.val (.int p0), .val (.int p1), .val (.int p2), .val (.int p3), .val (.int p4), .val (.int p5), .val (.int o1), .val (.int f1), .val (.int l1), .val (.int o2), .val (.int f2), .val (.int l2), .val (.int (0 : Int32)), .val (.ref b2), .val (.ref b4), .val (.ref b4), .val (.int (0 : Int32)), .val (.int (0 : Int32)), .unset, .unset, .unset]) rfl ?_
        refine own_aload X5 hx hby at_199 (pc' := 201) rfl rfl rfl ?_
        refine own_aload X5 hx hby at_201 (pc' := 203) rfl rfl rfl ?_
        refine own_lk3 hw X5 hx hZ hby (by rw [hml]; rfl) hown at_203 (pc' := 206) rfl rfl O3.1 (W := 0) (Nat.le_of_eq rfl) (rm3o l Z a0 hw [] b2 b4 o1 f1 l1 o2 f2 l2 (0 : Int32) T5.heap n0 Zn O3 O5 (by simp [own_e3, hc157, hc164, (Ne.symm hc164)])) (by decide) (by decide) (by decide) (by decide) (fun v9 T9 L9 X9 hQ9 => ?_)
        obtain ⟨rfl, Nq9, e9⟩ := hQ9
        have N9 := Fr.app N5 Nq9
        show own_End p e below _ (T9.setTop (mkF m 206 _ [(.int (0 : Int32))]))
        refine own_istore X9 hx hby at_206 (pc' := 208) rfl (l' := #[.val (.int p0), .val (.int p1), .val (.int p2), .val (.int p3), .val (.int p4), .val (.int p5), .val (.int o1), .val (.int f1), .val (.int l1), .val (.int o2), .val (.int f2), .val (.int l2), .val (.int (0 : Int32)), .val (.ref b2), .val (.ref b4), .val (.ref b4), .val (.int (0 : Int32)), .val (.int (0 : Int32)), .val (.int (0 : Int32)), .unset, .unset]) rfl ?_
        refine own_aload X9 hx hby at_208 (pc' := 210) rfl rfl rfl ?_
        refine own_aload X9 hx hby at_210 (pc' := 212) rfl rfl rfl ?_
        refine own_lk3 hw X9 hx hZ hby (by rw [hml]; rfl) hown at_212 (pc' := 215) rfl e9 O5.1 (W := 0) (Nat.le_of_eq rfl) (rm3o l Z a0 hw [] b4 b2 o2 f2 l2 o1 f1 l1 (0 : Int32) T5.heap n0 Zn O5 O3 (by simp [own_e3, hc157, (Ne.symm hc164), (Ne.symm hc164)])) (by decide) (by decide) (by decide) (by decide) (fun v10 T10 L10 X10 hQ10 => ?_)
        obtain ⟨rfl, Nq10, e10⟩ := hQ10
        have N10 := Fr.app N9 Nq10
        show own_End p e below _ (T10.setTop (mkF m 215 _ [(.int (0 : Int32))]))
        refine own_istore X10 hx hby at_215 (pc' := 217) rfl (l' := #[.val (.int p0), .val (.int p1), .val (.int p2), .val (.int p3), .val (.int p4), .val (.int p5), .val (.int o1), .val (.int f1), .val (.int l1), .val (.int o2), .val (.int f2), .val (.int l2), .val (.int (0 : Int32)), .val (.ref b2), .val (.ref b4), .val (.ref b4), .val (.int (0 : Int32)), .val (.int (0 : Int32)), .val (.int (0 : Int32)), .val (.int (0 : Int32)), .unset]) rfl ?_
        refine own_aload X10 hx hby at_217 (pc' := 219) rfl rfl rfl ?_
        refine own_aload X10 hx hby at_219 (pc' := 221) rfl rfl rfl ?_
        refine own_lk3 hw X10 hx hZ hby (by rw [hml]; rfl) hown at_221 (pc' := 224) rfl e10 O3.1 (W := 0) (Nat.le_of_eq rfl) (rm3s l Z a0 hw [] b2 o1 f1 l1 T5.heap n0 Zn O3) (by decide) (by decide) (by decide) (by decide) (fun v11 T11 L11 X11 hQ11 => ?_)
        obtain ⟨rfl, Nq11, e11⟩ := hQ11
        have N11 := Fr.app N10 Nq11
        show own_End p e below _ (T11.setTop (mkF m 224 _ [(.int (1 : Int32))]))
        refine own_istore X11 hx hby at_224 (pc' := 226) rfl (l' := #[.val (.int p0), .val (.int p1), .val (.int p2), .val (.int p3), .val (.int p4), .val (.int p5), .val (.int o1), .val (.int f1), .val (.int l1), .val (.int o2), .val (.int f2), .val (.int l2), .val (.int (0 : Int32)), .val (.ref b2), .val (.ref b4), .val (.ref b4), .val (.int (0 : Int32)), .val (.int (0 : Int32)), .val (.int (0 : Int32)), .val (.int (0 : Int32)), .val (.int (1 : Int32))]) rfl ?_
        refine own_iload X11 hx hby at_226 (pc' := 228) rfl rfl ?_
        refine own_iload X11 hx hby at_228 (pc' := 230) rfl rfl ?_
        refine own_icN X11 hx hby at_230 (pc' := 233) rfl (show (0 : Int32) = (0 : Int32) by decide) ?_
        refine own_iload X11 hx hby at_233 (pc' := 235) rfl rfl ?_
        refine own_iload X11 hx hby at_235 (pc' := 237) rfl rfl ?_
        refine own_icN X11 hx hby at_237 (pc' := 240) rfl (show (0 : Int32) = (0 : Int32) by decide) ?_
        refine own_iload X11 hx hby at_240 (pc' := 242) rfl rfl ?_
        refine own_ifN X11 hx hby at_242 (pc' := 245) rfl (show ¬ (1 : Int32) = (0 : Int32) by decide) ?_
        refine own_iconst X11 hx hby at_245 (pc' := 246) rfl (n := (1 : Int32)) (by decide) ?_
        refine own_goto X11 hx hby at_246 (pc' := 250) (by decide) (by decide) ?_
        refine own_zreturn X11 hx hlk hby hret (Or.inr rfl) at_250 (own_lv ?_ (by decide) (by decide))
        show Q0 Z p0 p1 p2 p3 p4 p5 ca cl  h0 n0 (some (.int (1 : Int32))) T11.heap _
        rw [e11]
        exact ⟨rfl, N11⟩
      · refine own_iload X5 hx hby at_167 (pc' := 169) rfl rfl ?_
        refine own_iload X5 hx hby at_169 (pc' := 171) rfl rfl ?_
        refine own_ic2 X5 hx hby at_171 (pc1 := 178) (by decide) (by decide) (pc2 := 174) rfl (fun (hc171 : ¬ l1 = l2) => ?_) (fun (hc171 : l1 = l2) => ?_)
        · refine own_iconst X5 hx hby at_178 (pc' := 179) rfl (n := (0 : Int32)) (by decide) ?_
          refine own_istore X5 hx hby at_179 (pc' := 181) rfl (l' := #[.val (.int p0), .val (.int p1), .val (.int p2), .val (.int p3), .val (.int p4), .val (.int p5), .val (.int o1), .val (.int f1), .val (.int l1), .val (.int o2), .val (.int f2), .val (.int l2), .val (.int (0 : Int32)), .val (.ref b2), .val (.ref b4), .val (.ref b4), .val (.int (0 : Int32)), .unset, .unset, .unset, .unset]) rfl ?_
          refine own_iload X5 hx hby at_181 (pc' := 183) rfl rfl ?_
          refine own_iconst X5 hx hby at_183 (pc' := 184) rfl (n := (2 : Int32)) (by decide) ?_
          refine own_icN X5 hx hby at_184 (pc' := 187) rfl (show (0 : Int32) < (2 : Int32) by decide) ?_
          refine own_iload X5 hx hby at_187 (pc' := 189) rfl rfl ?_
          refine own_ifY X5 hx hby at_189 (pc' := 196) (by decide) (by decide) (show (0 : Int32) = (0 : Int32) by decide) ?_
          refine own_iconst X5 hx hby at_196 (pc' := 197) rfl (n := (0 : Int32)) (by decide) ?_
          refine own_istore X5 hx hby at_197 (pc' := 199) rfl (l' := #[.val (.int p0), .val (.int p1), .val (.int p2), .val (.int p3), .val (.int p4), .val (.int p5), .val (.int o1), .val (.int f1), .val (.int l1), .val (.int o2), .val (.int f2), .val (.int l2), .val (.int (0 : Int32)), .val (.ref b2), .val (.ref b4), .val (.ref b4), .val (.int (0 : Int32)), .val (.int (0 : Int32)), .unset, .unset, .unset]) rfl ?_
          refine own_aload X5 hx hby at_199 (pc' := 201) rfl rfl rfl ?_
          refine own_aload X5 hx hby at_201 (pc' := 203) rfl rfl rfl ?_
          refine own_lk3 hw X5 hx hZ hby (by rw [hml]; rfl) hown at_203 (pc' := 206) rfl rfl O3.1 (W := 0) (Nat.le_of_eq rfl) (rm3o l Z a0 hw [] b2 b4 o1 f1 l1 o2 f2 l2 (0 : Int32) T5.heap n0 Zn O3 O5 (by simp [own_e3, hc157, hc164, hc171, (Ne.symm hc171)])) (by decide) (by decide) (by decide) (by decide) (fun v12 T12 L12 X12 hQ12 => ?_)
          obtain ⟨rfl, Nq12, e12⟩ := hQ12
          have N12 := Fr.app N5 Nq12
          show own_End p e below _ (T12.setTop (mkF m 206 _ [(.int (0 : Int32))]))
          refine own_istore X12 hx hby at_206 (pc' := 208) rfl (l' := #[.val (.int p0), .val (.int p1), .val (.int p2), .val (.int p3), .val (.int p4), .val (.int p5), .val (.int o1), .val (.int f1), .val (.int l1), .val (.int o2), .val (.int f2), .val (.int l2), .val (.int (0 : Int32)), .val (.ref b2), .val (.ref b4), .val (.ref b4), .val (.int (0 : Int32)), .val (.int (0 : Int32)), .val (.int (0 : Int32)), .unset, .unset]) rfl ?_
          refine own_aload X12 hx hby at_208 (pc' := 210) rfl rfl rfl ?_
          refine own_aload X12 hx hby at_210 (pc' := 212) rfl rfl rfl ?_
          refine own_lk3 hw X12 hx hZ hby (by rw [hml]; rfl) hown at_212 (pc' := 215) rfl e12 O5.1 (W := 0) (Nat.le_of_eq rfl) (rm3o l Z a0 hw [] b4 b2 o2 f2 l2 o1 f1 l1 (0 : Int32) T5.heap n0 Zn O5 O3 (by simp [own_e3, hc157, hc164, (Ne.symm hc171), (Ne.symm hc171)])) (by decide) (by decide) (by decide) (by decide) (fun v13 T13 L13 X13 hQ13 => ?_)
          obtain ⟨rfl, Nq13, e13⟩ := hQ13
          have N13 := Fr.app N12 Nq13
          show own_End p e below _ (T13.setTop (mkF m 215 _ [(.int (0 : Int32))]))
          refine own_istore X13 hx hby at_215 (pc' := 217) rfl (l' := #[.val (.int p0), .val (.int p1), .val (.int p2), .val (.int p3), .val (.int p4), .val (.int p5), .val (.int o1), .val (.int f1), .val (.int l1), .val (.int o2), .val (.int f2), .val (.int l2), .val (.int (0 : Int32)), .val (.ref b2), .val (.ref b4), .val (.ref b4), .val (.int (0 : Int32)), .val (.int (0 : Int32)), .val (.int (0 : Int32)), .val (.int (0 : Int32)), .unset]) rfl ?_
          refine own_aload X13 hx hby at_217 (pc' := 219) rfl rfl rfl ?_
          refine own_aload X13 hx hby at_219 (pc' := 221) rfl rfl rfl ?_
          refine own_lk3 hw X13 hx hZ hby (by rw [hml]; rfl) hown at_221 (pc' := 224) rfl e13 O3.1 (W := 0) (Nat.le_of_eq rfl) (rm3s l Z a0 hw [] b2 o1 f1 l1 T5.heap n0 Zn O3) (by decide) (by decide) (by decide) (by decide) (fun v14 T14 L14 X14 hQ14 => ?_)
          obtain ⟨rfl, Nq14, e14⟩ := hQ14
          have N14 := Fr.app N13 Nq14
          show own_End p e below _ (T14.setTop (mkF m 224 _ [(.int (1 : Int32))]))
          refine own_istore X14 hx hby at_224 (pc' := 226) rfl (l' := #[.val (.int p0), .val (.int p1), .val (.int p2), .val (.int p3), .val (.int p4), .val (.int p5), .val (.int o1), .val (.int f1), .val (.int l1), .val (.int o2), .val (.int f2), .val (.int l2), .val (.int (0 : Int32)), .val (.ref b2), .val (.ref b4), .val (.ref b4), .val (.int (0 : Int32)), .val (.int (0 : Int32)), .val (.int (0 : Int32)), .val (.int (0 : Int32)), .val (.int (1 : Int32))]) rfl ?_
          refine own_iload X14 hx hby at_226 (pc' := 228) rfl rfl ?_
          refine own_iload X14 hx hby at_228 (pc' := 230) rfl rfl ?_
          refine own_icN X14 hx hby at_230 (pc' := 233) rfl (show (0 : Int32) = (0 : Int32) by decide) ?_
          refine own_iload X14 hx hby at_233 (pc' := 235) rfl rfl ?_
          refine own_iload X14 hx hby at_235 (pc' := 237) rfl rfl ?_
          refine own_icN X14 hx hby at_237 (pc' := 240) rfl (show (0 : Int32) = (0 : Int32) by decide) ?_
          refine own_iload X14 hx hby at_240 (pc' := 242) rfl rfl ?_
          refine own_ifN X14 hx hby at_242 (pc' := 245) rfl (show ¬ (1 : Int32) = (0 : Int32) by decide) ?_
          refine own_iconst X14 hx hby at_245 (pc' := 246) rfl (n := (1 : Int32)) (by decide) ?_
          refine own_goto X14 hx hby at_246 (pc' := 250) (by decide) (by decide) ?_
          refine own_zreturn X14 hx hlk hby hret (Or.inr rfl) at_250 (own_lv ?_ (by decide) (by decide))
          show Q0 Z p0 p1 p2 p3 p4 p5 ca cl  h0 n0 (some (.int (1 : Int32))) T14.heap _
          rw [e14]
          exact ⟨rfl, N14⟩
        · refine own_iconst X5 hx hby at_174 (pc' := 175) rfl (n := (1 : Int32)) (by decide) ?_
          refine own_goto X5 hx hby at_175 (pc' := 179) (by decide) (by decide) ?_
          refine own_istore X5 hx hby at_179 (pc' := 181) rfl (l' := #[.val (.int p0), .val (.int p1), .val (.int p2), .val (.int p3), .val (.int p4), .val (.int p5), .val (.int o1), .val (.int f1), .val (.int l1), .val (.int o2), .val (.int f2), .val (.int l2), .val (.int (0 : Int32)), .val (.ref b2), .val (.ref b4), .val (.ref b4), .val (.int (1 : Int32)), .unset, .unset, .unset, .unset]) rfl ?_
          refine own_iload X5 hx hby at_181 (pc' := 183) rfl rfl ?_
          refine own_iconst X5 hx hby at_183 (pc' := 184) rfl (n := (2 : Int32)) (by decide) ?_
          refine own_icN X5 hx hby at_184 (pc' := 187) rfl (show (0 : Int32) < (2 : Int32) by decide) ?_
          refine own_iload X5 hx hby at_187 (pc' := 189) rfl rfl ?_
          refine own_ifN X5 hx hby at_189 (pc' := 192) rfl (show ¬ (1 : Int32) = (0 : Int32) by decide) ?_
          refine own_iconst X5 hx hby at_192 (pc' := 193) rfl (n := (1 : Int32)) (by decide) ?_
          refine own_goto X5 hx hby at_193 (pc' := 197) (by decide) (by decide) ?_
          refine own_istore X5 hx hby at_197 (pc' := 199) rfl (l' := #[.val (.int p0), .val (.int p1), .val (.int p2), .val (.int p3), .val (.int p4), .val (.int p5), .val (.int o1), .val (.int f1), .val (.int l1), .val (.int o2), .val (.int f2), .val (.int l2), .val (.int (0 : Int32)), .val (.ref b2), .val (.ref b4), .val (.ref b4), .val (.int (1 : Int32)), .val (.int (1 : Int32)), .unset, .unset, .unset]) rfl ?_
          refine own_aload X5 hx hby at_199 (pc' := 201) rfl rfl rfl ?_
          refine own_aload X5 hx hby at_201 (pc' := 203) rfl rfl rfl ?_
          refine own_lk3 hw X5 hx hZ hby (by rw [hml]; rfl) hown at_203 (pc' := 206) rfl rfl O3.1 (W := 0) (Nat.le_of_eq rfl) (rm3o l Z a0 hw [] b2 b4 o1 f1 l1 o2 f2 l2 (1 : Int32) T5.heap n0 Zn O3 O5 (by simp [own_e3, hc157, hc164, hc171])) (by decide) (by decide) (by decide) (by decide) (fun v15 T15 L15 X15 hQ15 => ?_)
          obtain ⟨rfl, Nq15, e15⟩ := hQ15
          have N15 := Fr.app N5 Nq15
          show own_End p e below _ (T15.setTop (mkF m 206 _ [(.int (1 : Int32))]))
          refine own_istore X15 hx hby at_206 (pc' := 208) rfl (l' := #[.val (.int p0), .val (.int p1), .val (.int p2), .val (.int p3), .val (.int p4), .val (.int p5), .val (.int o1), .val (.int f1), .val (.int l1), .val (.int o2), .val (.int f2), .val (.int l2), .val (.int (0 : Int32)), .val (.ref b2), .val (.ref b4), .val (.ref b4), .val (.int (1 : Int32)), .val (.int (1 : Int32)), .val (.int (1 : Int32)), .unset, .unset]) rfl ?_
          refine own_aload X15 hx hby at_208 (pc' := 210) rfl rfl rfl ?_
          refine own_aload X15 hx hby at_210 (pc' := 212) rfl rfl rfl ?_
          refine own_lk3 hw X15 hx hZ hby (by rw [hml]; rfl) hown at_212 (pc' := 215) rfl e15 O5.1 (W := 0) (Nat.le_of_eq rfl) (rm3o l Z a0 hw [] b4 b2 o2 f2 l2 o1 f1 l1 (1 : Int32) T5.heap n0 Zn O5 O3 (by simp [own_e3, hc157, hc164, hc171])) (by decide) (by decide) (by decide) (by decide) (fun v16 T16 L16 X16 hQ16 => ?_)
          obtain ⟨rfl, Nq16, e16⟩ := hQ16
          have N16 := Fr.app N15 Nq16
          show own_End p e below _ (T16.setTop (mkF m 215 _ [(.int (1 : Int32))]))
          refine own_istore X16 hx hby at_215 (pc' := 217) rfl (l' := #[.val (.int p0), .val (.int p1), .val (.int p2), .val (.int p3), .val (.int p4), .val (.int p5), .val (.int o1), .val (.int f1), .val (.int l1), .val (.int o2), .val (.int f2), .val (.int l2), .val (.int (0 : Int32)), .val (.ref b2), .val (.ref b4), .val (.ref b4), .val (.int (1 : Int32)), .val (.int (1 : Int32)), .val (.int (1 : Int32)), .val (.int (1 : Int32)), .unset]) rfl ?_
          refine own_aload X16 hx hby at_217 (pc' := 219) rfl rfl rfl ?_
          refine own_aload X16 hx hby at_219 (pc' := 221) rfl rfl rfl ?_
          refine own_lk3 hw X16 hx hZ hby (by rw [hml]; rfl) hown at_221 (pc' := 224) rfl e16 O3.1 (W := 0) (Nat.le_of_eq rfl) (rm3s l Z a0 hw [] b2 o1 f1 l1 T5.heap n0 Zn O3) (by decide) (by decide) (by decide) (by decide) (fun v17 T17 L17 X17 hQ17 => ?_)
          obtain ⟨rfl, Nq17, e17⟩ := hQ17
          have N17 := Fr.app N16 Nq17
          show own_End p e below _ (T17.setTop (mkF m 224 _ [(.int (1 : Int32))]))
          refine own_istore X17 hx hby at_224 (pc' := 226) rfl (l' := #[.val (.int p0), .val (.int p1), .val (.int p2), .val (.int p3), .val (.int p4), .val (.int p5), .val (.int o1), .val (.int f1), .val (.int l1), .val (.int o2), .val (.int f2), .val (.int l2), .val (.int (0 : Int32)), .val (.ref b2), .val (.ref b4), .val (.ref b4), .val (.int (1 : Int32)), .val (.int (1 : Int32)), .val (.int (1 : Int32)), .val (.int (1 : Int32)), .val (.int (1 : Int32))]) rfl ?_
          refine own_iload X17 hx hby at_226 (pc' := 228) rfl rfl ?_
          refine own_iload X17 hx hby at_228 (pc' := 230) rfl rfl ?_
          refine own_icN X17 hx hby at_230 (pc' := 233) rfl (show (1 : Int32) = (1 : Int32) by decide) ?_
          refine own_iload X17 hx hby at_233 (pc' := 235) rfl rfl ?_
          refine own_iload X17 hx hby at_235 (pc' := 237) rfl rfl ?_
          refine own_icN X17 hx hby at_237 (pc' := 240) rfl (show (1 : Int32) = (1 : Int32) by decide) ?_
          refine own_iload X17 hx hby at_240 (pc' := 242) rfl rfl ?_
          refine own_ifN X17 hx hby at_242 (pc' := 245) rfl (show ¬ (1 : Int32) = (0 : Int32) by decide) ?_
          refine own_iconst X17 hx hby at_245 (pc' := 246) rfl (n := (1 : Int32)) (by decide) ?_
          refine own_goto X17 hx hby at_246 (pc' := 250) (by decide) (by decide) ?_
          refine own_zreturn X17 hx hlk hby hret (Or.inr rfl) at_250 (own_lv ?_ (by decide) (by decide))
          show Q0 Z p0 p1 p2 p3 p4 p5 ca cl  h0 n0 (some (.int (1 : Int32))) T17.heap _
          rw [e17]
          exact ⟨rfl, N17⟩
  · rw [hs1]
    show own_End p e below _ (T0.setTop (mkF m 90 #[.val (.int p0), .val (.int p1), .val (.int p2), .val (.int p3), .val (.int p4), .val (.int p5), .val (.int o1), .val (.int f1), .val (.int l1), .val (.int o2), .val (.int f2), .val (.int l2), .unset, .unset, .unset, .unset, .unset, .unset, .unset, .unset, .unset] [(.int (1 : Int32))]))
    refine own_istore X0 hx hby at_90 (pc' := 92) rfl (l' := #[.val (.int p0), .val (.int p1), .val (.int p2), .val (.int p3), .val (.int p4), .val (.int p5), .val (.int o1), .val (.int f1), .val (.int l1), .val (.int o2), .val (.int f2), .val (.int l2), .val (.int (1 : Int32)), .unset, .unset, .unset, .unset, .unset, .unset, .unset, .unset]) rfl ?_
    refine own_new X0 hx hZ hby hown (wd_2 hw) (wd_3 hw) (wd_4 hw) e1 at_92 (pc' := 95) rfl (by decide) (by decide) (fun T18 h18 b18 g18 X18 e18 E18 A18 D18 => ?_)
    have ne_ca_b18 : ca ≠ b18 := Nat.ne_of_lt (by rw [g18]; exact f_IC_ca.lt)
    have ge_b18 : n0 ≤ b18 := by rw [g18]; exact Z1
    have f_S_java_lang_Integer_IntegerCache_high := f_S_java_lang_Integer_IntegerCache_high.ext E18
    have f_S_java_lang_Integer_IntegerCache_cache := f_S_java_lang_Integer_IntegerCache_cache.ext E18
    have f_IC_ca := f_IC_ca.ext E18
    have Zn := Nat.le_trans Z1 E18.1
    have f_O_b18 : own_FH Z h18 b18 (0 : Int32) (0 : Int32) (0 : Int32) := ⟨A18, D18 (Or.inr (wd_13 hw)) (ty := .int) (by decide), D18 (Or.inr (wd_15 hw)) (ty := .int) (by decide), D18 (Or.inr (wd_17 hw)) (ty := .int) (by decide)⟩
    refine own_dup X18 hx hby at_95 (pc' := 96) rfl rfl ?_
    refine own_iload X18 hx hby at_96 (pc' := 98) rfl rfl ?_
    refine own_iload X18 hx hby at_98 (pc' := 100) rfl rfl ?_
    refine own_iload X18 hx hby at_100 (pc' := 102) rfl rfl ?_
    refine own_lk2 hw X18 hx hZ hby (by rw [hml]; rfl) hown at_102 (pc' := 105) rfl e18 (W := 1) (Nat.le_of_eq rfl) (rm1 l Z a0 hw [] b18 o1 f1 l1 h18 n0 Zn f_O_b18 ge_b18 ho1 hf1 hl1) (by decide) (by decide) (by decide) (by decide) (fun v19 T19 L19 X19 hQ19 => ?_)
    obtain ⟨rfl, Nq19, K19, O19⟩ := hQ19
    have N19 := Fr.app N0 Nq19
    have f_S_java_lang_Integer_IntegerCache_high := own_sta1 f_S_java_lang_Integer_IntegerCache_high K19 f_O_b18.1
    have f_S_java_lang_Integer_IntegerCache_cache := own_sta1 f_S_java_lang_Integer_IntegerCache_cache K19 f_O_b18.1
    have f_IC_ca := f_IC_ca.keep K19 (ninS ne_ca_b18 nin0)
    have Zn := Nat.le_trans Zn K19.1
    show own_End p e below _ (T19.setTop (mkF m 105 _ [(.ref b18)]))
    refine own_astore X19 hx hby at_105 (pc' := 107) rfl rfl (l' := #[.val (.int p0), .val (.int p1), .val (.int p2), .val (.int p3), .val (.int p4), .val (.int p5), .val (.int o1), .val (.int f1), .val (.int l1), .val (.int o2), .val (.int f2), .val (.int l2), .val (.int (1 : Int32)), .val (.ref b18), .unset, .unset, .unset, .unset, .unset, .unset, .unset]) rfl ?_
    refine own_new X19 hx hZ hby hown (wd_2 hw) (wd_3 hw) (wd_4 hw) rfl at_107 (pc' := 110) rfl (by decide) (by decide) (fun T20 h20 b20 g20 X20 e20 E20 A20 D20 => ?_)
    have ne_ca_b20 : ca ≠ b20 := Nat.ne_of_lt (by rw [g20]; exact f_IC_ca.lt)
    have ne_b18_b20 : b18 ≠ b20 := Nat.ne_of_lt (by rw [g20]; exact O19.lt)
    have ge_b20 : n0 ≤ b20 := by rw [g20]; exact Zn
    have f_S_java_lang_Integer_IntegerCache_high := f_S_java_lang_Integer_IntegerCache_high.ext E20
    have f_S_java_lang_Integer_IntegerCache_cache := f_S_java_lang_Integer_IntegerCache_cache.ext E20
    have f_IC_ca := f_IC_ca.ext E20
    have O19 := O19.ext E20
    have Zn := Nat.le_trans Zn E20.1
    have f_O_b20 : own_FH Z h20 b20 (0 : Int32) (0 : Int32) (0 : Int32) := ⟨A20, D20 (Or.inr (wd_13 hw)) (ty := .int) (by decide), D20 (Or.inr (wd_15 hw)) (ty := .int) (by decide), D20 (Or.inr (wd_17 hw)) (ty := .int) (by decide)⟩
    refine own_dup X20 hx hby at_110 (pc' := 111) rfl rfl ?_
    refine own_iload X20 hx hby at_111 (pc' := 113) rfl rfl ?_
    refine own_iload X20 hx hby at_113 (pc' := 115) rfl rfl ?_
    refine own_iload X20 hx hby at_115 (pc' := 117) rfl rfl ?_
    refine own_lk2 hw X20 hx hZ hby (by rw [hml]; rfl) hown at_117 (pc' := 120) rfl e20 (W := 1) (Nat.le_of_eq rfl) (rm1 l Z a0 hw [] b20 o2 f2 l2 h20 n0 Zn f_O_b20 ge_b20 ho2 hf2 hl2) (by decide) (by decide) (by decide) (by decide) (fun v21 T21 L21 X21 hQ21 => ?_)
    obtain ⟨rfl, Nq21, K21, O21⟩ := hQ21
    have N21 := Fr.app N19 Nq21
    have f_S_java_lang_Integer_IntegerCache_high := own_sta1 f_S_java_lang_Integer_IntegerCache_high K21 f_O_b20.1
    have f_S_java_lang_Integer_IntegerCache_cache := own_sta1 f_S_java_lang_Integer_IntegerCache_cache K21 f_O_b20.1
    have f_IC_ca := f_IC_ca.keep K21 (ninS ne_ca_b20 nin0)
    have O19 := O19.keep K21 (ninS ne_b18_b20 nin0)
    have Zn := Nat.le_trans Zn K21.1
    show own_End p e below _ (T21.setTop (mkF m 120 _ [(.ref b20)]))
    refine own_astore X21 hx hby at_120 (pc' := 122) rfl rfl (l' := #[.val (.int p0), .val (.int p1), .val (.int p2), .val (.int p3), .val (.int p4), .val (.int p5), .val (.int o1), .val (.int f1), .val (.int l1), .val (.int o2), .val (.int f2), .val (.int l2), .val (.int (1 : Int32)), .val (.ref b18), .val (.ref b20), .unset, .unset, .unset, .unset, .unset, .unset]) rfl ?_
    refine own_iload X21 hx hby at_122 (pc' := 124) rfl rfl ?_
    refine own_iconst X21 hx hby at_124 (pc' := 125) rfl (n := (2 : Int32)) (by decide) ?_
    refine own_icY X21 hx hby at_125 (pc' := 134) (by decide) (by decide) (show ¬ (1 : Int32) = (2 : Int32) by decide) ?_
    refine own_iload X21 hx hby at_134 (pc' := 136) rfl rfl ?_
    refine own_iconst X21 hx hby at_136 (pc' := 137) rfl (n := (3 : Int32)) (by decide) ?_
    refine own_icY X21 hx hby at_137 (pc' := 149) (by decide) (by decide) (show ¬ (1 : Int32) = (3 : Int32) by decide) ?_
    refine own_aload X21 hx hby at_149 (pc' := 151) rfl rfl rfl ?_
    refine own_astore X21 hx hby at_151 (pc' := 153) rfl rfl (l' := #[.val (.int p0), .val (.int p1), .val (.int p2), .val (.int p3), .val (.int p4), .val (.int p5), .val (.int o1), .val (.int f1), .val (.int l1), .val (.int o2), .val (.int f2), .val (.int l2), .val (.int (1 : Int32)), .val (.ref b18), .val (.ref b20), .val (.ref b20), .unset, .unset, .unset, .unset, .unset]) rfl ?_
    refine own_iload X21 hx hby at_153 (pc' := 155) rfl rfl ?_
    refine own_iload X21 hx hby at_155 (pc' := 157) rfl rfl ?_
    refine own_ic2 X21 hx hby at_157 (pc1 := 178) (by decide) (by decide) (pc2 := 160) rfl (fun (hc157 : ¬ o1 = o2) => ?_) (fun (hc157 : o1 = o2) => ?_)
    · refine own_iconst X21 hx hby at_178 (pc' := 179) rfl (n := (0 : Int32)) (by decide) ?_
      refine own_istore X21 hx hby at_179 (pc' := 181) rfl (l' := #[.val (.int p0), .val (.int p1), .val (.int p2), .val (.int p3), .val (.int p4), .val (.int p5), .val (.int o1), .val (.int f1), .val (.int l1), .val (.int o2), .val (.int f2), .val (.int l2), .val (.int (1 : Int32)), .val (.ref b18), .val (.ref b20), .val (.ref b20), .val (.int (0 : Int32)), .unset, .unset, .unset, .unset]) rfl ?_
      refine own_iload X21 hx hby at_181 (pc' := 183) rfl rfl ?_
      refine own_iconst X21 hx hby at_183 (pc' := 184) rfl (n := (2 : Int32)) (by decide) ?_
      refine own_icN X21 hx hby at_184 (pc' := 187) rfl (show (1 : Int32) < (2 : Int32) by decide) ?_
      refine own_iload X21 hx hby at_187 (pc' := 189) rfl rfl ?_
      refine own_ifY X21 hx hby at_189 (pc' := 196) (by decide) (by decide) (show (0 : Int32) = (0 : Int32) by decide) ?_
      refine own_iconst X21 hx hby at_196 (pc' := 197) rfl (n := (0 : Int32)) (by decide) ?_
      refine own_istore X21 hx hby at_197 (pc' := 199) rfl (l' := #[.val (.int p0), .val (.int p1), .val (.int p2), .val (.int p3), .val (.int p4), .val (.int p5), .val (.int o1), .val (.int f1), .val (.int l1), .val (.int o2), .val (.int f2), .val (.int l2), .val (.int (1 : Int32)), .val (.ref b18), .val (.ref b20), .val (.ref b20), .val (.int (0 : Int32)), .val (.int (0 : Int32)), .unset, .unset, .unset]) rfl ?_
      refine own_aload X21 hx hby at_199 (pc' := 201) rfl rfl rfl ?_
      refine own_aload X21 hx hby at_201 (pc' := 203) rfl rfl rfl ?_
      refine own_lk3 hw X21 hx hZ hby (by rw [hml]; rfl) hown at_203 (pc' := 206) rfl rfl O19.1 (W := 0) (Nat.le_of_eq rfl) (rm3o l Z a0 hw [] b18 b20 o1 f1 l1 o2 f2 l2 (0 : Int32) T21.heap n0 Zn O19 O21 (by simp [own_e3, hc157, (Ne.symm hc157)])) (by decide) (by decide) (by decide) (by decide) (fun v22 T22 L22 X22 hQ22 => ?_)
      obtain ⟨rfl, Nq22, e22⟩ := hQ22
      have N22 := Fr.app N21 Nq22
      show own_End p e below _ (T22.setTop (mkF m 206 _ [(.int (0 : Int32))]))
      refine own_istore X22 hx hby at_206 (pc' := 208) rfl (l' := #[.val (.int p0), .val (.int p1), .val (.int p2), .val (.int p3), .val (.int p4), .val (.int p5), .val (.int o1), .val (.int f1), .val (.int l1), .val (.int o2), .val (.int f2), .val (.int l2), .val (.int (1 : Int32)), .val (.ref b18), .val (.ref b20), .val (.ref b20), .val (.int (0 : Int32)), .val (.int (0 : Int32)), .val (.int (0 : Int32)), .unset, .unset]) rfl ?_
      refine own_aload X22 hx hby at_208 (pc' := 210) rfl rfl rfl ?_
      refine own_aload X22 hx hby at_210 (pc' := 212) rfl rfl rfl ?_
      refine own_lk3 hw X22 hx hZ hby (by rw [hml]; rfl) hown at_212 (pc' := 215) rfl e22 O21.1 (W := 0) (Nat.le_of_eq rfl) (rm3o l Z a0 hw [] b20 b18 o2 f2 l2 o1 f1 l1 (0 : Int32) T21.heap n0 Zn O21 O19 (by simp [own_e3, (Ne.symm hc157), (Ne.symm hc157)])) (by decide) (by decide) (by decide) (by decide) (fun v23 T23 L23 X23 hQ23 => ?_)
      obtain ⟨rfl, Nq23, e23⟩ := hQ23
      have N23 := Fr.app N22 Nq23
      show own_End p e below _ (T23.setTop (mkF m 215 _ [(.int (0 : Int32))]))
      refine own_istore X23 hx hby at_215 (pc' := 217) rfl (l' := #[.val (.int p0), .val (.int p1), .val (.int p2), .val (.int p3), .val (.int p4), .val (.int p5), .val (.int o1), .val (.int f1), .val (.int l1), .val (.int o2), .val (.int f2), .val (.int l2), .val (.int (1 : Int32)), .val (.ref b18), .val (.ref b20), .val (.ref b20), .val (.int (0 : Int32)), .val (.int (0 : Int32)), .val (.int (0 : Int32)), .val (.int (0 : Int32)), .unset]) rfl ?_
      refine own_aload X23 hx hby at_217 (pc' := 219) rfl rfl rfl ?_
      refine own_aload X23 hx hby at_219 (pc' := 221) rfl rfl rfl ?_
      refine own_lk3 hw X23 hx hZ hby (by rw [hml]; rfl) hown at_221 (pc' := 224) rfl e23 O19.1 (W := 0) (Nat.le_of_eq rfl) (rm3s l Z a0 hw [] b18 o1 f1 l1 T21.heap n0 Zn O19) (by decide) (by decide) (by decide) (by decide) (fun v24 T24 L24 X24 hQ24 => ?_)
      obtain ⟨rfl, Nq24, e24⟩ := hQ24
      have N24 := Fr.app N23 Nq24
      show own_End p e below _ (T24.setTop (mkF m 224 _ [(.int (1 : Int32))]))
      refine own_istore X24 hx hby at_224 (pc' := 226) rfl (l' := #[.val (.int p0), .val (.int p1), .val (.int p2), .val (.int p3), .val (.int p4), .val (.int p5), .val (.int o1), .val (.int f1), .val (.int l1), .val (.int o2), .val (.int f2), .val (.int l2), .val (.int (1 : Int32)), .val (.ref b18), .val (.ref b20), .val (.ref b20), .val (.int (0 : Int32)), .val (.int (0 : Int32)), .val (.int (0 : Int32)), .val (.int (0 : Int32)), .val (.int (1 : Int32))]) rfl ?_
      refine own_iload X24 hx hby at_226 (pc' := 228) rfl rfl ?_
      refine own_iload X24 hx hby at_228 (pc' := 230) rfl rfl ?_
      refine own_icN X24 hx hby at_230 (pc' := 233) rfl (show (0 : Int32) = (0 : Int32) by decide) ?_
      refine own_iload X24 hx hby at_233 (pc' := 235) rfl rfl ?_
      refine own_iload X24 hx hby at_235 (pc' := 237) rfl rfl ?_
      refine own_icN X24 hx hby at_237 (pc' := 240) rfl (show (0 : Int32) = (0 : Int32) by decide) ?_
      refine own_iload X24 hx hby at_240 (pc' := 242) rfl rfl ?_
      refine own_ifN X24 hx hby at_242 (pc' := 245) rfl (show ¬ (1 : Int32) = (0 : Int32) by decide) ?_
      refine own_iconst X24 hx hby at_245 (pc' := 246) rfl (n := (1 : Int32)) (by decide) ?_
      refine own_goto X24 hx hby at_246 (pc' := 250) (by decide) (by decide) ?_
      refine own_zreturn X24 hx hlk hby hret (Or.inr rfl) at_250 (own_lv ?_ (by decide) (by decide))
      show Q0 Z p0 p1 p2 p3 p4 p5 ca cl  h0 n0 (some (.int (1 : Int32))) T24.heap _
      rw [e24]
      exact ⟨rfl, N24⟩
    · refine own_iload X21 hx hby at_160 (pc' := 162) rfl rfl ?_
      refine own_iload X21 hx hby at_162 (pc' := 164) rfl rfl ?_
      refine own_ic2 X21 hx hby at_164 (pc1 := 178) (by decide) (by decide) (pc2 := 167) rfl (fun (hc164 : ¬ f1 = f2) => ?_) (fun (hc164 : f1 = f2) => ?_)
      · refine own_iconst X21 hx hby at_178 (pc' := 179) rfl (n := (0 : Int32)) (by decide) ?_
        refine own_istore X21 hx hby at_179 (pc' := 181) rfl (l' := #[.val (.int p0), .val (.int p1), .val (.int p2), .val (.int p3), .val (.int p4), .val (.int p5), .val (.int o1), .val (.int f1), .val (.int l1), .val (.int o2), .val (.int f2), .val (.int l2), .val (.int (1 : Int32)), .val (.ref b18), .val (.ref b20), .val (.ref b20), .val (.int (0 : Int32)), .unset, .unset, .unset, .unset]) rfl ?_
        refine own_iload X21 hx hby at_181 (pc' := 183) rfl rfl ?_
        refine own_iconst X21 hx hby at_183 (pc' := 184) rfl (n := (2 : Int32)) (by decide) ?_
        refine own_icN X21 hx hby at_184 (pc' := 187) rfl (show (1 : Int32) < (2 : Int32) by decide) ?_
        refine own_iload X21 hx hby at_187 (pc' := 189) rfl rfl ?_
        refine own_ifY X21 hx hby at_189 (pc' := 196) (by decide) (by decide) (show (0 : Int32) = (0 : Int32) by decide) ?_
        refine own_iconst X21 hx hby at_196 (pc' := 197) rfl (n := (0 : Int32)) (by decide) ?_
        refine own_istore X21 hx hby at_197 (pc' := 199) rfl (l' := #[.val (.int p0), .val (.int p1), .val (.int p2), .val (.int p3), .val (.int p4), .val (.int p5), .val (.int o1), .val (.int f1), .val (.int l1), .val (.int o2), .val (.int f2), .val (.int l2), .val (.int (1 : Int32)), .val (.ref b18), .val (.ref b20), .val (.ref b20), .val (.int (0 : Int32)), .val (.int (0 : Int32)), .unset, .unset, .unset]) rfl ?_
        refine own_aload X21 hx hby at_199 (pc' := 201) rfl rfl rfl ?_
        refine own_aload X21 hx hby at_201 (pc' := 203) rfl rfl rfl ?_
        refine own_lk3 hw X21 hx hZ hby (by rw [hml]; rfl) hown at_203 (pc' := 206) rfl rfl O19.1 (W := 0) (Nat.le_of_eq rfl) (rm3o l Z a0 hw [] b18 b20 o1 f1 l1 o2 f2 l2 (0 : Int32) T21.heap n0 Zn O19 O21 (by simp [own_e3, hc157, hc164, (Ne.symm hc164)])) (by decide) (by decide) (by decide) (by decide) (fun v25 T25 L25 X25 hQ25 => ?_)
        obtain ⟨rfl, Nq25, e25⟩ := hQ25
        have N25 := Fr.app N21 Nq25
        show own_End p e below _ (T25.setTop (mkF m 206 _ [(.int (0 : Int32))]))
        refine own_istore X25 hx hby at_206 (pc' := 208) rfl (l' := #[.val (.int p0), .val (.int p1), .val (.int p2), .val (.int p3), .val (.int p4), .val (.int p5), .val (.int o1), .val (.int f1), .val (.int l1), .val (.int o2), .val (.int f2), .val (.int l2), .val (.int (1 : Int32)), .val (.ref b18), .val (.ref b20), .val (.ref b20), .val (.int (0 : Int32)), .val (.int (0 : Int32)), .val (.int (0 : Int32)), .unset, .unset]) rfl ?_
        refine own_aload X25 hx hby at_208 (pc' := 210) rfl rfl rfl ?_
        refine own_aload X25 hx hby at_210 (pc' := 212) rfl rfl rfl ?_
        refine own_lk3 hw X25 hx hZ hby (by rw [hml]; rfl) hown at_212 (pc' := 215) rfl e25 O21.1 (W := 0) (Nat.le_of_eq rfl) (rm3o l Z a0 hw [] b20 b18 o2 f2 l2 o1 f1 l1 (0 : Int32) T21.heap n0 Zn O21 O19 (by simp [own_e3, hc157, (Ne.symm hc164), (Ne.symm hc164)])) (by decide) (by decide) (by decide) (by decide) (fun v26 T26 L26 X26 hQ26 => ?_)
        obtain ⟨rfl, Nq26, e26⟩ := hQ26
        have N26 := Fr.app N25 Nq26
        show own_End p e below _ (T26.setTop (mkF m 215 _ [(.int (0 : Int32))]))
        refine own_istore X26 hx hby at_215 (pc' := 217) rfl (l' := #[.val (.int p0), .val (.int p1), .val (.int p2), .val (.int p3), .val (.int p4), .val (.int p5), .val (.int o1), .val (.int f1), .val (.int l1), .val (.int o2), .val (.int f2), .val (.int l2), .val (.int (1 : Int32)), .val (.ref b18), .val (.ref b20), .val (.ref b20), .val (.int (0 : Int32)), .val (.int (0 : Int32)), .val (.int (0 : Int32)), .val (.int (0 : Int32)), .unset]) rfl ?_
        refine own_aload X26 hx hby at_217 (pc' := 219) rfl rfl rfl ?_
        refine own_aload X26 hx hby at_219 (pc' := 221) rfl rfl rfl ?_
        refine own_lk3 hw X26 hx hZ hby (by rw [hml]; rfl) hown at_221 (pc' := 224) rfl e26 O19.1 (W := 0) (Nat.le_of_eq rfl) (rm3s l Z a0 hw [] b18 o1 f1 l1 T21.heap n0 Zn O19) (by decide) (by decide) (by decide) (by decide) (fun v27 T27 L27 X27 hQ27 => ?_)
        obtain ⟨rfl, Nq27, e27⟩ := hQ27
        have N27 := Fr.app N26 Nq27
        show own_End p e below _ (T27.setTop (mkF m 224 _ [(.int (1 : Int32))]))
        refine own_istore X27 hx hby at_224 (pc' := 226) rfl (l' := #[.val (.int p0), .val (.int p1), .val (.int p2), .val (.int p3), .val (.int p4), .val (.int p5), .val (.int o1), .val (.int f1), .val (.int l1), .val (.int o2), .val (.int f2), .val (.int l2), .val (.int (1 : Int32)), .val (.ref b18), .val (.ref b20), .val (.ref b20), .val (.int (0 : Int32)), .val (.int (0 : Int32)), .val (.int (0 : Int32)), .val (.int (0 : Int32)), .val (.int (1 : Int32))]) rfl ?_
        refine own_iload X27 hx hby at_226 (pc' := 228) rfl rfl ?_
        refine own_iload X27 hx hby at_228 (pc' := 230) rfl rfl ?_
        refine own_icN X27 hx hby at_230 (pc' := 233) rfl (show (0 : Int32) = (0 : Int32) by decide) ?_
        refine own_iload X27 hx hby at_233 (pc' := 235) rfl rfl ?_
        refine own_iload X27 hx hby at_235 (pc' := 237) rfl rfl ?_
        refine own_icN X27 hx hby at_237 (pc' := 240) rfl (show (0 : Int32) = (0 : Int32) by decide) ?_
        refine own_iload X27 hx hby at_240 (pc' := 242) rfl rfl ?_
        refine own_ifN X27 hx hby at_242 (pc' := 245) rfl (show ¬ (1 : Int32) = (0 : Int32) by decide) ?_
        refine own_iconst X27 hx hby at_245 (pc' := 246) rfl (n := (1 : Int32)) (by decide) ?_
        refine own_goto X27 hx hby at_246 (pc' := 250) (by decide) (by decide) ?_
        refine own_zreturn X27 hx hlk hby hret (Or.inr rfl) at_250 (own_lv ?_ (by decide) (by decide))
        show Q0 Z p0 p1 p2 p3 p4 p5 ca cl  h0 n0 (some (.int (1 : Int32))) T27.heap _
        rw [e27]
        exact ⟨rfl, N27⟩
      · refine own_iload X21 hx hby at_167 (pc' := 169) rfl rfl ?_
        refine own_iload X21 hx hby at_169 (pc' := 171) rfl rfl ?_
        refine own_ic2 X21 hx hby at_171 (pc1 := 178) (by decide) (by decide) (pc2 := 174) rfl (fun (hc171 : ¬ l1 = l2) => ?_) (fun (hc171 : l1 = l2) => ?_)
        · refine own_iconst X21 hx hby at_178 (pc' := 179) rfl (n := (0 : Int32)) (by decide) ?_
          refine own_istore X21 hx hby at_179 (pc' := 181) rfl (l' := #[.val (.int p0), .val (.int p1), .val (.int p2), .val (.int p3), .val (.int p4), .val (.int p5), .val (.int o1), .val (.int f1), .val (.int l1), .val (.int o2), .val (.int f2), .val (.int l2), .val (.int (1 : Int32)), .val (.ref b18), .val (.ref b20), .val (.ref b20), .val (.int (0 : Int32)), .unset, .unset, .unset, .unset]) rfl ?_
          refine own_iload X21 hx hby at_181 (pc' := 183) rfl rfl ?_
          refine own_iconst X21 hx hby at_183 (pc' := 184) rfl (n := (2 : Int32)) (by decide) ?_
          refine own_icN X21 hx hby at_184 (pc' := 187) rfl (show (1 : Int32) < (2 : Int32) by decide) ?_
          refine own_iload X21 hx hby at_187 (pc' := 189) rfl rfl ?_
          refine own_ifY X21 hx hby at_189 (pc' := 196) (by decide) (by decide) (show (0 : Int32) = (0 : Int32) by decide) ?_
          refine own_iconst X21 hx hby at_196 (pc' := 197) rfl (n := (0 : Int32)) (by decide) ?_
          refine own_istore X21 hx hby at_197 (pc' := 199) rfl (l' := #[.val (.int p0), .val (.int p1), .val (.int p2), .val (.int p3), .val (.int p4), .val (.int p5), .val (.int o1), .val (.int f1), .val (.int l1), .val (.int o2), .val (.int f2), .val (.int l2), .val (.int (1 : Int32)), .val (.ref b18), .val (.ref b20), .val (.ref b20), .val (.int (0 : Int32)), .val (.int (0 : Int32)), .unset, .unset, .unset]) rfl ?_
          refine own_aload X21 hx hby at_199 (pc' := 201) rfl rfl rfl ?_
          refine own_aload X21 hx hby at_201 (pc' := 203) rfl rfl rfl ?_
          refine own_lk3 hw X21 hx hZ hby (by rw [hml]; rfl) hown at_203 (pc' := 206) rfl rfl O19.1 (W := 0) (Nat.le_of_eq rfl) (rm3o l Z a0 hw [] b18 b20 o1 f1 l1 o2 f2 l2 (0 : Int32) T21.heap n0 Zn O19 O21 (by simp [own_e3, hc157, hc164, hc171, (Ne.symm hc171)])) (by decide) (by decide) (by decide) (by decide) (fun v28 T28 L28 X28 hQ28 => ?_)
          obtain ⟨rfl, Nq28, e28⟩ := hQ28
          have N28 := Fr.app N21 Nq28
          show own_End p e below _ (T28.setTop (mkF m 206 _ [(.int (0 : Int32))]))
          refine own_istore X28 hx hby at_206 (pc' := 208) rfl (l' := #[.val (.int p0), .val (.int p1), .val (.int p2), .val (.int p3), .val (.int p4), .val (.int p5), .val (.int o1), .val (.int f1), .val (.int l1), .val (.int o2), .val (.int f2), .val (.int l2), .val (.int (1 : Int32)), .val (.ref b18), .val (.ref b20), .val (.ref b20), .val (.int (0 : Int32)), .val (.int (0 : Int32)), .val (.int (0 : Int32)), .unset, .unset]) rfl ?_
          refine own_aload X28 hx hby at_208 (pc' := 210) rfl rfl rfl ?_
          refine own_aload X28 hx hby at_210 (pc' := 212) rfl rfl rfl ?_
          refine own_lk3 hw X28 hx hZ hby (by rw [hml]; rfl) hown at_212 (pc' := 215) rfl e28 O21.1 (W := 0) (Nat.le_of_eq rfl) (rm3o l Z a0 hw [] b20 b18 o2 f2 l2 o1 f1 l1 (0 : Int32) T21.heap n0 Zn O21 O19 (by simp [own_e3, hc157, hc164, (Ne.symm hc171), (Ne.symm hc171)])) (by decide) (by decide) (by decide) (by decide) (fun v29 T29 L29 X29 hQ29 => ?_)
          obtain ⟨rfl, Nq29, e29⟩ := hQ29
          have N29 := Fr.app N28 Nq29
          show own_End p e below _ (T29.setTop (mkF m 215 _ [(.int (0 : Int32))]))
          refine own_istore X29 hx hby at_215 (pc' := 217) rfl (l' := #[.val (.int p0), .val (.int p1), .val (.int p2), .val (.int p3), .val (.int p4), .val (.int p5), .val (.int o1), .val (.int f1), .val (.int l1), .val (.int o2), .val (.int f2), .val (.int l2), .val (.int (1 : Int32)), .val (.ref b18), .val (.ref b20), .val (.ref b20), .val (.int (0 : Int32)), .val (.int (0 : Int32)), .val (.int (0 : Int32)), .val (.int (0 : Int32)), .unset]) rfl ?_
          refine own_aload X29 hx hby at_217 (pc' := 219) rfl rfl rfl ?_
          refine own_aload X29 hx hby at_219 (pc' := 221) rfl rfl rfl ?_
          refine own_lk3 hw X29 hx hZ hby (by rw [hml]; rfl) hown at_221 (pc' := 224) rfl e29 O19.1 (W := 0) (Nat.le_of_eq rfl) (rm3s l Z a0 hw [] b18 o1 f1 l1 T21.heap n0 Zn O19) (by decide) (by decide) (by decide) (by decide) (fun v30 T30 L30 X30 hQ30 => ?_)
          obtain ⟨rfl, Nq30, e30⟩ := hQ30
          have N30 := Fr.app N29 Nq30
          show own_End p e below _ (T30.setTop (mkF m 224 _ [(.int (1 : Int32))]))
          refine own_istore X30 hx hby at_224 (pc' := 226) rfl (l' := #[.val (.int p0), .val (.int p1), .val (.int p2), .val (.int p3), .val (.int p4), .val (.int p5), .val (.int o1), .val (.int f1), .val (.int l1), .val (.int o2), .val (.int f2), .val (.int l2), .val (.int (1 : Int32)), .val (.ref b18), .val (.ref b20), .val (.ref b20), .val (.int (0 : Int32)), .val (.int (0 : Int32)), .val (.int (0 : Int32)), .val (.int (0 : Int32)), .val (.int (1 : Int32))]) rfl ?_
          refine own_iload X30 hx hby at_226 (pc' := 228) rfl rfl ?_
          refine own_iload X30 hx hby at_228 (pc' := 230) rfl rfl ?_
          refine own_icN X30 hx hby at_230 (pc' := 233) rfl (show (0 : Int32) = (0 : Int32) by decide) ?_
          refine own_iload X30 hx hby at_233 (pc' := 235) rfl rfl ?_
          refine own_iload X30 hx hby at_235 (pc' := 237) rfl rfl ?_
          refine own_icN X30 hx hby at_237 (pc' := 240) rfl (show (0 : Int32) = (0 : Int32) by decide) ?_
          refine own_iload X30 hx hby at_240 (pc' := 242) rfl rfl ?_
          refine own_ifN X30 hx hby at_242 (pc' := 245) rfl (show ¬ (1 : Int32) = (0 : Int32) by decide) ?_
          refine own_iconst X30 hx hby at_245 (pc' := 246) rfl (n := (1 : Int32)) (by decide) ?_
          refine own_goto X30 hx hby at_246 (pc' := 250) (by decide) (by decide) ?_
          refine own_zreturn X30 hx hlk hby hret (Or.inr rfl) at_250 (own_lv ?_ (by decide) (by decide))
          show Q0 Z p0 p1 p2 p3 p4 p5 ca cl  h0 n0 (some (.int (1 : Int32))) T30.heap _
          rw [e30]
          exact ⟨rfl, N30⟩
        · refine own_iconst X21 hx hby at_174 (pc' := 175) rfl (n := (1 : Int32)) (by decide) ?_
          refine own_goto X21 hx hby at_175 (pc' := 179) (by decide) (by decide) ?_
          refine own_istore X21 hx hby at_179 (pc' := 181) rfl (l' := #[.val (.int p0), .val (.int p1), .val (.int p2), .val (.int p3), .val (.int p4), .val (.int p5), .val (.int o1), .val (.int f1), .val (.int l1), .val (.int o2), .val (.int f2), .val (.int l2), .val (.int (1 : Int32)), .val (.ref b18), .val (.ref b20), .val (.ref b20), .val (.int (1 : Int32)), .unset, .unset, .unset, .unset]) rfl ?_
          refine own_iload X21 hx hby at_181 (pc' := 183) rfl rfl ?_
          refine own_iconst X21 hx hby at_183 (pc' := 184) rfl (n := (2 : Int32)) (by decide) ?_
          refine own_icN X21 hx hby at_184 (pc' := 187) rfl (show (1 : Int32) < (2 : Int32) by decide) ?_
          refine own_iload X21 hx hby at_187 (pc' := 189) rfl rfl ?_
          refine own_ifN X21 hx hby at_189 (pc' := 192) rfl (show ¬ (1 : Int32) = (0 : Int32) by decide) ?_
          refine own_iconst X21 hx hby at_192 (pc' := 193) rfl (n := (1 : Int32)) (by decide) ?_
          refine own_goto X21 hx hby at_193 (pc' := 197) (by decide) (by decide) ?_
          refine own_istore X21 hx hby at_197 (pc' := 199) rfl (l' := #[.val (.int p0), .val (.int p1), .val (.int p2), .val (.int p3), .val (.int p4), .val (.int p5), .val (.int o1), .val (.int f1), .val (.int l1), .val (.int o2), .val (.int f2), .val (.int l2), .val (.int (1 : Int32)), .val (.ref b18), .val (.ref b20), .val (.ref b20), .val (.int (1 : Int32)), .val (.int (1 : Int32)), .unset, .unset, .unset]) rfl ?_
          refine own_aload X21 hx hby at_199 (pc' := 201) rfl rfl rfl ?_
          refine own_aload X21 hx hby at_201 (pc' := 203) rfl rfl rfl ?_
          refine own_lk3 hw X21 hx hZ hby (by rw [hml]; rfl) hown at_203 (pc' := 206) rfl rfl O19.1 (W := 0) (Nat.le_of_eq rfl) (rm3o l Z a0 hw [] b18 b20 o1 f1 l1 o2 f2 l2 (1 : Int32) T21.heap n0 Zn O19 O21 (by simp [own_e3, hc157, hc164, hc171])) (by decide) (by decide) (by decide) (by decide) (fun v31 T31 L31 X31 hQ31 => ?_)
          obtain ⟨rfl, Nq31, e31⟩ := hQ31
          have N31 := Fr.app N21 Nq31
          show own_End p e below _ (T31.setTop (mkF m 206 _ [(.int (1 : Int32))]))
          refine own_istore X31 hx hby at_206 (pc' := 208) rfl (l' := #[.val (.int p0), .val (.int p1), .val (.int p2), .val (.int p3), .val (.int p4), .val (.int p5), .val (.int o1), .val (.int f1), .val (.int l1), .val (.int o2), .val (.int f2), .val (.int l2), .val (.int (1 : Int32)), .val (.ref b18), .val (.ref b20), .val (.ref b20), .val (.int (1 : Int32)), .val (.int (1 : Int32)), .val (.int (1 : Int32)), .unset, .unset]) rfl ?_
          refine own_aload X31 hx hby at_208 (pc' := 210) rfl rfl rfl ?_
          refine own_aload X31 hx hby at_210 (pc' := 212) rfl rfl rfl ?_
          refine own_lk3 hw X31 hx hZ hby (by rw [hml]; rfl) hown at_212 (pc' := 215) rfl e31 O21.1 (W := 0) (Nat.le_of_eq rfl) (rm3o l Z a0 hw [] b20 b18 o2 f2 l2 o1 f1 l1 (1 : Int32) T21.heap n0 Zn O21 O19 (by simp [own_e3, hc157, hc164, hc171])) (by decide) (by decide) (by decide) (by decide) (fun v32 T32 L32 X32 hQ32 => ?_)
          obtain ⟨rfl, Nq32, e32⟩ := hQ32
          have N32 := Fr.app N31 Nq32
          show own_End p e below _ (T32.setTop (mkF m 215 _ [(.int (1 : Int32))]))
          refine own_istore X32 hx hby at_215 (pc' := 217) rfl (l' := #[.val (.int p0), .val (.int p1), .val (.int p2), .val (.int p3), .val (.int p4), .val (.int p5), .val (.int o1), .val (.int f1), .val (.int l1), .val (.int o2), .val (.int f2), .val (.int l2), .val (.int (1 : Int32)), .val (.ref b18), .val (.ref b20), .val (.ref b20), .val (.int (1 : Int32)), .val (.int (1 : Int32)), .val (.int (1 : Int32)), .val (.int (1 : Int32)), .unset]) rfl ?_
          refine own_aload X32 hx hby at_217 (pc' := 219) rfl rfl rfl ?_
          refine own_aload X32 hx hby at_219 (pc' := 221) rfl rfl rfl ?_
          refine own_lk3 hw X32 hx hZ hby (by rw [hml]; rfl) hown at_221 (pc' := 224) rfl e32 O19.1 (W := 0) (Nat.le_of_eq rfl) (rm3s l Z a0 hw [] b18 o1 f1 l1 T21.heap n0 Zn O19) (by decide) (by decide) (by decide) (by decide) (fun v33 T33 L33 X33 hQ33 => ?_)
          obtain ⟨rfl, Nq33, e33⟩ := hQ33
          have N33 := Fr.app N32 Nq33
          show own_End p e below _ (T33.setTop (mkF m 224 _ [(.int (1 : Int32))]))
          refine own_istore X33 hx hby at_224 (pc' := 226) rfl (l' := #[.val (.int p0), .val (.int p1), .val (.int p2), .val (.int p3), .val (.int p4), .val (.int p5), .val (.int o1), .val (.int f1), .val (.int l1), .val (.int o2), .val (.int f2), .val (.int l2), .val (.int (1 : Int32)), .val (.ref b18), .val (.ref b20), .val (.ref b20), .val (.int (1 : Int32)), .val (.int (1 : Int32)), .val (.int (1 : Int32)), .val (.int (1 : Int32)), .val (.int (1 : Int32))]) rfl ?_
          refine own_iload X33 hx hby at_226 (pc' := 228) rfl rfl ?_
          refine own_iload X33 hx hby at_228 (pc' := 230) rfl rfl ?_
          refine own_icN X33 hx hby at_230 (pc' := 233) rfl (show (1 : Int32) = (1 : Int32) by decide) ?_
          refine own_iload X33 hx hby at_233 (pc' := 235) rfl rfl ?_
          refine own_iload X33 hx hby at_235 (pc' := 237) rfl rfl ?_
          refine own_icN X33 hx hby at_237 (pc' := 240) rfl (show (1 : Int32) = (1 : Int32) by decide) ?_
          refine own_iload X33 hx hby at_240 (pc' := 242) rfl rfl ?_
          refine own_ifN X33 hx hby at_242 (pc' := 245) rfl (show ¬ (1 : Int32) = (0 : Int32) by decide) ?_
          refine own_iconst X33 hx hby at_245 (pc' := 246) rfl (n := (1 : Int32)) (by decide) ?_
          refine own_goto X33 hx hby at_246 (pc' := 250) (by decide) (by decide) ?_
          refine own_zreturn X33 hx hlk hby hret (Or.inr rfl) at_250 (own_lv ?_ (by decide) (by decide))
          show Q0 Z p0 p1 p2 p3 p4 p5 ca cl  h0 n0 (some (.int (1 : Int32))) T33.heap _
          rw [e33]
          exact ⟨rfl, N33⟩
  · rw [hs1]
    show own_End p e below _ (T0.setTop (mkF m 90 #[.val (.int p0), .val (.int p1), .val (.int p2), .val (.int p3), .val (.int p4), .val (.int p5), .val (.int o1), .val (.int f1), .val (.int l1), .val (.int o2), .val (.int f2), .val (.int l2), .unset, .unset, .unset, .unset, .unset, .unset, .unset, .unset, .unset] [(.int (2 : Int32))]))
    refine own_istore X0 hx hby at_90 (pc' := 92) rfl (l' := #[.val (.int p0), .val (.int p1), .val (.int p2), .val (.int p3), .val (.int p4), .val (.int p5), .val (.int o1), .val (.int f1), .val (.int l1), .val (.int o2), .val (.int f2), .val (.int l2), .val (.int (2 : Int32)), .unset, .unset, .unset, .unset, .unset, .unset, .unset, .unset]) rfl ?_
    refine own_new X0 hx hZ hby hown (wd_2 hw) (wd_3 hw) (wd_4 hw) e1 at_92 (pc' := 95) rfl (by decide) (by decide) (fun T34 h34 b34 g34 X34 e34 E34 A34 D34 => ?_)
    have ne_ca_b34 : ca ≠ b34 := Nat.ne_of_lt (by rw [g34]; exact f_IC_ca.lt)
    have ge_b34 : n0 ≤ b34 := by rw [g34]; exact Z1
    have f_S_java_lang_Integer_IntegerCache_high := f_S_java_lang_Integer_IntegerCache_high.ext E34
    have f_S_java_lang_Integer_IntegerCache_cache := f_S_java_lang_Integer_IntegerCache_cache.ext E34
    have f_IC_ca := f_IC_ca.ext E34
    have Zn := Nat.le_trans Z1 E34.1
    have f_O_b34 : own_FH Z h34 b34 (0 : Int32) (0 : Int32) (0 : Int32) := ⟨A34, D34 (Or.inr (wd_13 hw)) (ty := .int) (by decide), D34 (Or.inr (wd_15 hw)) (ty := .int) (by decide), D34 (Or.inr (wd_17 hw)) (ty := .int) (by decide)⟩
    refine own_dup X34 hx hby at_95 (pc' := 96) rfl rfl ?_
    refine own_iload X34 hx hby at_96 (pc' := 98) rfl rfl ?_
    refine own_iload X34 hx hby at_98 (pc' := 100) rfl rfl ?_
    refine own_iload X34 hx hby at_100 (pc' := 102) rfl rfl ?_
    refine own_lk2 hw X34 hx hZ hby (by rw [hml]; rfl) hown at_102 (pc' := 105) rfl e34 (W := 1) (Nat.le_of_eq rfl) (rm1 l Z a0 hw [] b34 o1 f1 l1 h34 n0 Zn f_O_b34 ge_b34 ho1 hf1 hl1) (by decide) (by decide) (by decide) (by decide) (fun v35 T35 L35 X35 hQ35 => ?_)
    obtain ⟨rfl, Nq35, K35, O35⟩ := hQ35
    have N35 := Fr.app N0 Nq35
    have f_S_java_lang_Integer_IntegerCache_high := own_sta1 f_S_java_lang_Integer_IntegerCache_high K35 f_O_b34.1
    have f_S_java_lang_Integer_IntegerCache_cache := own_sta1 f_S_java_lang_Integer_IntegerCache_cache K35 f_O_b34.1
    have f_IC_ca := f_IC_ca.keep K35 (ninS ne_ca_b34 nin0)
    have Zn := Nat.le_trans Zn K35.1
    show own_End p e below _ (T35.setTop (mkF m 105 _ [(.ref b34)]))
    refine own_astore X35 hx hby at_105 (pc' := 107) rfl rfl (l' := #[.val (.int p0), .val (.int p1), .val (.int p2), .val (.int p3), .val (.int p4), .val (.int p5), .val (.int o1), .val (.int f1), .val (.int l1), .val (.int o2), .val (.int f2), .val (.int l2), .val (.int (2 : Int32)), .val (.ref b34), .unset, .unset, .unset, .unset, .unset, .unset, .unset]) rfl ?_
    refine own_new X35 hx hZ hby hown (wd_2 hw) (wd_3 hw) (wd_4 hw) rfl at_107 (pc' := 110) rfl (by decide) (by decide) (fun T36 h36 b36 g36 X36 e36 E36 A36 D36 => ?_)
    have ne_ca_b36 : ca ≠ b36 := Nat.ne_of_lt (by rw [g36]; exact f_IC_ca.lt)
    have ne_b34_b36 : b34 ≠ b36 := Nat.ne_of_lt (by rw [g36]; exact O35.lt)
    have ge_b36 : n0 ≤ b36 := by rw [g36]; exact Zn
    have f_S_java_lang_Integer_IntegerCache_high := f_S_java_lang_Integer_IntegerCache_high.ext E36
    have f_S_java_lang_Integer_IntegerCache_cache := f_S_java_lang_Integer_IntegerCache_cache.ext E36
    have f_IC_ca := f_IC_ca.ext E36
    have O35 := O35.ext E36
    have Zn := Nat.le_trans Zn E36.1
    have f_O_b36 : own_FH Z h36 b36 (0 : Int32) (0 : Int32) (0 : Int32) := ⟨A36, D36 (Or.inr (wd_13 hw)) (ty := .int) (by decide), D36 (Or.inr (wd_15 hw)) (ty := .int) (by decide), D36 (Or.inr (wd_17 hw)) (ty := .int) (by decide)⟩
    refine own_dup X36 hx hby at_110 (pc' := 111) rfl rfl ?_
    refine own_iload X36 hx hby at_111 (pc' := 113) rfl rfl ?_
    refine own_iload X36 hx hby at_113 (pc' := 115) rfl rfl ?_
    refine own_iload X36 hx hby at_115 (pc' := 117) rfl rfl ?_
    refine own_lk2 hw X36 hx hZ hby (by rw [hml]; rfl) hown at_117 (pc' := 120) rfl e36 (W := 1) (Nat.le_of_eq rfl) (rm1 l Z a0 hw [] b36 o2 f2 l2 h36 n0 Zn f_O_b36 ge_b36 ho2 hf2 hl2) (by decide) (by decide) (by decide) (by decide) (fun v37 T37 L37 X37 hQ37 => ?_)
    obtain ⟨rfl, Nq37, K37, O37⟩ := hQ37
    have N37 := Fr.app N35 Nq37
    have f_S_java_lang_Integer_IntegerCache_high := own_sta1 f_S_java_lang_Integer_IntegerCache_high K37 f_O_b36.1
    have f_S_java_lang_Integer_IntegerCache_cache := own_sta1 f_S_java_lang_Integer_IntegerCache_cache K37 f_O_b36.1
    have f_IC_ca := f_IC_ca.keep K37 (ninS ne_ca_b36 nin0)
    have O35 := O35.keep K37 (ninS ne_b34_b36 nin0)
    have Zn := Nat.le_trans Zn K37.1
    show own_End p e below _ (T37.setTop (mkF m 120 _ [(.ref b36)]))
    refine own_astore X37 hx hby at_120 (pc' := 122) rfl rfl (l' := #[.val (.int p0), .val (.int p1), .val (.int p2), .val (.int p3), .val (.int p4), .val (.int p5), .val (.int o1), .val (.int f1), .val (.int l1), .val (.int o2), .val (.int f2), .val (.int l2), .val (.int (2 : Int32)), .val (.ref b34), .val (.ref b36), .unset, .unset, .unset, .unset, .unset, .unset]) rfl ?_
    refine own_iload X37 hx hby at_122 (pc' := 124) rfl rfl ?_
    refine own_iconst X37 hx hby at_124 (pc' := 125) rfl (n := (2 : Int32)) (by decide) ?_
    refine own_icN X37 hx hby at_125 (pc' := 128) rfl (show (2 : Int32) = (2 : Int32) by decide) ?_
    refine own_aconst_null X37 hx hby at_128 (pc' := 129) rfl ?_
    refine own_astore X37 hx hby at_129 (pc' := 131) rfl rfl (l' := #[.val (.int p0), .val (.int p1), .val (.int p2), .val (.int p3), .val (.int p4), .val (.int p5), .val (.int o1), .val (.int f1), .val (.int l1), .val (.int o2), .val (.int f2), .val (.int l2), .val (.int (2 : Int32)), .val (.ref b34), .val (.ref b36), .val .null, .unset, .unset, .unset, .unset, .unset]) rfl ?_
    refine own_goto X37 hx hby at_131 (pc' := 153) (by decide) (by decide) ?_
    refine own_iload X37 hx hby at_153 (pc' := 155) rfl rfl ?_
    refine own_iload X37 hx hby at_155 (pc' := 157) rfl rfl ?_
    refine own_ic2 X37 hx hby at_157 (pc1 := 178) (by decide) (by decide) (pc2 := 160) rfl (fun (hc157 : ¬ o1 = o2) => ?_) (fun (hc157 : o1 = o2) => ?_)
    · refine own_iconst X37 hx hby at_178 (pc' := 179) rfl (n := (0 : Int32)) (by decide) ?_
      refine own_istore X37 hx hby at_179 (pc' := 181) rfl (l' := #[.val (.int p0), .val (.int p1), .val (.int p2), .val (.int p3), .val (.int p4), .val (.int p5), .val (.int o1), .val (.int f1), .val (.int l1), .val (.int o2), .val (.int f2), .val (.int l2), .val (.int (2 : Int32)), .val (.ref b34), .val (.ref b36), .val .null, .val (.int (0 : Int32)), .unset, .unset, .unset, .unset]) rfl ?_
      refine own_iload X37 hx hby at_181 (pc' := 183) rfl rfl ?_
      refine own_iconst X37 hx hby at_183 (pc' := 184) rfl (n := (2 : Int32)) (by decide) ?_
      refine own_icY X37 hx hby at_184 (pc' := 196) (by decide) (by decide) (show ¬ (2 : Int32) < (2 : Int32) by decide) ?_
      refine own_iconst X37 hx hby at_196 (pc' := 197) rfl (n := (0 : Int32)) (by decide) ?_
      refine own_istore X37 hx hby at_197 (pc' := 199) rfl (l' := #[.val (.int p0), .val (.int p1), .val (.int p2), .val (.int p3), .val (.int p4), .val (.int p5), .val (.int o1), .val (.int f1), .val (.int l1), .val (.int o2), .val (.int f2), .val (.int l2), .val (.int (2 : Int32)), .val (.ref b34), .val (.ref b36), .val .null, .val (.int (0 : Int32)), .val (.int (0 : Int32)), .unset, .unset, .unset]) rfl ?_
      refine own_aload X37 hx hby at_199 (pc' := 201) rfl rfl rfl ?_
      refine own_aload X37 hx hby at_201 (pc' := 203) rfl rfl rfl ?_
      refine own_lk3 hw X37 hx hZ hby (by rw [hml]; rfl) hown at_203 (pc' := 206) rfl rfl O35.1 (W := 0) (Nat.le_of_eq rfl) (rm3n l Z a0 hw [] b34 T37.heap n0 Zn ) (by decide) (by decide) (by decide) (by decide) (fun v38 T38 L38 X38 hQ38 => ?_)
      obtain ⟨rfl, Nq38, e38⟩ := hQ38
      have N38 := Fr.app N37 Nq38
      show own_End p e below _ (T38.setTop (mkF m 206 _ [(.int (0 : Int32))]))
      refine own_istore X38 hx hby at_206 (pc' := 208) rfl (l' := #[.val (.int p0), .val (.int p1), .val (.int p2), .val (.int p3), .val (.int p4), .val (.int p5), .val (.int o1), .val (.int f1), .val (.int l1), .val (.int o2), .val (.int f2), .val (.int l2), .val (.int (2 : Int32)), .val (.ref b34), .val (.ref b36), .val .null, .val (.int (0 : Int32)), .val (.int (0 : Int32)), .val (.int (0 : Int32)), .unset, .unset]) rfl ?_
      refine own_aload X38 hx hby at_208 (pc' := 210) rfl rfl rfl ?_
      refine own_aload X38 hx hby at_210 (pc' := 212) rfl rfl rfl ?_
      refine own_lk3 hw X38 hx hZ hby (by rw [hml]; rfl) hown at_212 (pc' := 215) rfl e38 O37.1 (W := 0) (Nat.le_of_eq rfl) (rm3o l Z a0 hw [] b36 b34 o2 f2 l2 o1 f1 l1 (0 : Int32) T37.heap n0 Zn O37 O35 (by simp [own_e3, (Ne.symm hc157), (Ne.symm hc157)])) (by decide) (by decide) (by decide) (by decide) (fun v39 T39 L39 X39 hQ39 => ?_)
      obtain ⟨rfl, Nq39, e39⟩ := hQ39
      have N39 := Fr.app N38 Nq39
      show own_End p e below _ (T39.setTop (mkF m 215 _ [(.int (0 : Int32))]))
      refine own_istore X39 hx hby at_215 (pc' := 217) rfl (l' := #[.val (.int p0), .val (.int p1), .val (.int p2), .val (.int p3), .val (.int p4), .val (.int p5), .val (.int o1), .val (.int f1), .val (.int l1), .val (.int o2), .val (.int f2), .val (.int l2), .val (.int (2 : Int32)), .val (.ref b34), .val (.ref b36), .val .null, .val (.int (0 : Int32)), .val (.int (0 : Int32)), .val (.int (0 : Int32)), .val (.int (0 : Int32)), .unset]) rfl ?_
      refine own_aload X39 hx hby at_217 (pc' := 219) rfl rfl rfl ?_
      refine own_aload X39 hx hby at_219 (pc' := 221) rfl rfl rfl ?_
      refine own_lk3 hw X39 hx hZ hby (by rw [hml]; rfl) hown at_221 (pc' := 224) rfl e39 O35.1 (W := 0) (Nat.le_of_eq rfl) (rm3s l Z a0 hw [] b34 o1 f1 l1 T37.heap n0 Zn O35) (by decide) (by decide) (by decide) (by decide) (fun v40 T40 L40 X40 hQ40 => ?_)
      obtain ⟨rfl, Nq40, e40⟩ := hQ40
      have N40 := Fr.app N39 Nq40
      show own_End p e below _ (T40.setTop (mkF m 224 _ [(.int (1 : Int32))]))
      refine own_istore X40 hx hby at_224 (pc' := 226) rfl (l' := #[.val (.int p0), .val (.int p1), .val (.int p2), .val (.int p3), .val (.int p4), .val (.int p5), .val (.int o1), .val (.int f1), .val (.int l1), .val (.int o2), .val (.int f2), .val (.int l2), .val (.int (2 : Int32)), .val (.ref b34), .val (.ref b36), .val .null, .val (.int (0 : Int32)), .val (.int (0 : Int32)), .val (.int (0 : Int32)), .val (.int (0 : Int32)), .val (.int (1 : Int32))]) rfl ?_
      refine own_iload X40 hx hby at_226 (pc' := 228) rfl rfl ?_
      refine own_iload X40 hx hby at_228 (pc' := 230) rfl rfl ?_
      refine own_icN X40 hx hby at_230 (pc' := 233) rfl (show (0 : Int32) = (0 : Int32) by decide) ?_
      refine own_iload X40 hx hby at_233 (pc' := 235) rfl rfl ?_
      refine own_iload X40 hx hby at_235 (pc' := 237) rfl rfl ?_
      refine own_icN X40 hx hby at_237 (pc' := 240) rfl (show (0 : Int32) = (0 : Int32) by decide) ?_
      refine own_iload X40 hx hby at_240 (pc' := 242) rfl rfl ?_
      refine own_ifN X40 hx hby at_242 (pc' := 245) rfl (show ¬ (1 : Int32) = (0 : Int32) by decide) ?_
      refine own_iconst X40 hx hby at_245 (pc' := 246) rfl (n := (1 : Int32)) (by decide) ?_
      refine own_goto X40 hx hby at_246 (pc' := 250) (by decide) (by decide) ?_
      refine own_zreturn X40 hx hlk hby hret (Or.inr rfl) at_250 (own_lv ?_ (by decide) (by decide))
      show Q0 Z p0 p1 p2 p3 p4 p5 ca cl  h0 n0 (some (.int (1 : Int32))) T40.heap _
      rw [e40]
      exact ⟨rfl, N40⟩
    · refine own_iload X37 hx hby at_160 (pc' := 162) rfl rfl ?_
      refine own_iload X37 hx hby at_162 (pc' := 164) rfl rfl ?_
      refine own_ic2 X37 hx hby at_164 (pc1 := 178) (by decide) (by decide) (pc2 := 167) rfl (fun (hc164 : ¬ f1 = f2) => ?_) (fun (hc164 : f1 = f2) => ?_)
      · refine own_iconst X37 hx hby at_178 (pc' := 179) rfl (n := (0 : Int32)) (by decide) ?_
        refine own_istore X37 hx hby at_179 (pc' := 181) rfl (l' := #[.val (.int p0), .val (.int p1), .val (.int p2), .val (.int p3), .val (.int p4), .val (.int p5), .val (.int o1), .val (.int f1), .val (.int l1), .val (.int o2), .val (.int f2), .val (.int l2), .val (.int (2 : Int32)), .val (.ref b34), .val (.ref b36), .val .null, .val (.int (0 : Int32)), .unset, .unset, .unset, .unset]) rfl ?_
        refine own_iload X37 hx hby at_181 (pc' := 183) rfl rfl ?_
        refine own_iconst X37 hx hby at_183 (pc' := 184) rfl (n := (2 : Int32)) (by decide) ?_
        refine own_icY X37 hx hby at_184 (pc' := 196) (by decide) (by decide) (show ¬ (2 : Int32) < (2 : Int32) by decide) ?_
        refine own_iconst X37 hx hby at_196 (pc' := 197) rfl (n := (0 : Int32)) (by decide) ?_
        refine own_istore X37 hx hby at_197 (pc' := 199) rfl (l' := #[.val (.int p0), .val (.int p1), .val (.int p2), .val (.int p3), .val (.int p4), .val (.int p5), .val (.int o1), .val (.int f1), .val (.int l1), .val (.int o2), .val (.int f2), .val (.int l2), .val (.int (2 : Int32)), .val (.ref b34), .val (.ref b36), .val .null, .val (.int (0 : Int32)), .val (.int (0 : Int32)), .unset, .unset, .unset]) rfl ?_
        refine own_aload X37 hx hby at_199 (pc' := 201) rfl rfl rfl ?_
        refine own_aload X37 hx hby at_201 (pc' := 203) rfl rfl rfl ?_
        refine own_lk3 hw X37 hx hZ hby (by rw [hml]; rfl) hown at_203 (pc' := 206) rfl rfl O35.1 (W := 0) (Nat.le_of_eq rfl) (rm3n l Z a0 hw [] b34 T37.heap n0 Zn ) (by decide) (by decide) (by decide) (by decide) (fun v41 T41 L41 X41 hQ41 => ?_)
        obtain ⟨rfl, Nq41, e41⟩ := hQ41
        have N41 := Fr.app N37 Nq41
        show own_End p e below _ (T41.setTop (mkF m 206 _ [(.int (0 : Int32))]))
        refine own_istore X41 hx hby at_206 (pc' := 208) rfl (l' := #[.val (.int p0), .val (.int p1), .val (.int p2), .val (.int p3), .val (.int p4), .val (.int p5), .val (.int o1), .val (.int f1), .val (.int l1), .val (.int o2), .val (.int f2), .val (.int l2), .val (.int (2 : Int32)), .val (.ref b34), .val (.ref b36), .val .null, .val (.int (0 : Int32)), .val (.int (0 : Int32)), .val (.int (0 : Int32)), .unset, .unset]) rfl ?_
        refine own_aload X41 hx hby at_208 (pc' := 210) rfl rfl rfl ?_
        refine own_aload X41 hx hby at_210 (pc' := 212) rfl rfl rfl ?_
        refine own_lk3 hw X41 hx hZ hby (by rw [hml]; rfl) hown at_212 (pc' := 215) rfl e41 O37.1 (W := 0) (Nat.le_of_eq rfl) (rm3o l Z a0 hw [] b36 b34 o2 f2 l2 o1 f1 l1 (0 : Int32) T37.heap n0 Zn O37 O35 (by simp [own_e3, hc157, (Ne.symm hc164), (Ne.symm hc164)])) (by decide) (by decide) (by decide) (by decide) (fun v42 T42 L42 X42 hQ42 => ?_)
        obtain ⟨rfl, Nq42, e42⟩ := hQ42
        have N42 := Fr.app N41 Nq42
        show own_End p e below _ (T42.setTop (mkF m 215 _ [(.int (0 : Int32))]))
        refine own_istore X42 hx hby at_215 (pc' := 217) rfl (l' := #[.val (.int p0), .val (.int p1), .val (.int p2), .val (.int p3), .val (.int p4), .val (.int p5), .val (.int o1), .val (.int f1), .val (.int l1), .val (.int o2), .val (.int f2), .val (.int l2), .val (.int (2 : Int32)), .val (.ref b34), .val (.ref b36), .val .null, .val (.int (0 : Int32)), .val (.int (0 : Int32)), .val (.int (0 : Int32)), .val (.int (0 : Int32)), .unset]) rfl ?_
        refine own_aload X42 hx hby at_217 (pc' := 219) rfl rfl rfl ?_
        refine own_aload X42 hx hby at_219 (pc' := 221) rfl rfl rfl ?_
        refine own_lk3 hw X42 hx hZ hby (by rw [hml]; rfl) hown at_221 (pc' := 224) rfl e42 O35.1 (W := 0) (Nat.le_of_eq rfl) (rm3s l Z a0 hw [] b34 o1 f1 l1 T37.heap n0 Zn O35) (by decide) (by decide) (by decide) (by decide) (fun v43 T43 L43 X43 hQ43 => ?_)
        obtain ⟨rfl, Nq43, e43⟩ := hQ43
        have N43 := Fr.app N42 Nq43
        show own_End p e below _ (T43.setTop (mkF m 224 _ [(.int (1 : Int32))]))
        refine own_istore X43 hx hby at_224 (pc' := 226) rfl (l' := #[.val (.int p0), .val (.int p1), .val (.int p2), .val (.int p3), .val (.int p4), .val (.int p5), .val (.int o1), .val (.int f1), .val (.int l1), .val (.int o2), .val (.int f2), .val (.int l2), .val (.int (2 : Int32)), .val (.ref b34), .val (.ref b36), .val .null, .val (.int (0 : Int32)), .val (.int (0 : Int32)), .val (.int (0 : Int32)), .val (.int (0 : Int32)), .val (.int (1 : Int32))]) rfl ?_
        refine own_iload X43 hx hby at_226 (pc' := 228) rfl rfl ?_
        refine own_iload X43 hx hby at_228 (pc' := 230) rfl rfl ?_
        refine own_icN X43 hx hby at_230 (pc' := 233) rfl (show (0 : Int32) = (0 : Int32) by decide) ?_
        refine own_iload X43 hx hby at_233 (pc' := 235) rfl rfl ?_
        refine own_iload X43 hx hby at_235 (pc' := 237) rfl rfl ?_
        refine own_icN X43 hx hby at_237 (pc' := 240) rfl (show (0 : Int32) = (0 : Int32) by decide) ?_
        refine own_iload X43 hx hby at_240 (pc' := 242) rfl rfl ?_
        refine own_ifN X43 hx hby at_242 (pc' := 245) rfl (show ¬ (1 : Int32) = (0 : Int32) by decide) ?_
        refine own_iconst X43 hx hby at_245 (pc' := 246) rfl (n := (1 : Int32)) (by decide) ?_
        refine own_goto X43 hx hby at_246 (pc' := 250) (by decide) (by decide) ?_
        refine own_zreturn X43 hx hlk hby hret (Or.inr rfl) at_250 (own_lv ?_ (by decide) (by decide))
        show Q0 Z p0 p1 p2 p3 p4 p5 ca cl  h0 n0 (some (.int (1 : Int32))) T43.heap _
        rw [e43]
        exact ⟨rfl, N43⟩
      · refine own_iload X37 hx hby at_167 (pc' := 169) rfl rfl ?_
        refine own_iload X37 hx hby at_169 (pc' := 171) rfl rfl ?_
        refine own_ic2 X37 hx hby at_171 (pc1 := 178) (by decide) (by decide) (pc2 := 174) rfl (fun (hc171 : ¬ l1 = l2) => ?_) (fun (hc171 : l1 = l2) => ?_)
        · refine own_iconst X37 hx hby at_178 (pc' := 179) rfl (n := (0 : Int32)) (by decide) ?_
          refine own_istore X37 hx hby at_179 (pc' := 181) rfl (l' := #[.val (.int p0), .val (.int p1), .val (.int p2), .val (.int p3), .val (.int p4), .val (.int p5), .val (.int o1), .val (.int f1), .val (.int l1), .val (.int o2), .val (.int f2), .val (.int l2), .val (.int (2 : Int32)), .val (.ref b34), .val (.ref b36), .val .null, .val (.int (0 : Int32)), .unset, .unset, .unset, .unset]) rfl ?_
          refine own_iload X37 hx hby at_181 (pc' := 183) rfl rfl ?_
          refine own_iconst X37 hx hby at_183 (pc' := 184) rfl (n := (2 : Int32)) (by decide) ?_
          refine own_icY X37 hx hby at_184 (pc' := 196) (by decide) (by decide) (show ¬ (2 : Int32) < (2 : Int32) by decide) ?_
          refine own_iconst X37 hx hby at_196 (pc' := 197) rfl (n := (0 : Int32)) (by decide) ?_
          refine own_istore X37 hx hby at_197 (pc' := 199) rfl (l' := #[.val (.int p0), .val (.int p1), .val (.int p2), .val (.int p3), .val (.int p4), .val (.int p5), .val (.int o1), .val (.int f1), .val (.int l1), .val (.int o2), .val (.int f2), .val (.int l2), .val (.int (2 : Int32)), .val (.ref b34), .val (.ref b36), .val .null, .val (.int (0 : Int32)), .val (.int (0 : Int32)), .unset, .unset, .unset]) rfl ?_
          refine own_aload X37 hx hby at_199 (pc' := 201) rfl rfl rfl ?_
          refine own_aload X37 hx hby at_201 (pc' := 203) rfl rfl rfl ?_
          refine own_lk3 hw X37 hx hZ hby (by rw [hml]; rfl) hown at_203 (pc' := 206) rfl rfl O35.1 (W := 0) (Nat.le_of_eq rfl) (rm3n l Z a0 hw [] b34 T37.heap n0 Zn ) (by decide) (by decide) (by decide) (by decide) (fun v44 T44 L44 X44 hQ44 => ?_)
          obtain ⟨rfl, Nq44, e44⟩ := hQ44
          have N44 := Fr.app N37 Nq44
          show own_End p e below _ (T44.setTop (mkF m 206 _ [(.int (0 : Int32))]))
          refine own_istore X44 hx hby at_206 (pc' := 208) rfl (l' := #[.val (.int p0), .val (.int p1), .val (.int p2), .val (.int p3), .val (.int p4), .val (.int p5), .val (.int o1), .val (.int f1), .val (.int l1), .val (.int o2), .val (.int f2), .val (.int l2), .val (.int (2 : Int32)), .val (.ref b34), .val (.ref b36), .val .null, .val (.int (0 : Int32)), .val (.int (0 : Int32)), .val (.int (0 : Int32)), .unset, .unset]) rfl ?_
          refine own_aload X44 hx hby at_208 (pc' := 210) rfl rfl rfl ?_
          refine own_aload X44 hx hby at_210 (pc' := 212) rfl rfl rfl ?_
          refine own_lk3 hw X44 hx hZ hby (by rw [hml]; rfl) hown at_212 (pc' := 215) rfl e44 O37.1 (W := 0) (Nat.le_of_eq rfl) (rm3o l Z a0 hw [] b36 b34 o2 f2 l2 o1 f1 l1 (0 : Int32) T37.heap n0 Zn O37 O35 (by simp [own_e3, hc157, hc164, (Ne.symm hc171), (Ne.symm hc171)])) (by decide) (by decide) (by decide) (by decide) (fun v45 T45 L45 X45 hQ45 => ?_)
          obtain ⟨rfl, Nq45, e45⟩ := hQ45
          have N45 := Fr.app N44 Nq45
          show own_End p e below _ (T45.setTop (mkF m 215 _ [(.int (0 : Int32))]))
          refine own_istore X45 hx hby at_215 (pc' := 217) rfl (l' := #[.val (.int p0), .val (.int p1), .val (.int p2), .val (.int p3), .val (.int p4), .val (.int p5), .val (.int o1), .val (.int f1), .val (.int l1), .val (.int o2), .val (.int f2), .val (.int l2), .val (.int (2 : Int32)), .val (.ref b34), .val (.ref b36), .val .null, .val (.int (0 : Int32)), .val (.int (0 : Int32)), .val (.int (0 : Int32)), .val (.int (0 : Int32)), .unset]) rfl ?_
          refine own_aload X45 hx hby at_217 (pc' := 219) rfl rfl rfl ?_
          refine own_aload X45 hx hby at_219 (pc' := 221) rfl rfl rfl ?_
          refine own_lk3 hw X45 hx hZ hby (by rw [hml]; rfl) hown at_221 (pc' := 224) rfl e45 O35.1 (W := 0) (Nat.le_of_eq rfl) (rm3s l Z a0 hw [] b34 o1 f1 l1 T37.heap n0 Zn O35) (by decide) (by decide) (by decide) (by decide) (fun v46 T46 L46 X46 hQ46 => ?_)
          obtain ⟨rfl, Nq46, e46⟩ := hQ46
          have N46 := Fr.app N45 Nq46
          show own_End p e below _ (T46.setTop (mkF m 224 _ [(.int (1 : Int32))]))
          refine own_istore X46 hx hby at_224 (pc' := 226) rfl (l' := #[.val (.int p0), .val (.int p1), .val (.int p2), .val (.int p3), .val (.int p4), .val (.int p5), .val (.int o1), .val (.int f1), .val (.int l1), .val (.int o2), .val (.int f2), .val (.int l2), .val (.int (2 : Int32)), .val (.ref b34), .val (.ref b36), .val .null, .val (.int (0 : Int32)), .val (.int (0 : Int32)), .val (.int (0 : Int32)), .val (.int (0 : Int32)), .val (.int (1 : Int32))]) rfl ?_
          refine own_iload X46 hx hby at_226 (pc' := 228) rfl rfl ?_
          refine own_iload X46 hx hby at_228 (pc' := 230) rfl rfl ?_
          refine own_icN X46 hx hby at_230 (pc' := 233) rfl (show (0 : Int32) = (0 : Int32) by decide) ?_
          refine own_iload X46 hx hby at_233 (pc' := 235) rfl rfl ?_
          refine own_iload X46 hx hby at_235 (pc' := 237) rfl rfl ?_
          refine own_icN X46 hx hby at_237 (pc' := 240) rfl (show (0 : Int32) = (0 : Int32) by decide) ?_
          refine own_iload X46 hx hby at_240 (pc' := 242) rfl rfl ?_
          refine own_ifN X46 hx hby at_242 (pc' := 245) rfl (show ¬ (1 : Int32) = (0 : Int32) by decide) ?_
          refine own_iconst X46 hx hby at_245 (pc' := 246) rfl (n := (1 : Int32)) (by decide) ?_
          refine own_goto X46 hx hby at_246 (pc' := 250) (by decide) (by decide) ?_
          refine own_zreturn X46 hx hlk hby hret (Or.inr rfl) at_250 (own_lv ?_ (by decide) (by decide))
          show Q0 Z p0 p1 p2 p3 p4 p5 ca cl  h0 n0 (some (.int (1 : Int32))) T46.heap _
          rw [e46]
          exact ⟨rfl, N46⟩
        · refine own_iconst X37 hx hby at_174 (pc' := 175) rfl (n := (1 : Int32)) (by decide) ?_
          refine own_goto X37 hx hby at_175 (pc' := 179) (by decide) (by decide) ?_
          refine own_istore X37 hx hby at_179 (pc' := 181) rfl (l' := #[.val (.int p0), .val (.int p1), .val (.int p2), .val (.int p3), .val (.int p4), .val (.int p5), .val (.int o1), .val (.int f1), .val (.int l1), .val (.int o2), .val (.int f2), .val (.int l2), .val (.int (2 : Int32)), .val (.ref b34), .val (.ref b36), .val .null, .val (.int (1 : Int32)), .unset, .unset, .unset, .unset]) rfl ?_
          refine own_iload X37 hx hby at_181 (pc' := 183) rfl rfl ?_
          refine own_iconst X37 hx hby at_183 (pc' := 184) rfl (n := (2 : Int32)) (by decide) ?_
          refine own_icY X37 hx hby at_184 (pc' := 196) (by decide) (by decide) (show ¬ (2 : Int32) < (2 : Int32) by decide) ?_
          refine own_iconst X37 hx hby at_196 (pc' := 197) rfl (n := (0 : Int32)) (by decide) ?_
          refine own_istore X37 hx hby at_197 (pc' := 199) rfl (l' := #[.val (.int p0), .val (.int p1), .val (.int p2), .val (.int p3), .val (.int p4), .val (.int p5), .val (.int o1), .val (.int f1), .val (.int l1), .val (.int o2), .val (.int f2), .val (.int l2), .val (.int (2 : Int32)), .val (.ref b34), .val (.ref b36), .val .null, .val (.int (1 : Int32)), .val (.int (0 : Int32)), .unset, .unset, .unset]) rfl ?_
          refine own_aload X37 hx hby at_199 (pc' := 201) rfl rfl rfl ?_
          refine own_aload X37 hx hby at_201 (pc' := 203) rfl rfl rfl ?_
          refine own_lk3 hw X37 hx hZ hby (by rw [hml]; rfl) hown at_203 (pc' := 206) rfl rfl O35.1 (W := 0) (Nat.le_of_eq rfl) (rm3n l Z a0 hw [] b34 T37.heap n0 Zn ) (by decide) (by decide) (by decide) (by decide) (fun v47 T47 L47 X47 hQ47 => ?_)
          obtain ⟨rfl, Nq47, e47⟩ := hQ47
          have N47 := Fr.app N37 Nq47
          show own_End p e below _ (T47.setTop (mkF m 206 _ [(.int (0 : Int32))]))
          refine own_istore X47 hx hby at_206 (pc' := 208) rfl (l' := #[.val (.int p0), .val (.int p1), .val (.int p2), .val (.int p3), .val (.int p4), .val (.int p5), .val (.int o1), .val (.int f1), .val (.int l1), .val (.int o2), .val (.int f2), .val (.int l2), .val (.int (2 : Int32)), .val (.ref b34), .val (.ref b36), .val .null, .val (.int (1 : Int32)), .val (.int (0 : Int32)), .val (.int (0 : Int32)), .unset, .unset]) rfl ?_
          refine own_aload X47 hx hby at_208 (pc' := 210) rfl rfl rfl ?_
          refine own_aload X47 hx hby at_210 (pc' := 212) rfl rfl rfl ?_
          refine own_lk3 hw X47 hx hZ hby (by rw [hml]; rfl) hown at_212 (pc' := 215) rfl e47 O37.1 (W := 0) (Nat.le_of_eq rfl) (rm3o l Z a0 hw [] b36 b34 o2 f2 l2 o1 f1 l1 (1 : Int32) T37.heap n0 Zn O37 O35 (by simp [own_e3, hc157, hc164, hc171])) (by decide) (by decide) (by decide) (by decide) (fun v48 T48 L48 X48 hQ48 => ?_)
          obtain ⟨rfl, Nq48, e48⟩ := hQ48
          have N48 := Fr.app N47 Nq48
          show own_End p e below _ (T48.setTop (mkF m 215 _ [(.int (1 : Int32))]))
          refine own_istore X48 hx hby at_215 (pc' := 217) rfl (l' := #[.val (.int p0), .val (.int p1), .val (.int p2), .val (.int p3), .val (.int p4), .val (.int p5), .val (.int o1), .val (.int f1), .val (.int l1), .val (.int o2), .val (.int f2), .val (.int l2), .val (.int (2 : Int32)), .val (.ref b34), .val (.ref b36), .val .null, .val (.int (1 : Int32)), .val (.int (0 : Int32)), .val (.int (0 : Int32)), .val (.int (1 : Int32)), .unset]) rfl ?_
          refine own_aload X48 hx hby at_217 (pc' := 219) rfl rfl rfl ?_
          refine own_aload X48 hx hby at_219 (pc' := 221) rfl rfl rfl ?_
          refine own_lk3 hw X48 hx hZ hby (by rw [hml]; rfl) hown at_221 (pc' := 224) rfl e48 O35.1 (W := 0) (Nat.le_of_eq rfl) (rm3s l Z a0 hw [] b34 o1 f1 l1 T37.heap n0 Zn O35) (by decide) (by decide) (by decide) (by decide) (fun v49 T49 L49 X49 hQ49 => ?_)
          obtain ⟨rfl, Nq49, e49⟩ := hQ49
          have N49 := Fr.app N48 Nq49
          show own_End p e below _ (T49.setTop (mkF m 224 _ [(.int (1 : Int32))]))
          refine own_istore X49 hx hby at_224 (pc' := 226) rfl (l' := #[.val (.int p0), .val (.int p1), .val (.int p2), .val (.int p3), .val (.int p4), .val (.int p5), .val (.int o1), .val (.int f1), .val (.int l1), .val (.int o2), .val (.int f2), .val (.int l2), .val (.int (2 : Int32)), .val (.ref b34), .val (.ref b36), .val .null, .val (.int (1 : Int32)), .val (.int (0 : Int32)), .val (.int (0 : Int32)), .val (.int (1 : Int32)), .val (.int (1 : Int32))]) rfl ?_
          refine own_iload X49 hx hby at_226 (pc' := 228) rfl rfl ?_
          refine own_iload X49 hx hby at_228 (pc' := 230) rfl rfl ?_
          refine own_icN X49 hx hby at_230 (pc' := 233) rfl (show (0 : Int32) = (0 : Int32) by decide) ?_
          refine own_iload X49 hx hby at_233 (pc' := 235) rfl rfl ?_
          refine own_iload X49 hx hby at_235 (pc' := 237) rfl rfl ?_
          refine own_icN X49 hx hby at_237 (pc' := 240) rfl (show (1 : Int32) = (1 : Int32) by decide) ?_
          refine own_iload X49 hx hby at_240 (pc' := 242) rfl rfl ?_
          refine own_ifN X49 hx hby at_242 (pc' := 245) rfl (show ¬ (1 : Int32) = (0 : Int32) by decide) ?_
          refine own_iconst X49 hx hby at_245 (pc' := 246) rfl (n := (1 : Int32)) (by decide) ?_
          refine own_goto X49 hx hby at_246 (pc' := 250) (by decide) (by decide) ?_
          refine own_zreturn X49 hx hlk hby hret (Or.inr rfl) at_250 (own_lv ?_ (by decide) (by decide))
          show Q0 Z p0 p1 p2 p3 p4 p5 ca cl  h0 n0 (some (.int (1 : Int32))) T49.heap _
          rw [e49]
          exact ⟨rfl, N49⟩
  · rw [hs1]
    show own_End p e below _ (T0.setTop (mkF m 90 #[.val (.int p0), .val (.int p1), .val (.int p2), .val (.int p3), .val (.int p4), .val (.int p5), .val (.int o1), .val (.int f1), .val (.int l1), .val (.int o2), .val (.int f2), .val (.int l2), .unset, .unset, .unset, .unset, .unset, .unset, .unset, .unset, .unset] [(.int (3 : Int32))]))
    refine own_istore X0 hx hby at_90 (pc' := 92) rfl (l' := #[.val (.int p0), .val (.int p1), .val (.int p2), .val (.int p3), .val (.int p4), .val (.int p5), .val (.int o1), .val (.int f1), .val (.int l1), .val (.int o2), .val (.int f2), .val (.int l2), .val (.int (3 : Int32)), .unset, .unset, .unset, .unset, .unset, .unset, .unset, .unset]) rfl ?_
    refine own_new X0 hx hZ hby hown (wd_2 hw) (wd_3 hw) (wd_4 hw) e1 at_92 (pc' := 95) rfl (by decide) (by decide) (fun T50 h50 b50 g50 X50 e50 E50 A50 D50 => ?_)
    have ne_ca_b50 : ca ≠ b50 := Nat.ne_of_lt (by rw [g50]; exact f_IC_ca.lt)
    have ge_b50 : n0 ≤ b50 := by rw [g50]; exact Z1
    have f_S_java_lang_Integer_IntegerCache_high := f_S_java_lang_Integer_IntegerCache_high.ext E50
    have f_S_java_lang_Integer_IntegerCache_cache := f_S_java_lang_Integer_IntegerCache_cache.ext E50
    have f_IC_ca := f_IC_ca.ext E50
    have Zn := Nat.le_trans Z1 E50.1
    have f_O_b50 : own_FH Z h50 b50 (0 : Int32) (0 : Int32) (0 : Int32) := ⟨A50, D50 (Or.inr (wd_13 hw)) (ty := .int) (by decide), D50 (Or.inr (wd_15 hw)) (ty := .int) (by decide), D50 (Or.inr (wd_17 hw)) (ty := .int) (by decide)⟩
    refine own_dup X50 hx hby at_95 (pc' := 96) rfl rfl ?_
    refine own_iload X50 hx hby at_96 (pc' := 98) rfl rfl ?_
    refine own_iload X50 hx hby at_98 (pc' := 100) rfl rfl ?_
    refine own_iload X50 hx hby at_100 (pc' := 102) rfl rfl ?_
    refine own_lk2 hw X50 hx hZ hby (by rw [hml]; rfl) hown at_102 (pc' := 105) rfl e50 (W := 1) (Nat.le_of_eq rfl) (rm1 l Z a0 hw [] b50 o1 f1 l1 h50 n0 Zn f_O_b50 ge_b50 ho1 hf1 hl1) (by decide) (by decide) (by decide) (by decide) (fun v51 T51 L51 X51 hQ51 => ?_)
    obtain ⟨rfl, Nq51, K51, O51⟩ := hQ51
    have N51 := Fr.app N0 Nq51
    have f_S_java_lang_Integer_IntegerCache_high := own_sta1 f_S_java_lang_Integer_IntegerCache_high K51 f_O_b50.1
    have f_S_java_lang_Integer_IntegerCache_cache := own_sta1 f_S_java_lang_Integer_IntegerCache_cache K51 f_O_b50.1
    have f_IC_ca := f_IC_ca.keep K51 (ninS ne_ca_b50 nin0)
    have Zn := Nat.le_trans Zn K51.1
    show own_End p e below _ (T51.setTop (mkF m 105 _ [(.ref b50)]))
    refine own_astore X51 hx hby at_105 (pc' := 107) rfl rfl (l' := #[.val (.int p0), .val (.int p1), .val (.int p2), .val (.int p3), .val (.int p4), .val (.int p5), .val (.int o1), .val (.int f1), .val (.int l1), .val (.int o2), .val (.int f2), .val (.int l2), .val (.int (3 : Int32)), .val (.ref b50), .unset, .unset, .unset, .unset, .unset, .unset, .unset]) rfl ?_
    refine own_new X51 hx hZ hby hown (wd_2 hw) (wd_3 hw) (wd_4 hw) rfl at_107 (pc' := 110) rfl (by decide) (by decide) (fun T52 h52 b52 g52 X52 e52 E52 A52 D52 => ?_)
    have ne_ca_b52 : ca ≠ b52 := Nat.ne_of_lt (by rw [g52]; exact f_IC_ca.lt)
    have ne_b50_b52 : b50 ≠ b52 := Nat.ne_of_lt (by rw [g52]; exact O51.lt)
    have ge_b52 : n0 ≤ b52 := by rw [g52]; exact Zn
    have f_S_java_lang_Integer_IntegerCache_high := f_S_java_lang_Integer_IntegerCache_high.ext E52
    have f_S_java_lang_Integer_IntegerCache_cache := f_S_java_lang_Integer_IntegerCache_cache.ext E52
    have f_IC_ca := f_IC_ca.ext E52
    have O51 := O51.ext E52
    have Zn := Nat.le_trans Zn E52.1
    have f_O_b52 : own_FH Z h52 b52 (0 : Int32) (0 : Int32) (0 : Int32) := ⟨A52, D52 (Or.inr (wd_13 hw)) (ty := .int) (by decide), D52 (Or.inr (wd_15 hw)) (ty := .int) (by decide), D52 (Or.inr (wd_17 hw)) (ty := .int) (by decide)⟩
    refine own_dup X52 hx hby at_110 (pc' := 111) rfl rfl ?_
    refine own_iload X52 hx hby at_111 (pc' := 113) rfl rfl ?_
    refine own_iload X52 hx hby at_113 (pc' := 115) rfl rfl ?_
    refine own_iload X52 hx hby at_115 (pc' := 117) rfl rfl ?_
    refine own_lk2 hw X52 hx hZ hby (by rw [hml]; rfl) hown at_117 (pc' := 120) rfl e52 (W := 1) (Nat.le_of_eq rfl) (rm1 l Z a0 hw [] b52 o2 f2 l2 h52 n0 Zn f_O_b52 ge_b52 ho2 hf2 hl2) (by decide) (by decide) (by decide) (by decide) (fun v53 T53 L53 X53 hQ53 => ?_)
    obtain ⟨rfl, Nq53, K53, O53⟩ := hQ53
    have N53 := Fr.app N51 Nq53
    have f_S_java_lang_Integer_IntegerCache_high := own_sta1 f_S_java_lang_Integer_IntegerCache_high K53 f_O_b52.1
    have f_S_java_lang_Integer_IntegerCache_cache := own_sta1 f_S_java_lang_Integer_IntegerCache_cache K53 f_O_b52.1
    have f_IC_ca := f_IC_ca.keep K53 (ninS ne_ca_b52 nin0)
    have O51 := O51.keep K53 (ninS ne_b50_b52 nin0)
    have Zn := Nat.le_trans Zn K53.1
    show own_End p e below _ (T53.setTop (mkF m 120 _ [(.ref b52)]))
    refine own_astore X53 hx hby at_120 (pc' := 122) rfl rfl (l' := #[.val (.int p0), .val (.int p1), .val (.int p2), .val (.int p3), .val (.int p4), .val (.int p5), .val (.int o1), .val (.int f1), .val (.int l1), .val (.int o2), .val (.int f2), .val (.int l2), .val (.int (3 : Int32)), .val (.ref b50), .val (.ref b52), .unset, .unset, .unset, .unset, .unset, .unset]) rfl ?_
    refine own_iload X53 hx hby at_122 (pc' := 124) rfl rfl ?_
    refine own_iconst X53 hx hby at_124 (pc' := 125) rfl (n := (2 : Int32)) (by decide) ?_
    refine own_icY X53 hx hby at_125 (pc' := 134) (by decide) (by decide) (show ¬ (3 : Int32) = (2 : Int32) by decide) ?_
    refine own_iload X53 hx hby at_134 (pc' := 136) rfl rfl ?_
    refine own_iconst X53 hx hby at_136 (pc' := 137) rfl (n := (3 : Int32)) (by decide) ?_
    refine own_icN X53 hx hby at_137 (pc' := 140) rfl (show (3 : Int32) = (3 : Int32) by decide) ?_
    refine own_iloadN X53 hx hby at_140 (pc' := 141) rfl rfl ?_
    refine own_lk4 hw X53 hx hZ hby (by rw [hml]; rfl) hown at_141 (pc' := 144) rfl rfl (W := 0) (Nat.le_of_eq rfl) (rm4 l Z a0 hw [] p0 ca cl T53.heap n0 Zn f_S_java_lang_Integer_IntegerCache_high f_S_java_lang_Integer_IntegerCache_cache f_IC_ca) (by decide) (by decide) (by decide) (by decide) (fun v55 T55 L55 X55 hQ55 => ?_)
    obtain ⟨oi54, rfl, Nq55, K55, E55⟩ := hQ55
    have N55 := Fr.app N53 Nq55
    have f_S_java_lang_Integer_IntegerCache_high := own_sta0 f_S_java_lang_Integer_IntegerCache_high K55
    have f_S_java_lang_Integer_IntegerCache_cache := own_sta0 f_S_java_lang_Integer_IntegerCache_cache K55
    have f_IC_ca := f_IC_ca.keep K55 nin0
    have O51 := O51.keep K55 nin0
    have O53 := O53.keep K55 nin0
    have Zn := Nat.le_trans Zn K55.1
    show own_End p e below _ (T55.setTop (mkF m 144 _ [(.ref oi54)]))
    refine own_astore X55 hx hby at_144 (pc' := 146) rfl rfl (l' := #[.val (.int p0), .val (.int p1), .val (.int p2), .val (.int p3), .val (.int p4), .val (.int p5), .val (.int o1), .val (.int f1), .val (.int l1), .val (.int o2), .val (.int f2), .val (.int l2), .val (.int (3 : Int32)), .val (.ref b50), .val (.ref b52), .val (.ref oi54), .unset, .unset, .unset, .unset, .unset]) rfl ?_
    refine own_goto X55 hx hby at_146 (pc' := 153) (by decide) (by decide) ?_
    refine own_iload X55 hx hby at_153 (pc' := 155) rfl rfl ?_
    refine own_iload X55 hx hby at_155 (pc' := 157) rfl rfl ?_
    refine own_ic2 X55 hx hby at_157 (pc1 := 178) (by decide) (by decide) (pc2 := 160) rfl (fun (hc157 : ¬ o1 = o2) => ?_) (fun (hc157 : o1 = o2) => ?_)
    · refine own_iconst X55 hx hby at_178 (pc' := 179) rfl (n := (0 : Int32)) (by decide) ?_
      refine own_istore X55 hx hby at_179 (pc' := 181) rfl (l' := #[.val (.int p0), .val (.int p1), .val (.int p2), .val (.int p3), .val (.int p4), .val (.int p5), .val (.int o1), .val (.int f1), .val (.int l1), .val (.int o2), .val (.int f2), .val (.int l2), .val (.int (3 : Int32)), .val (.ref b50), .val (.ref b52), .val (.ref oi54), .val (.int (0 : Int32)), .unset, .unset, .unset, .unset]) rfl ?_
      refine own_iload X55 hx hby at_181 (pc' := 183) rfl rfl ?_
      refine own_iconst X55 hx hby at_183 (pc' := 184) rfl (n := (2 : Int32)) (by decide) ?_
      refine own_icY X55 hx hby at_184 (pc' := 196) (by decide) (by decide) (show ¬ (3 : Int32) < (2 : Int32) by decide) ?_
      refine own_iconst X55 hx hby at_196 (pc' := 197) rfl (n := (0 : Int32)) (by decide) ?_
      refine own_istore X55 hx hby at_197 (pc' := 199) rfl (l' := #[.val (.int p0), .val (.int p1), .val (.int p2), .val (.int p3), .val (.int p4), .val (.int p5), .val (.int o1), .val (.int f1), .val (.int l1), .val (.int o2), .val (.int f2), .val (.int l2), .val (.int (3 : Int32)), .val (.ref b50), .val (.ref b52), .val (.ref oi54), .val (.int (0 : Int32)), .val (.int (0 : Int32)), .unset, .unset, .unset]) rfl ?_
      refine own_aload X55 hx hby at_199 (pc' := 201) rfl rfl rfl ?_
      refine own_aload X55 hx hby at_201 (pc' := 203) rfl rfl rfl ?_
      refine own_lk3 hw X55 hx hZ hby (by rw [hml]; rfl) hown at_203 (pc' := 206) rfl rfl O51.1 (W := 0) (Nat.le_of_eq rfl) (rm3i l Z a0 hw [] b50 oi54 T55.heap n0 Zn E55) (by decide) (by decide) (by decide) (by decide) (fun v56 T56 L56 X56 hQ56 => ?_)
      obtain ⟨rfl, Nq56, e56⟩ := hQ56
      have N56 := Fr.app N55 Nq56
      show own_End p e below _ (T56.setTop (mkF m 206 _ [(.int (0 : Int32))]))
      refine own_istore X56 hx hby at_206 (pc' := 208) rfl (l' := #[.val (.int p0), .val (.int p1), .val (.int p2), .val (.int p3), .val (.int p4), .val (.int p5), .val (.int o1), .val (.int f1), .val (.int l1), .val (.int o2), .val (.int f2), .val (.int l2), .val (.int (3 : Int32)), .val (.ref b50), .val (.ref b52), .val (.ref oi54), .val (.int (0 : Int32)), .val (.int (0 : Int32)), .val (.int (0 : Int32)), .unset, .unset]) rfl ?_
      refine own_aload X56 hx hby at_208 (pc' := 210) rfl rfl rfl ?_
      refine own_aload X56 hx hby at_210 (pc' := 212) rfl rfl rfl ?_
      refine own_lk3 hw X56 hx hZ hby (by rw [hml]; rfl) hown at_212 (pc' := 215) rfl e56 O53.1 (W := 0) (Nat.le_of_eq rfl) (rm3o l Z a0 hw [] b52 b50 o2 f2 l2 o1 f1 l1 (0 : Int32) T55.heap n0 Zn O53 O51 (by simp [own_e3, (Ne.symm hc157), (Ne.symm hc157)])) (by decide) (by decide) (by decide) (by decide) (fun v57 T57 L57 X57 hQ57 => ?_)
      obtain ⟨rfl, Nq57, e57⟩ := hQ57
      have N57 := Fr.app N56 Nq57
      show own_End p e below _ (T57.setTop (mkF m 215 _ [(.int (0 : Int32))]))
      refine own_istore X57 hx hby at_215 (pc' := 217) rfl (l' := #[.val (.int p0), .val (.int p1), .val (.int p2), .val (.int p3), .val (.int p4), .val (.int p5), .val (.int o1), .val (.int f1), .val (.int l1), .val (.int o2), .val (.int f2), .val (.int l2), .val (.int (3 : Int32)), .val (.ref b50), .val (.ref b52), .val (.ref oi54), .val (.int (0 : Int32)), .val (.int (0 : Int32)), .val (.int (0 : Int32)), .val (.int (0 : Int32)), .unset]) rfl ?_
      refine own_aload X57 hx hby at_217 (pc' := 219) rfl rfl rfl ?_
      refine own_aload X57 hx hby at_219 (pc' := 221) rfl rfl rfl ?_
      refine own_lk3 hw X57 hx hZ hby (by rw [hml]; rfl) hown at_221 (pc' := 224) rfl e57 O51.1 (W := 0) (Nat.le_of_eq rfl) (rm3s l Z a0 hw [] b50 o1 f1 l1 T55.heap n0 Zn O51) (by decide) (by decide) (by decide) (by decide) (fun v58 T58 L58 X58 hQ58 => ?_)
      obtain ⟨rfl, Nq58, e58⟩ := hQ58
      have N58 := Fr.app N57 Nq58
      show own_End p e below _ (T58.setTop (mkF m 224 _ [(.int (1 : Int32))]))
      refine own_istore X58 hx hby at_224 (pc' := 226) rfl (l' := #[.val (.int p0), .val (.int p1), .val (.int p2), .val (.int p3), .val (.int p4), .val (.int p5), .val (.int o1), .val (.int f1), .val (.int l1), .val (.int o2), .val (.int f2), .val (.int l2), .val (.int (3 : Int32)), .val (.ref b50), .val (.ref b52), .val (.ref oi54), .val (.int (0 : Int32)), .val (.int (0 : Int32)), .val (.int (0 : Int32)), .val (.int (0 : Int32)), .val (.int (1 : Int32))]) rfl ?_
      refine own_iload X58 hx hby at_226 (pc' := 228) rfl rfl ?_
      refine own_iload X58 hx hby at_228 (pc' := 230) rfl rfl ?_
      refine own_icN X58 hx hby at_230 (pc' := 233) rfl (show (0 : Int32) = (0 : Int32) by decide) ?_
      refine own_iload X58 hx hby at_233 (pc' := 235) rfl rfl ?_
      refine own_iload X58 hx hby at_235 (pc' := 237) rfl rfl ?_
      refine own_icN X58 hx hby at_237 (pc' := 240) rfl (show (0 : Int32) = (0 : Int32) by decide) ?_
      refine own_iload X58 hx hby at_240 (pc' := 242) rfl rfl ?_
      refine own_ifN X58 hx hby at_242 (pc' := 245) rfl (show ¬ (1 : Int32) = (0 : Int32) by decide) ?_
      refine own_iconst X58 hx hby at_245 (pc' := 246) rfl (n := (1 : Int32)) (by decide) ?_
      refine own_goto X58 hx hby at_246 (pc' := 250) (by decide) (by decide) ?_
      refine own_zreturn X58 hx hlk hby hret (Or.inr rfl) at_250 (own_lv ?_ (by decide) (by decide))
      show Q0 Z p0 p1 p2 p3 p4 p5 ca cl  h0 n0 (some (.int (1 : Int32))) T58.heap _
      rw [e58]
      exact ⟨rfl, N58⟩
    · refine own_iload X55 hx hby at_160 (pc' := 162) rfl rfl ?_
      refine own_iload X55 hx hby at_162 (pc' := 164) rfl rfl ?_
      refine own_ic2 X55 hx hby at_164 (pc1 := 178) (by decide) (by decide) (pc2 := 167) rfl (fun (hc164 : ¬ f1 = f2) => ?_) (fun (hc164 : f1 = f2) => ?_)
      · refine own_iconst X55 hx hby at_178 (pc' := 179) rfl (n := (0 : Int32)) (by decide) ?_
        refine own_istore X55 hx hby at_179 (pc' := 181) rfl (l' := #[.val (.int p0), .val (.int p1), .val (.int p2), .val (.int p3), .val (.int p4), .val (.int p5), .val (.int o1), .val (.int f1), .val (.int l1), .val (.int o2), .val (.int f2), .val (.int l2), .val (.int (3 : Int32)), .val (.ref b50), .val (.ref b52), .val (.ref oi54), .val (.int (0 : Int32)), .unset, .unset, .unset, .unset]) rfl ?_
        refine own_iload X55 hx hby at_181 (pc' := 183) rfl rfl ?_
        refine own_iconst X55 hx hby at_183 (pc' := 184) rfl (n := (2 : Int32)) (by decide) ?_
        refine own_icY X55 hx hby at_184 (pc' := 196) (by decide) (by decide) (show ¬ (3 : Int32) < (2 : Int32) by decide) ?_
        refine own_iconst X55 hx hby at_196 (pc' := 197) rfl (n := (0 : Int32)) (by decide) ?_
        refine own_istore X55 hx hby at_197 (pc' := 199) rfl (l' := #[.val (.int p0), .val (.int p1), .val (.int p2), .val (.int p3), .val (.int p4), .val (.int p5), .val (.int o1), .val (.int f1), .val (.int l1), .val (.int o2), .val (.int f2), .val (.int l2), .val (.int (3 : Int32)), .val (.ref b50), .val (.ref b52), .val (.ref oi54), .val (.int (0 : Int32)), .val (.int (0 : Int32)), .unset, .unset, .unset]) rfl ?_
        refine own_aload X55 hx hby at_199 (pc' := 201) rfl rfl rfl ?_
        refine own_aload X55 hx hby at_201 (pc' := 203) rfl rfl rfl ?_
        refine own_lk3 hw X55 hx hZ hby (by rw [hml]; rfl) hown at_203 (pc' := 206) rfl rfl O51.1 (W := 0) (Nat.le_of_eq rfl) (rm3i l Z a0 hw [] b50 oi54 T55.heap n0 Zn E55) (by decide) (by decide) (by decide) (by decide) (fun v59 T59 L59 X59 hQ59 => ?_)
        obtain ⟨rfl, Nq59, e59⟩ := hQ59
        have N59 := Fr.app N55 Nq59
        show own_End p e below _ (T59.setTop (mkF m 206 _ [(.int (0 : Int32))]))
        refine own_istore X59 hx hby at_206 (pc' := 208) rfl (l' := #[.val (.int p0), .val (.int p1), .val (.int p2), .val (.int p3), .val (.int p4), .val (.int p5), .val (.int o1), .val (.int f1), .val (.int l1), .val (.int o2), .val (.int f2), .val (.int l2), .val (.int (3 : Int32)), .val (.ref b50), .val (.ref b52), .val (.ref oi54), .val (.int (0 : Int32)), .val (.int (0 : Int32)), .val (.int (0 : Int32)), .unset, .unset]) rfl ?_
        refine own_aload X59 hx hby at_208 (pc' := 210) rfl rfl rfl ?_
        refine own_aload X59 hx hby at_210 (pc' := 212) rfl rfl rfl ?_
        refine own_lk3 hw X59 hx hZ hby (by rw [hml]; rfl) hown at_212 (pc' := 215) rfl e59 O53.1 (W := 0) (Nat.le_of_eq rfl) (rm3o l Z a0 hw [] b52 b50 o2 f2 l2 o1 f1 l1 (0 : Int32) T55.heap n0 Zn O53 O51 (by simp [own_e3, hc157, (Ne.symm hc164), (Ne.symm hc164)])) (by decide) (by decide) (by decide) (by decide) (fun v60 T60 L60 X60 hQ60 => ?_)
        obtain ⟨rfl, Nq60, e60⟩ := hQ60
        have N60 := Fr.app N59 Nq60
        show own_End p e below _ (T60.setTop (mkF m 215 _ [(.int (0 : Int32))]))
        refine own_istore X60 hx hby at_215 (pc' := 217) rfl (l' := #[.val (.int p0), .val (.int p1), .val (.int p2), .val (.int p3), .val (.int p4), .val (.int p5), .val (.int o1), .val (.int f1), .val (.int l1), .val (.int o2), .val (.int f2), .val (.int l2), .val (.int (3 : Int32)), .val (.ref b50), .val (.ref b52), .val (.ref oi54), .val (.int (0 : Int32)), .val (.int (0 : Int32)), .val (.int (0 : Int32)), .val (.int (0 : Int32)), .unset]) rfl ?_
        refine own_aload X60 hx hby at_217 (pc' := 219) rfl rfl rfl ?_
        refine own_aload X60 hx hby at_219 (pc' := 221) rfl rfl rfl ?_
        refine own_lk3 hw X60 hx hZ hby (by rw [hml]; rfl) hown at_221 (pc' := 224) rfl e60 O51.1 (W := 0) (Nat.le_of_eq rfl) (rm3s l Z a0 hw [] b50 o1 f1 l1 T55.heap n0 Zn O51) (by decide) (by decide) (by decide) (by decide) (fun v61 T61 L61 X61 hQ61 => ?_)
        obtain ⟨rfl, Nq61, e61⟩ := hQ61
        have N61 := Fr.app N60 Nq61
        show own_End p e below _ (T61.setTop (mkF m 224 _ [(.int (1 : Int32))]))
        refine own_istore X61 hx hby at_224 (pc' := 226) rfl (l' := #[.val (.int p0), .val (.int p1), .val (.int p2), .val (.int p3), .val (.int p4), .val (.int p5), .val (.int o1), .val (.int f1), .val (.int l1), .val (.int o2), .val (.int f2), .val (.int l2), .val (.int (3 : Int32)), .val (.ref b50), .val (.ref b52), .val (.ref oi54), .val (.int (0 : Int32)), .val (.int (0 : Int32)), .val (.int (0 : Int32)), .val (.int (0 : Int32)), .val (.int (1 : Int32))]) rfl ?_
        refine own_iload X61 hx hby at_226 (pc' := 228) rfl rfl ?_
        refine own_iload X61 hx hby at_228 (pc' := 230) rfl rfl ?_
        refine own_icN X61 hx hby at_230 (pc' := 233) rfl (show (0 : Int32) = (0 : Int32) by decide) ?_
        refine own_iload X61 hx hby at_233 (pc' := 235) rfl rfl ?_
        refine own_iload X61 hx hby at_235 (pc' := 237) rfl rfl ?_
        refine own_icN X61 hx hby at_237 (pc' := 240) rfl (show (0 : Int32) = (0 : Int32) by decide) ?_
        refine own_iload X61 hx hby at_240 (pc' := 242) rfl rfl ?_
        refine own_ifN X61 hx hby at_242 (pc' := 245) rfl (show ¬ (1 : Int32) = (0 : Int32) by decide) ?_
        refine own_iconst X61 hx hby at_245 (pc' := 246) rfl (n := (1 : Int32)) (by decide) ?_
        refine own_goto X61 hx hby at_246 (pc' := 250) (by decide) (by decide) ?_
        refine own_zreturn X61 hx hlk hby hret (Or.inr rfl) at_250 (own_lv ?_ (by decide) (by decide))
        show Q0 Z p0 p1 p2 p3 p4 p5 ca cl  h0 n0 (some (.int (1 : Int32))) T61.heap _
        rw [e61]
        exact ⟨rfl, N61⟩
      · refine own_iload X55 hx hby at_167 (pc' := 169) rfl rfl ?_
        refine own_iload X55 hx hby at_169 (pc' := 171) rfl rfl ?_
        refine own_ic2 X55 hx hby at_171 (pc1 := 178) (by decide) (by decide) (pc2 := 174) rfl (fun (hc171 : ¬ l1 = l2) => ?_) (fun (hc171 : l1 = l2) => ?_)
        · refine own_iconst X55 hx hby at_178 (pc' := 179) rfl (n := (0 : Int32)) (by decide) ?_
          refine own_istore X55 hx hby at_179 (pc' := 181) rfl (l' := #[.val (.int p0), .val (.int p1), .val (.int p2), .val (.int p3), .val (.int p4), .val (.int p5), .val (.int o1), .val (.int f1), .val (.int l1), .val (.int o2), .val (.int f2), .val (.int l2), .val (.int (3 : Int32)), .val (.ref b50), .val (.ref b52), .val (.ref oi54), .val (.int (0 : Int32)), .unset, .unset, .unset, .unset]) rfl ?_
          refine own_iload X55 hx hby at_181 (pc' := 183) rfl rfl ?_
          refine own_iconst X55 hx hby at_183 (pc' := 184) rfl (n := (2 : Int32)) (by decide) ?_
          refine own_icY X55 hx hby at_184 (pc' := 196) (by decide) (by decide) (show ¬ (3 : Int32) < (2 : Int32) by decide) ?_
          refine own_iconst X55 hx hby at_196 (pc' := 197) rfl (n := (0 : Int32)) (by decide) ?_
          refine own_istore X55 hx hby at_197 (pc' := 199) rfl (l' := #[.val (.int p0), .val (.int p1), .val (.int p2), .val (.int p3), .val (.int p4), .val (.int p5), .val (.int o1), .val (.int f1), .val (.int l1), .val (.int o2), .val (.int f2), .val (.int l2), .val (.int (3 : Int32)), .val (.ref b50), .val (.ref b52), .val (.ref oi54), .val (.int (0 : Int32)), .val (.int (0 : Int32)), .unset, .unset, .unset]) rfl ?_
          refine own_aload X55 hx hby at_199 (pc' := 201) rfl rfl rfl ?_
          refine own_aload X55 hx hby at_201 (pc' := 203) rfl rfl rfl ?_
          refine own_lk3 hw X55 hx hZ hby (by rw [hml]; rfl) hown at_203 (pc' := 206) rfl rfl O51.1 (W := 0) (Nat.le_of_eq rfl) (rm3i l Z a0 hw [] b50 oi54 T55.heap n0 Zn E55) (by decide) (by decide) (by decide) (by decide) (fun v62 T62 L62 X62 hQ62 => ?_)
          obtain ⟨rfl, Nq62, e62⟩ := hQ62
          have N62 := Fr.app N55 Nq62
          show own_End p e below _ (T62.setTop (mkF m 206 _ [(.int (0 : Int32))]))
          refine own_istore X62 hx hby at_206 (pc' := 208) rfl (l' := #[.val (.int p0), .val (.int p1), .val (.int p2), .val (.int p3), .val (.int p4), .val (.int p5), .val (.int o1), .val (.int f1), .val (.int l1), .val (.int o2), .val (.int f2), .val (.int l2), .val (.int (3 : Int32)), .val (.ref b50), .val (.ref b52), .val (.ref oi54), .val (.int (0 : Int32)), .val (.int (0 : Int32)), .val (.int (0 : Int32)), .unset, .unset]) rfl ?_
          refine own_aload X62 hx hby at_208 (pc' := 210) rfl rfl rfl ?_
          refine own_aload X62 hx hby at_210 (pc' := 212) rfl rfl rfl ?_
          refine own_lk3 hw X62 hx hZ hby (by rw [hml]; rfl) hown at_212 (pc' := 215) rfl e62 O53.1 (W := 0) (Nat.le_of_eq rfl) (rm3o l Z a0 hw [] b52 b50 o2 f2 l2 o1 f1 l1 (0 : Int32) T55.heap n0 Zn O53 O51 (by simp [own_e3, hc157, hc164, (Ne.symm hc171), (Ne.symm hc171)])) (by decide) (by decide) (by decide) (by decide) (fun v63 T63 L63 X63 hQ63 => ?_)
          obtain ⟨rfl, Nq63, e63⟩ := hQ63
          have N63 := Fr.app N62 Nq63
          show own_End p e below _ (T63.setTop (mkF m 215 _ [(.int (0 : Int32))]))
          refine own_istore X63 hx hby at_215 (pc' := 217) rfl (l' := #[.val (.int p0), .val (.int p1), .val (.int p2), .val (.int p3), .val (.int p4), .val (.int p5), .val (.int o1), .val (.int f1), .val (.int l1), .val (.int o2), .val (.int f2), .val (.int l2), .val (.int (3 : Int32)), .val (.ref b50), .val (.ref b52), .val (.ref oi54), .val (.int (0 : Int32)), .val (.int (0 : Int32)), .val (.int (0 : Int32)), .val (.int (0 : Int32)), .unset]) rfl ?_
          refine own_aload X63 hx hby at_217 (pc' := 219) rfl rfl rfl ?_
          refine own_aload X63 hx hby at_219 (pc' := 221) rfl rfl rfl ?_
          refine own_lk3 hw X63 hx hZ hby (by rw [hml]; rfl) hown at_221 (pc' := 224) rfl e63 O51.1 (W := 0) (Nat.le_of_eq rfl) (rm3s l Z a0 hw [] b50 o1 f1 l1 T55.heap n0 Zn O51) (by decide) (by decide) (by decide) (by decide) (fun v64 T64 L64 X64 hQ64 => ?_)
          obtain ⟨rfl, Nq64, e64⟩ := hQ64
          have N64 := Fr.app N63 Nq64
          show own_End p e below _ (T64.setTop (mkF m 224 _ [(.int (1 : Int32))]))
          refine own_istore X64 hx hby at_224 (pc' := 226) rfl (l' := #[.val (.int p0), .val (.int p1), .val (.int p2), .val (.int p3), .val (.int p4), .val (.int p5), .val (.int o1), .val (.int f1), .val (.int l1), .val (.int o2), .val (.int f2), .val (.int l2), .val (.int (3 : Int32)), .val (.ref b50), .val (.ref b52), .val (.ref oi54), .val (.int (0 : Int32)), .val (.int (0 : Int32)), .val (.int (0 : Int32)), .val (.int (0 : Int32)), .val (.int (1 : Int32))]) rfl ?_
          refine own_iload X64 hx hby at_226 (pc' := 228) rfl rfl ?_
          refine own_iload X64 hx hby at_228 (pc' := 230) rfl rfl ?_
          refine own_icN X64 hx hby at_230 (pc' := 233) rfl (show (0 : Int32) = (0 : Int32) by decide) ?_
          refine own_iload X64 hx hby at_233 (pc' := 235) rfl rfl ?_
          refine own_iload X64 hx hby at_235 (pc' := 237) rfl rfl ?_
          refine own_icN X64 hx hby at_237 (pc' := 240) rfl (show (0 : Int32) = (0 : Int32) by decide) ?_
          refine own_iload X64 hx hby at_240 (pc' := 242) rfl rfl ?_
          refine own_ifN X64 hx hby at_242 (pc' := 245) rfl (show ¬ (1 : Int32) = (0 : Int32) by decide) ?_
          refine own_iconst X64 hx hby at_245 (pc' := 246) rfl (n := (1 : Int32)) (by decide) ?_
          refine own_goto X64 hx hby at_246 (pc' := 250) (by decide) (by decide) ?_
          refine own_zreturn X64 hx hlk hby hret (Or.inr rfl) at_250 (own_lv ?_ (by decide) (by decide))
          show Q0 Z p0 p1 p2 p3 p4 p5 ca cl  h0 n0 (some (.int (1 : Int32))) T64.heap _
          rw [e64]
          exact ⟨rfl, N64⟩
        · refine own_iconst X55 hx hby at_174 (pc' := 175) rfl (n := (1 : Int32)) (by decide) ?_
          refine own_goto X55 hx hby at_175 (pc' := 179) (by decide) (by decide) ?_
          refine own_istore X55 hx hby at_179 (pc' := 181) rfl (l' := #[.val (.int p0), .val (.int p1), .val (.int p2), .val (.int p3), .val (.int p4), .val (.int p5), .val (.int o1), .val (.int f1), .val (.int l1), .val (.int o2), .val (.int f2), .val (.int l2), .val (.int (3 : Int32)), .val (.ref b50), .val (.ref b52), .val (.ref oi54), .val (.int (1 : Int32)), .unset, .unset, .unset, .unset]) rfl ?_
          refine own_iload X55 hx hby at_181 (pc' := 183) rfl rfl ?_
          refine own_iconst X55 hx hby at_183 (pc' := 184) rfl (n := (2 : Int32)) (by decide) ?_
          refine own_icY X55 hx hby at_184 (pc' := 196) (by decide) (by decide) (show ¬ (3 : Int32) < (2 : Int32) by decide) ?_
          refine own_iconst X55 hx hby at_196 (pc' := 197) rfl (n := (0 : Int32)) (by decide) ?_
          refine own_istore X55 hx hby at_197 (pc' := 199) rfl (l' := #[.val (.int p0), .val (.int p1), .val (.int p2), .val (.int p3), .val (.int p4), .val (.int p5), .val (.int o1), .val (.int f1), .val (.int l1), .val (.int o2), .val (.int f2), .val (.int l2), .val (.int (3 : Int32)), .val (.ref b50), .val (.ref b52), .val (.ref oi54), .val (.int (1 : Int32)), .val (.int (0 : Int32)), .unset, .unset, .unset]) rfl ?_
          refine own_aload X55 hx hby at_199 (pc' := 201) rfl rfl rfl ?_
          refine own_aload X55 hx hby at_201 (pc' := 203) rfl rfl rfl ?_
          refine own_lk3 hw X55 hx hZ hby (by rw [hml]; rfl) hown at_203 (pc' := 206) rfl rfl O51.1 (W := 0) (Nat.le_of_eq rfl) (rm3i l Z a0 hw [] b50 oi54 T55.heap n0 Zn E55) (by decide) (by decide) (by decide) (by decide) (fun v65 T65 L65 X65 hQ65 => ?_)
          obtain ⟨rfl, Nq65, e65⟩ := hQ65
          have N65 := Fr.app N55 Nq65
          show own_End p e below _ (T65.setTop (mkF m 206 _ [(.int (0 : Int32))]))
          refine own_istore X65 hx hby at_206 (pc' := 208) rfl (l' := #[.val (.int p0), .val (.int p1), .val (.int p2), .val (.int p3), .val (.int p4), .val (.int p5), .val (.int o1), .val (.int f1), .val (.int l1), .val (.int o2), .val (.int f2), .val (.int l2), .val (.int (3 : Int32)), .val (.ref b50), .val (.ref b52), .val (.ref oi54), .val (.int (1 : Int32)), .val (.int (0 : Int32)), .val (.int (0 : Int32)), .unset, .unset]) rfl ?_
          refine own_aload X65 hx hby at_208 (pc' := 210) rfl rfl rfl ?_
          refine own_aload X65 hx hby at_210 (pc' := 212) rfl rfl rfl ?_
          refine own_lk3 hw X65 hx hZ hby (by rw [hml]; rfl) hown at_212 (pc' := 215) rfl e65 O53.1 (W := 0) (Nat.le_of_eq rfl) (rm3o l Z a0 hw [] b52 b50 o2 f2 l2 o1 f1 l1 (1 : Int32) T55.heap n0 Zn O53 O51 (by simp [own_e3, hc157, hc164, hc171])) (by decide) (by decide) (by decide) (by decide) (fun v66 T66 L66 X66 hQ66 => ?_)
          obtain ⟨rfl, Nq66, e66⟩ := hQ66
          have N66 := Fr.app N65 Nq66
          show own_End p e below _ (T66.setTop (mkF m 215 _ [(.int (1 : Int32))]))
          refine own_istore X66 hx hby at_215 (pc' := 217) rfl (l' := #[.val (.int p0), .val (.int p1), .val (.int p2), .val (.int p3), .val (.int p4), .val (.int p5), .val (.int o1), .val (.int f1), .val (.int l1), .val (.int o2), .val (.int f2), .val (.int l2), .val (.int (3 : Int32)), .val (.ref b50), .val (.ref b52), .val (.ref oi54), .val (.int (1 : Int32)), .val (.int (0 : Int32)), .val (.int (0 : Int32)), .val (.int (1 : Int32)), .unset]) rfl ?_
          refine own_aload X66 hx hby at_217 (pc' := 219) rfl rfl rfl ?_
          refine own_aload X66 hx hby at_219 (pc' := 221) rfl rfl rfl ?_
          refine own_lk3 hw X66 hx hZ hby (by rw [hml]; rfl) hown at_221 (pc' := 224) rfl e66 O51.1 (W := 0) (Nat.le_of_eq rfl) (rm3s l Z a0 hw [] b50 o1 f1 l1 T55.heap n0 Zn O51) (by decide) (by decide) (by decide) (by decide) (fun v67 T67 L67 X67 hQ67 => ?_)
          obtain ⟨rfl, Nq67, e67⟩ := hQ67
          have N67 := Fr.app N66 Nq67
          show own_End p e below _ (T67.setTop (mkF m 224 _ [(.int (1 : Int32))]))
          refine own_istore X67 hx hby at_224 (pc' := 226) rfl (l' := #[.val (.int p0), .val (.int p1), .val (.int p2), .val (.int p3), .val (.int p4), .val (.int p5), .val (.int o1), .val (.int f1), .val (.int l1), .val (.int o2), .val (.int f2), .val (.int l2), .val (.int (3 : Int32)), .val (.ref b50), .val (.ref b52), .val (.ref oi54), .val (.int (1 : Int32)), .val (.int (0 : Int32)), .val (.int (0 : Int32)), .val (.int (1 : Int32)), .val (.int (1 : Int32))]) rfl ?_
          refine own_iload X67 hx hby at_226 (pc' := 228) rfl rfl ?_
          refine own_iload X67 hx hby at_228 (pc' := 230) rfl rfl ?_
          refine own_icN X67 hx hby at_230 (pc' := 233) rfl (show (0 : Int32) = (0 : Int32) by decide) ?_
          refine own_iload X67 hx hby at_233 (pc' := 235) rfl rfl ?_
          refine own_iload X67 hx hby at_235 (pc' := 237) rfl rfl ?_
          refine own_icN X67 hx hby at_237 (pc' := 240) rfl (show (1 : Int32) = (1 : Int32) by decide) ?_
          refine own_iload X67 hx hby at_240 (pc' := 242) rfl rfl ?_
          refine own_ifN X67 hx hby at_242 (pc' := 245) rfl (show ¬ (1 : Int32) = (0 : Int32) by decide) ?_
          refine own_iconst X67 hx hby at_245 (pc' := 246) rfl (n := (1 : Int32)) (by decide) ?_
          refine own_goto X67 hx hby at_246 (pc' := 250) (by decide) (by decide) ?_
          refine own_zreturn X67 hx hlk hby hret (Or.inr rfl) at_250 (own_lv ?_ (by decide) (by decide))
          show Q0 Z p0 p1 p2 p3 p4 p5 ca cl  h0 n0 (some (.int (1 : Int32))) T67.heap _
          rw [e67]
          exact ⟨rfl, N67⟩
set_option maxRecDepth 65536 in
set_option maxHeartbeats 40000000 in
theorem own_s62 {p : Program} {l : Launch} {e : Env} {s : State} {m : MethodId} {below : List Frame} {meth : Method} {c : Code} {T0 : State} {locs : List Loc} (Z : State) (a0 : Array Value) (hw : ∀ d ∈ tables_1, d.before a0 Z = true) (p0 : Int32) (p1 : Int32) (p2 : Int32) (p3 : Int32) (p4 : Int32) (p5 : Int32) (ca : Addr) (cl : Cell) (o1 : Int32) (f1 : Int32) (l1 : Int32) (o2 : Int32) (f2 : Int32) (h0 : Heap) (n0 : Nat) (h1 : Heap)
    (X0 : Stand p l e room_1 s m #[(.int p0), (.int p1), (.int p2), (.int p3), (.int p4), (.int p5)] below meth c T0 locs 0 0) (hx : p.tables.exec = Jvm.exec) (hby : c.code = code) (hlk : meth.locks = false) (hml : c.maxLocals = 21) (hown : s.vm.findClass "com/example/inflight/inflight/protocol/FrameHeaderEqualsPinLaw" = some m.cls) (hret : meth.sig.returnType = some .boolean) (hZ : Z.Warmed39 s.vm) (e1 : T0.heap = h1) (N0 : Fr n0 locs) (Z1 : n0 ≤ h1.size) (f_S_java_lang_Integer_IntegerCache_high : Sta Z h1 "java/lang/Integer$IntegerCache" "high" "I" (.int (127 : Int32))) (f_S_java_lang_Integer_IntegerCache_cache : Sta Z h1 "java/lang/Integer$IntegerCache" "cache" "[Ljava/lang/Integer;" (.ref ca)) (f_IC_ca : own_IC Z h1 ca cl) (ho1 : 0 ≤ o1.toInt ∧ o1.toInt ≤ 255) (hf1 : 0 ≤ f1.toInt ∧ f1.toInt ≤ 255) (hl1 : 0 ≤ l1.toInt ∧ l1.toInt ≤ 33554432) (ho2 : 0 ≤ o2.toInt ∧ o2.toInt ≤ 255) (hf2 : 0 ≤ f2.toInt ∧ f2.toInt ≤ 255) :
    own_End p e below (own_F s (Q0 Z p0 p1 p2 p3 p4 p5 ca cl h0 n0) room_1.cells room_1.slots) (T0.setTop (mkF m 62 #[.val (.int p0), .val (.int p1), .val (.int p2), .val (.int p3), .val (.int p4), .val (.int p5), .val (.int o1), .val (.int f1), .val (.int l1), .val (.int o2), .val (.int f2), .unset, .unset, .unset, .unset, .unset, .unset, .unset, .unset, .unset, .unset] [])) := by
  refine own_iload X0 hx hby at_62 (pc' := 64) rfl rfl ?_
  refine own_iconst X0 hx hby at_64 (pc' := 65) rfl (n := (4 : Int32)) (by decide) ?_
  refine own_iand X0 hx hby at_65 (pc' := 66) rfl ?_
  refine own_if2 X0 hx hby at_66 (pc1 := 74) (by decide) (by decide) (pc2 := 69) rfl (fun (hc66 : (p5 &&& (4 : Int32)) = (0 : Int32)) => ?_) (fun (hc66 : ¬ (p5 &&& (4 : Int32)) = (0 : Int32)) => ?_)
  · refine own_iload X0 hx hby at_74 (pc' := 76) rfl rfl ?_
    refine own_iconst X0 hx hby at_76 (pc' := 77) rfl (n := (3 : Int32)) (by decide) ?_
    refine own_iushr X0 hx hby at_77 (pc' := 78) rfl ?_
    refine own_ldcInt X0 hx hZ hby hown (wd_1 hw) at_78 (pc' := 80) rfl ?_
    refine own_irem X0 hx hby at_80 (pc' := 81) rfl (by decide) ?_
    refine own_istore X0 hx hby at_81 (pc' := 83) rfl (l' := #[.val (.int p0), .val (.int p1), .val (.int p2), .val (.int p3), .val (.int p4), .val (.int p5), .val (.int o1), .val (.int f1), .val (.int l1), .val (.int o2), .val (.int f2), .val (.int (((p5.toUInt32 >>> ((3 : Int32) &&& 31).toUInt32).toInt32) % (33554433 : Int32))), .unset, .unset, .unset, .unset, .unset, .unset, .unset, .unset, .unset]) rfl ?_
    exact own_s83 Z a0 hw p0 p1 p2 p3 p4 p5 ca cl o1 f1 l1 o2 f2 (((p5.toUInt32 >>> ((3 : Int32) &&& 31).toUInt32).toInt32) % (33554433 : Int32))  h0 n0 h1 (own_mono X0 (by decide) (by decide)) hx hby hlk hml hown hret hZ e1 N0 Z1  f_S_java_lang_Integer_IntegerCache_high f_S_java_lang_Integer_IntegerCache_cache f_IC_ca ho1 hf1 hl1 ho2 hf2 (own_mu _)
  · refine own_iload X0 hx hby at_69 (pc' := 71) rfl rfl ?_
    refine own_goto X0 hx hby at_71 (pc' := 81) (by decide) (by decide) ?_
    refine own_istore X0 hx hby at_81 (pc' := 83) rfl (l' := #[.val (.int p0), .val (.int p1), .val (.int p2), .val (.int p3), .val (.int p4), .val (.int p5), .val (.int o1), .val (.int f1), .val (.int l1), .val (.int o2), .val (.int f2), .val (.int l1), .unset, .unset, .unset, .unset, .unset, .unset, .unset, .unset, .unset]) rfl ?_
    exact own_s83 Z a0 hw p0 p1 p2 p3 p4 p5 ca cl o1 f1 l1 o2 f2 l1  h0 n0 h1 (own_mono X0 (by decide) (by decide)) hx hby hlk hml hown hret hZ e1 N0 Z1  f_S_java_lang_Integer_IntegerCache_high f_S_java_lang_Integer_IntegerCache_cache f_IC_ca ho1 hf1 hl1 ho2 hf2 hl1
set_option maxRecDepth 65536 in
set_option maxHeartbeats 40000000 in
theorem own_s42 {p : Program} {l : Launch} {e : Env} {s : State} {m : MethodId} {below : List Frame} {meth : Method} {c : Code} {T0 : State} {locs : List Loc} (Z : State) (a0 : Array Value) (hw : ∀ d ∈ tables_1, d.before a0 Z = true) (p0 : Int32) (p1 : Int32) (p2 : Int32) (p3 : Int32) (p4 : Int32) (p5 : Int32) (ca : Addr) (cl : Cell) (o1 : Int32) (f1 : Int32) (l1 : Int32) (o2 : Int32) (h0 : Heap) (n0 : Nat) (h1 : Heap)
    (X0 : Stand p l e room_1 s m #[(.int p0), (.int p1), (.int p2), (.int p3), (.int p4), (.int p5)] below meth c T0 locs 0 0) (hx : p.tables.exec = Jvm.exec) (hby : c.code = code) (hlk : meth.locks = false) (hml : c.maxLocals = 21) (hown : s.vm.findClass "com/example/inflight/inflight/protocol/FrameHeaderEqualsPinLaw" = some m.cls) (hret : meth.sig.returnType = some .boolean) (hZ : Z.Warmed39 s.vm) (e1 : T0.heap = h1) (N0 : Fr n0 locs) (Z1 : n0 ≤ h1.size) (f_S_java_lang_Integer_IntegerCache_high : Sta Z h1 "java/lang/Integer$IntegerCache" "high" "I" (.int (127 : Int32))) (f_S_java_lang_Integer_IntegerCache_cache : Sta Z h1 "java/lang/Integer$IntegerCache" "cache" "[Ljava/lang/Integer;" (.ref ca)) (f_IC_ca : own_IC Z h1 ca cl) (ho1 : 0 ≤ o1.toInt ∧ o1.toInt ≤ 255) (hf1 : 0 ≤ f1.toInt ∧ f1.toInt ≤ 255) (hl1 : 0 ≤ l1.toInt ∧ l1.toInt ≤ 33554432) (ho2 : 0 ≤ o2.toInt ∧ o2.toInt ≤ 255) :
    own_End p e below (own_F s (Q0 Z p0 p1 p2 p3 p4 p5 ca cl h0 n0) room_1.cells room_1.slots) (T0.setTop (mkF m 42 #[.val (.int p0), .val (.int p1), .val (.int p2), .val (.int p3), .val (.int p4), .val (.int p5), .val (.int o1), .val (.int f1), .val (.int l1), .val (.int o2), .unset, .unset, .unset, .unset, .unset, .unset, .unset, .unset, .unset, .unset, .unset] [])) := by
  refine own_iload X0 hx hby at_42 (pc' := 44) rfl rfl ?_
  refine own_iconst X0 hx hby at_44 (pc' := 45) rfl (n := (2 : Int32)) (by decide) ?_
  refine own_iand X0 hx hby at_45 (pc' := 46) rfl ?_
  refine own_if2 X0 hx hby at_46 (pc1 := 54) (by decide) (by decide) (pc2 := 49) rfl (fun (hc46 : (p5 &&& (2 : Int32)) = (0 : Int32)) => ?_) (fun (hc46 : ¬ (p5 &&& (2 : Int32)) = (0 : Int32)) => ?_)
  · refine own_iload X0 hx hby at_54 (pc' := 56) rfl rfl ?_
    refine own_sipush X0 hx hby at_56 (pc' := 59) rfl (n := (255 : Int32)) (by decide) ?_
    refine own_iand X0 hx hby at_59 (pc' := 60) rfl ?_
    refine own_istore X0 hx hby at_60 (pc' := 62) rfl (l' := #[.val (.int p0), .val (.int p1), .val (.int p2), .val (.int p3), .val (.int p4), .val (.int p5), .val (.int o1), .val (.int f1), .val (.int l1), .val (.int o2), .val (.int (p4 &&& (255 : Int32))), .unset, .unset, .unset, .unset, .unset, .unset, .unset, .unset, .unset, .unset]) rfl ?_
    exact own_s62 Z a0 hw p0 p1 p2 p3 p4 p5 ca cl o1 f1 l1 o2 (p4 &&& (255 : Int32))  h0 n0 h1 (own_mono X0 (by decide) (by decide)) hx hby hlk hml hown hret hZ e1 N0 Z1  f_S_java_lang_Integer_IntegerCache_high f_S_java_lang_Integer_IntegerCache_cache f_IC_ca ho1 hf1 hl1 ho2 (own_m8 _)
  · refine own_iload X0 hx hby at_49 (pc' := 51) rfl rfl ?_
    refine own_goto X0 hx hby at_51 (pc' := 60) (by decide) (by decide) ?_
    refine own_istore X0 hx hby at_60 (pc' := 62) rfl (l' := #[.val (.int p0), .val (.int p1), .val (.int p2), .val (.int p3), .val (.int p4), .val (.int p5), .val (.int o1), .val (.int f1), .val (.int l1), .val (.int o2), .val (.int f1), .unset, .unset, .unset, .unset, .unset, .unset, .unset, .unset, .unset, .unset]) rfl ?_
    exact own_s62 Z a0 hw p0 p1 p2 p3 p4 p5 ca cl o1 f1 l1 o2 f1  h0 n0 h1 (own_mono X0 (by decide) (by decide)) hx hby hlk hml hown hret hZ e1 N0 Z1  f_S_java_lang_Integer_IntegerCache_high f_S_java_lang_Integer_IntegerCache_cache f_IC_ca ho1 hf1 hl1 ho2 hf1
set_option maxRecDepth 65536 in
set_option maxHeartbeats 40000000 in
theorem own_s23 {p : Program} {l : Launch} {e : Env} {s : State} {m : MethodId} {below : List Frame} {meth : Method} {c : Code} {T0 : State} {locs : List Loc} (Z : State) (a0 : Array Value) (hw : ∀ d ∈ tables_1, d.before a0 Z = true) (p0 : Int32) (p1 : Int32) (p2 : Int32) (p3 : Int32) (p4 : Int32) (p5 : Int32) (ca : Addr) (cl : Cell) (o1 : Int32) (f1 : Int32) (l1 : Int32) (h0 : Heap) (n0 : Nat) (h1 : Heap)
    (X0 : Stand p l e room_1 s m #[(.int p0), (.int p1), (.int p2), (.int p3), (.int p4), (.int p5)] below meth c T0 locs 0 0) (hx : p.tables.exec = Jvm.exec) (hby : c.code = code) (hlk : meth.locks = false) (hml : c.maxLocals = 21) (hown : s.vm.findClass "com/example/inflight/inflight/protocol/FrameHeaderEqualsPinLaw" = some m.cls) (hret : meth.sig.returnType = some .boolean) (hZ : Z.Warmed39 s.vm) (e1 : T0.heap = h1) (N0 : Fr n0 locs) (Z1 : n0 ≤ h1.size) (f_S_java_lang_Integer_IntegerCache_high : Sta Z h1 "java/lang/Integer$IntegerCache" "high" "I" (.int (127 : Int32))) (f_S_java_lang_Integer_IntegerCache_cache : Sta Z h1 "java/lang/Integer$IntegerCache" "cache" "[Ljava/lang/Integer;" (.ref ca)) (f_IC_ca : own_IC Z h1 ca cl) (ho1 : 0 ≤ o1.toInt ∧ o1.toInt ≤ 255) (hf1 : 0 ≤ f1.toInt ∧ f1.toInt ≤ 255) (hl1 : 0 ≤ l1.toInt ∧ l1.toInt ≤ 33554432) :
    own_End p e below (own_F s (Q0 Z p0 p1 p2 p3 p4 p5 ca cl h0 n0) room_1.cells room_1.slots) (T0.setTop (mkF m 23 #[.val (.int p0), .val (.int p1), .val (.int p2), .val (.int p3), .val (.int p4), .val (.int p5), .val (.int o1), .val (.int f1), .val (.int l1), .unset, .unset, .unset, .unset, .unset, .unset, .unset, .unset, .unset, .unset, .unset, .unset] [])) := by
  refine own_iload X0 hx hby at_23 (pc' := 25) rfl rfl ?_
  refine own_iconst X0 hx hby at_25 (pc' := 26) rfl (n := (1 : Int32)) (by decide) ?_
  refine own_iand X0 hx hby at_26 (pc' := 27) rfl ?_
  refine own_if2 X0 hx hby at_27 (pc1 := 35) (by decide) (by decide) (pc2 := 30) rfl (fun (hc27 : (p5 &&& (1 : Int32)) = (0 : Int32)) => ?_) (fun (hc27 : ¬ (p5 &&& (1 : Int32)) = (0 : Int32)) => ?_)
  · refine own_iloadN X0 hx hby at_35 (pc' := 36) rfl rfl ?_
    refine own_sipush X0 hx hby at_36 (pc' := 39) rfl (n := (255 : Int32)) (by decide) ?_
    refine own_iand X0 hx hby at_39 (pc' := 40) rfl ?_
    refine own_istore X0 hx hby at_40 (pc' := 42) rfl (l' := #[.val (.int p0), .val (.int p1), .val (.int p2), .val (.int p3), .val (.int p4), .val (.int p5), .val (.int o1), .val (.int f1), .val (.int l1), .val (.int (p3 &&& (255 : Int32))), .unset, .unset, .unset, .unset, .unset, .unset, .unset, .unset, .unset, .unset, .unset]) rfl ?_
    exact own_s42 Z a0 hw p0 p1 p2 p3 p4 p5 ca cl o1 f1 l1 (p3 &&& (255 : Int32))  h0 n0 h1 (own_mono X0 (by decide) (by decide)) hx hby hlk hml hown hret hZ e1 N0 Z1  f_S_java_lang_Integer_IntegerCache_high f_S_java_lang_Integer_IntegerCache_cache f_IC_ca ho1 hf1 hl1 (own_m8 _)
  · refine own_iload X0 hx hby at_30 (pc' := 32) rfl rfl ?_
    refine own_goto X0 hx hby at_32 (pc' := 40) (by decide) (by decide) ?_
    refine own_istore X0 hx hby at_40 (pc' := 42) rfl (l' := #[.val (.int p0), .val (.int p1), .val (.int p2), .val (.int p3), .val (.int p4), .val (.int p5), .val (.int o1), .val (.int f1), .val (.int l1), .val (.int o1), .unset, .unset, .unset, .unset, .unset, .unset, .unset, .unset, .unset, .unset, .unset]) rfl ?_
    exact own_s42 Z a0 hw p0 p1 p2 p3 p4 p5 ca cl o1 f1 l1 o1  h0 n0 h1 (own_mono X0 (by decide) (by decide)) hx hby hlk hml hown hret hZ e1 N0 Z1  f_S_java_lang_Integer_IntegerCache_high f_S_java_lang_Integer_IntegerCache_cache f_IC_ca ho1 hf1 hl1 ho1
set_option maxRecDepth 65536 in
set_option maxHeartbeats 40000000 in
theorem rm0 (l : Launch) (Z : State) (a0 : Array Value) (hw : ∀ d ∈ tables_1, d.before a0 Z = true) (ws : List Jvm.Cond) (p0 : Int32) (p1 : Int32) (p2 : Int32) (p3 : Int32) (p4 : Int32) (p5 : Int32) (ca : Addr) (cl : Cell) (h0 : Heap) (n0 : Nat) (Z0 : n0 ≤ h0.size) (f_S_java_lang_Integer_IntegerCache_high : Sta Z h0 "java/lang/Integer$IntegerCache" "high" "I" (.int (127 : Int32))) (f_S_java_lang_Integer_IntegerCache_cache : Sta Z h0 "java/lang/Integer$IntegerCache" "cache" "[Ljava/lang/Integer;" (.ref ca)) (f_IC_ca : own_IC Z h0 ca cl) :
    MetFree l x (head1 (Jvm.Cond.code x code maxLocals ret :: ws) room_1) (fun aa U => aa = #[(.int p0), (.int p1), (.int p2), (.int p3), (.int p4), (.int p5)] ∧ Z.Warmed39 U.vm ∧ U.heap = h0) (fun _ _ _ _ _ => True) (fun _ U oc U' => ∃ v L, oc = .returned v ∧ Q0 Z p0 p1 p2 p3 p4 p5 ca cl h0 n0 v U'.heap L ∧ FrameEnd U oc U' L room_1.cells room_1.slots) := by
  refine MetFree.of_bodySF (plainFor_of_name own_pn8) hisR ?_
  intro p e s m args below meth c s₁ Bd hml0 hP hK
  obtain ⟨rfl, hZ, hh⟩ := hP
  have hx := Bd.exec
  have hby := Bd.bytes
  have hlk := Bd.notSynchronized
  have hret := Bd.returns
  have hml : c.maxLocals = 21 := hml0
  have hown : s.vm.findClass "com/example/inflight/inflight/protocol/FrameHeaderEqualsPinLaw" = some m.cls := findClass_of_methodNamed Bd.named
  have hnm := (name_of_methodNamed Bd.named Bd.method).1
  have X0 : Stand p l e room_1 s m #[(.int p0), (.int p1), (.int p2), (.int p3), (.int p4), (.int p5)] below meth c s₁ [] 0 0 := Stand.of_body Bd
  have e0 : s₁.heap = h0 := by rw [← hh, Bd.state]; rfl
  have N0 := Fr.nil n0
  refine own_body (Q := Q0 Z p0 p1 p2 p3 p4 p5 ca cl h0 n0) (KC := room_1.cells) (KS := room_1.slots) ?_
  rw [own_ef_rm0 m p0 p1 p2 p3 p4 p5]
  refine own_iloadN X0 hx hby at_0 (pc' := 1) rfl rfl ?_
  refine own_sipush X0 hx hby at_1 (pc' := 4) rfl (n := (255 : Int32)) (by decide) ?_
  refine own_iand X0 hx hby at_4 (pc' := 5) rfl ?_
  refine own_istore X0 hx hby at_5 (pc' := 7) rfl (l' := #[.val (.int p0), .val (.int p1), .val (.int p2), .val (.int p3), .val (.int p4), .val (.int p5), .val (.int (p0 &&& (255 : Int32))), .unset, .unset, .unset, .unset, .unset, .unset, .unset, .unset, .unset, .unset, .unset, .unset, .unset, .unset]) rfl ?_
  refine own_iloadN X0 hx hby at_7 (pc' := 8) rfl rfl ?_
  refine own_sipush X0 hx hby at_8 (pc' := 11) rfl (n := (255 : Int32)) (by decide) ?_
  refine own_iand X0 hx hby at_11 (pc' := 12) rfl ?_
  refine own_istore X0 hx hby at_12 (pc' := 14) rfl (l' := #[.val (.int p0), .val (.int p1), .val (.int p2), .val (.int p3), .val (.int p4), .val (.int p5), .val (.int (p0 &&& (255 : Int32))), .val (.int (p1 &&& (255 : Int32))), .unset, .unset, .unset, .unset, .unset, .unset, .unset, .unset, .unset, .unset, .unset, .unset, .unset]) rfl ?_
  refine own_iloadN X0 hx hby at_14 (pc' := 15) rfl rfl ?_
  refine own_ldcInt X0 hx hZ hby hown (wd_0 hw) at_15 (pc' := 17) rfl ?_
  refine own_iand X0 hx hby at_17 (pc' := 18) rfl ?_
  refine own_ldcInt X0 hx hZ hby hown (wd_1 hw) at_18 (pc' := 20) rfl ?_
  refine own_irem X0 hx hby at_20 (pc' := 21) rfl (by decide) ?_
  refine own_istore X0 hx hby at_21 (pc' := 23) rfl (l' := #[.val (.int p0), .val (.int p1), .val (.int p2), .val (.int p3), .val (.int p4), .val (.int p5), .val (.int (p0 &&& (255 : Int32))), .val (.int (p1 &&& (255 : Int32))), .val (.int ((p2 &&& (2147483647 : Int32)) % (33554433 : Int32))), .unset, .unset, .unset, .unset, .unset, .unset, .unset, .unset, .unset, .unset, .unset, .unset]) rfl ?_
  exact own_s23 Z a0 hw p0 p1 p2 p3 p4 p5 ca cl (p0 &&& (255 : Int32)) (p1 &&& (255 : Int32)) ((p2 &&& (2147483647 : Int32)) % (33554433 : Int32))  h0 n0 h0 (own_mono X0 (by decide) (by decide)) hx hby hlk hml hown hret hZ e0 N0 Z0  f_S_java_lang_Integer_IntegerCache_high f_S_java_lang_Integer_IntegerCache_cache f_IC_ca (own_m8 _) (own_m8 _) (own_ml _)
theorem own_elem {t : Term} {s : State} {a0 : Array Value} {i : Nat} {ca : Addr} {cl : Cell} {v : Value} (ev : t.eval a0 s none [i] s = some (.ref ca)) (hat : s.arrayAt? ca = some cl) (hp : ¬ (i.toInt32 < 0) ∧ (i.toInt32).toNatClampNeg = i) (e1 : (Term.elem t (Term.index (0 : Nat))).eval a0 s none [i] s = some v) : cl.slots[i]? = some v := by
  simp [Term.eval, ev, hat, hp] at e1
  exact e1
theorem own_start {s : State} {a0 : Array Value} (w : (Cond.initialized "java/lang/Integer$IntegerCache").before a0 s = true)
    (t1 : (Cond.initializedFor "java/lang/Integer$IntegerCache" "high" "I").before a0 s = true) (t2 : (Cond.laysStatic "java/lang/Integer$IntegerCache" "cache" "[Ljava/lang/Integer;").before a0 s = true)
    (t3 : (Cond.eq (Term.static "java/lang/Integer$IntegerCache" "high" "I") (Term.int (127 : Int32))).before a0 s = true)
    (t4 : (Cond.arrayOf (Term.static "java/lang/Integer$IntegerCache" "cache" "[Ljava/lang/Integer;") (FieldType.object "java/lang/Integer")).before a0 s = true)
    (t6 : (Cond.eq (Term.length (Term.static "java/lang/Integer$IntegerCache" "cache" "[Ljava/lang/Integer;")) (Term.int (256 : Int32))).before a0 s = true)
    (t7 : (Cond.all (Term.static "java/lang/Integer$IntegerCache" "cache" "[Ljava/lang/Integer;") (Cond.and (Cond.exactly (Term.elem (Term.static "java/lang/Integer$IntegerCache" "cache" "[Ljava/lang/Integer;") (Term.index (0 : Nat))) "java/lang/Integer") (Cond.eq (Term.field (Term.elem (Term.static "java/lang/Integer$IntegerCache" "cache" "[Ljava/lang/Integer;") (Term.index (0 : Nat))) "java/lang/Integer" "value" "I") (Term.sub (Term.index (0 : Nat)) (Term.int (128 : Int32)))))).before a0 s = true) :
    ∃ ca cl, Sta s s.heap "java/lang/Integer$IntegerCache" "high" "I" (.int (127 : Int32)) ∧ Sta s s.heap "java/lang/Integer$IntegerCache" "cache" "[Ljava/lang/Integer;" (.ref ca) ∧ own_IC s s.heap ca cl := by
  obtain ⟨hv, eh⟩ : ∃ v, (Term.static "java/lang/Integer$IntegerCache" "high" "I").eval a0 s none [] s = some v ∧ v = .int (127 : Int32) := by
    have q := Cond.before_iff.mp t3
    cases hq : (Term.static "java/lang/Integer$IntegerCache" "high" "I").eval a0 s none [] s with
    | none => simp [Cond.value, hq, Term.int_eval] at q
    | some v => cases v <;> simp [Cond.value, hq, Term.int_eval] at q; exact ⟨_, rfl, by rw [q]⟩
  obtain ⟨eh1, rfl⟩ := eh
  obtain ⟨ca, ev⟩ := arr_v (Cond.before_iff.mp t4)
  obtain ⟨cl, A⟩ := Arr.start ev (Cond.before_iff.mp t4)
  have hsz := IntBox.length_fwd t6 ev A.1 A.2.1 A.2.2
  have hs : cl.slots.size = 256 := by
    have h1 := hsz.1
    have h2 := congrArg Int32.toInt hsz.2
    rw [show (256 : Int32).toInt = 256 from rfl] at h2
    simp [Nat.toInt32, Int32.size, Int.bmod] at h2
    omega
  have hat := IntBox.arrayAt_of A.1 A.2.1 A.2.2
  have hall := Cond.all_elim ev hat (Cond.before_iff.mp t7)
  refine ⟨ca, cl, Sta.start eh1 (Or.inl t1), Sta.start ev (Or.inr ⟨w, t2⟩), A, hs, fun i hi => ?_⟩
  have q := (and_e (hall i (by rw [hs]; exact hi))).1
  obtain ⟨o, c', cell, k, e1, e2, e3, e4, e5, rfl, e7⟩ := Cond.exactly_spec (by simpa [Cond.holds] using q)
  refine ⟨o, ?_, cell, k, e3, e2, e4, e5, e7⟩
  have hp := IntBox.place_nonneg i hi
  exact own_elem (t := Term.static "java/lang/Integer$IntegerCache" "cache" "[Ljava/lang/Integer;") ev hat hp e1
set_option maxRecDepth 65536 in
set_option maxHeartbeats 40000000 in
theorem comes_1 {Post : Tables → Env → Array Value → State → Outcome → State → Prop} (hpost : ∀ tb e args s v u, (limb_1_1.after args s (.returned v) u = true ∧ limb_1_2.after args s (.returned v) u = true ∧ True) → FrameEnd s (.returned v) u (Jvm.fieldLocs frame_1_writes args s ++ Jvm.arrayLocs frame_1_arrays args s ++ Jvm.staticLocs frame_1_statics s) 16 128 → Post tb e args s (.returned v) u) :
    ArmFor flags0 classFile x code maxLocals ret World_1 tables_1 room_1 Calls_1 rest_1 Pre_1 Post := by
  intro l hfl _ _ p e ha hc hk s m args below hf hA hF happ hP
  obtain ⟨hcalls, hrest, hpre⟩ := hP
  obtain ⟨-, -, -, hnamed, -, -, -, hat⟩ := (Spec.applies_iff hf).mp happ
  obtain ⟨hg, hn⟩ := and_e (Cond.before_iff.mp (show (Jvm.Cond.and given_1 narrow_1).before args s = true from hpre))
  obtain ⟨g1, g2⟩ := and_e hg
  obtain ⟨g3, g4⟩ := and_e g2
  obtain ⟨g5, g6⟩ := and_e g4
  obtain ⟨g7, g8⟩ := and_e g6
  obtain ⟨g9, g10⟩ := and_e g8
  obtain ⟨g11, g12⟩ := and_e g10
  obtain ⟨w0, w1, w2, w3, w4, w5, rfl⟩ : ∃ w0 w1 w2 w3 w4 w5 : Value, args = #[w0, w1, w2, w3, w4, w5] := by
    have hs : args.size = 6 := by simpa [Cond.value, given_1] using g1
    obtain ⟨L⟩ := args
    match L, hs with
    | [w0, w1, w2, w3, w4, w5], _ => exact ⟨w0, w1, w2, w3, w4, w5, rfl⟩
  have hw := fun d (hd : d ∈ tables_1) => atoms_spec (ws := Jvm.Cond.code x code maxLocals ret :: tables_1) hat d (List.mem_cons_of_mem _ hd)
  have hfit : Fit s := fun {y c} hc i hi => by
    obtain ⟨ha, rfl⟩ := Array.getElem?_eq_some_iff.mp hc
    have q := List.all_eq_true.mp ((Array.all_eq_true_iff_forall_mem.mp hF) _ (Array.getElem_mem ha)) i (List.mem_range.mpr hi)
    simpa [Array.getElem?_eq_getElem hi] using q
  obtain ⟨hsets, hown0⟩ := atoms_of _ (rest_1_c_eq ▸ (show rest_1_c.before _ s = true from hrest))
  have hr0 := Cond.before_iff.mp hown0
  obtain ⟨i0, ei0⟩ := is_v g3
  obtain rfl : w0 = (.int i0) := Option.some.inj ei0
  obtain ⟨i1, ei1⟩ := is_v g5
  obtain rfl : w1 = (.int i1) := Option.some.inj ei1
  obtain ⟨i2, ei2⟩ := is_v g7
  obtain rfl : w2 = (.int i2) := Option.some.inj ei2
  obtain ⟨i3, ei3⟩ := is_v g9
  obtain rfl : w3 = (.int i3) := Option.some.inj ei3
  obtain ⟨i4, ei4⟩ := is_v g11
  obtain rfl : w4 = (.int i4) := Option.some.inj ei4
  obtain ⟨i5, ei5⟩ := is_v g12
  obtain rfl : w5 = (.int i5) := Option.some.inj ei5
  have t1 := hsets _ (List.mem_of_getElem? (i := 1) rfl)
  have t2 := hsets _ (List.mem_of_getElem? (i := 2) rfl)
  have t3 := hsets _ (List.mem_of_getElem? (i := 3) rfl)
  have t4 := hsets _ (List.mem_of_getElem? (i := 4) rfl)
  have t6 := hsets _ (List.mem_of_getElem? (i := 6) rfl)
  have t7 := hsets _ (List.mem_of_getElem? (i := 7) rfl)
  obtain ⟨ca, cl, hSH, hSC, hSI⟩ := own_start (wd_30 hw) t1 t2 t3 t4 t6 t7
  obtain ⟨n, o, h1, h2, h3, _, L, rfl, ⟨rfl, N⟩, hq⟩ := rm0 l s _ hw tables_1 i0 i1 i2 i3 i4 i5 ca cl s.heap s.heap.size (Nat.le_refl _) hSH hSC hSI p e ha hc hk s m _ below hf ((Spec.applies_iff_loose hf).mp happ).1 ⟨rfl, State.Warmed39.refl s, rfl⟩ trivial
  refine ⟨n, _, h1, h2, h3, hpost _ _ _ _ _ _ ⟨Cond.after_iff.mpr rfl, Cond.after_iff.mpr (eq_i res_at (Term.int_eval (1)) rfl), trivial⟩ ⟨hq.1, hq.2.1, (hq.2.2.sift fun y hy => Or.inr (N y hy)).mono (by decide) (by decide)⟩⟩
theorem main_1_1 : Claimed_1_1 := comes_1 fun _ _ _ _ _ _ h hF => ⟨h.1, hF⟩
theorem main_1_2 : Claimed_1_2 := comes_1 fun _ _ _ _ _ _ h hF => ⟨h.2.1, hF⟩
end Jvm.Pilot.@@N@@
namespace Jvm.Pilot.@@N@@
open Jvm Jvm.ClassFile Sem Op Lib Jvm.Free Jvm.Stand Jvm.Pilot.@@N@@.Jvm.D
/-! MADE BY PROGRAM (witnessworld.py) out of the Statement's table words and the real class files: 16 classes; the members and pool entries that the words name. The judged class is class 1, her method 1. -/
namespace start1
open Jvm.ClassFile
def u (s : String) : CpInfo := .utf8 (stringToUtf16 s)
/-- a pool by its gaps: so many unusable entries, then the entry; so many at the end -/
def gap : Nat → List CpInfo → List CpInfo
  | 0, r => r
  | n + 1, r => .unusable :: gap n r
def poolList (es : List (Nat × CpInfo)) (last : Nat) : List CpInfo := es.foldr (fun e r => gap e.1 (e.2 :: r)) (gap last [])
def pool (es : List (Nat × CpInfo)) (last : Nat) : Array CpInfo := ⟨poolList es last⟩
def fileOf (pool : Array CpInfo) (this : Nat) (attrs : Array Attribute := #[]) (ms : Array MethodInfo := #[]) (fl : Nat := 33) (sup : Nat := 0) (ifs : Array Nat := #[]) (fds : Array FieldInfo := #[]) : ClassFile where
  minorVersion := 0
  majorVersion := 65
  constantPool := pool
  accessFlags := fl
  thisClass := this
  superClass := sup
  interfaces := ifs
  fields := fds
  methods := ms
  attributes := attrs
def plain (name : String) (sup : Option ClassId) : Class where
  name := name
  kind := .ordinary
  loader := none
  accessFlags := 33
  super := sup
  interfaces := #[]
  cf := none
  fields := #[]
  methods := #[]
  instanceTypes := #[]
  staticTypes := #[]
  resolved := #[]
  callSites := []
  init := .initialized
  statics := none
  mirror := none

def pool0 : Array CpInfo := pool [(5, u "<init>"), (0, u "()V"), (1, .class_ 10), (1, u "java/lang/Object")] 113

def k0c0 : Code := { maxStack := 0, maxLocals := 1, code := object_method_1_code, exceptionTable := #[], attributes := #[] }
def k0m0 : Method := { name := "<init>", desc := "()V", sig := { parameters := [], returnType := none }, accessFlags := 1, code := some k0c0 }
/-- java/lang/Object -/
def k0 : Class := { plain "java/lang/Object" none with
  accessFlags := 33
  interfaces := #[]
  cf := some (fileOf pool0 8 #[] #[{ accessFlags := 1, nameIndex := 5, descriptorIndex := 6, attributes := #[] }] 33 0 #[] #[])
  fields := #[]
  methods := #[k0m0]
  instanceTypes := #[]
  staticTypes := #[]
  resolved := Array.replicate 124 none
  statics := none }

def pool1 : Array CpInfo := pool [(2, .class_ 4), (1, u "java/lang/Object"), (0, u "<init>"), (0, u "()V"), (0, .integer 2147483647), (0, .class_ 9), (0, u "com/example/inflight/inflight/protocol/FrameHeader"), (0, .integer 33554433), (0, .methodref 8 12), (0, .nameAndType 5 13), (0, u "(III)V"), (0, .methodref 15 16), (0, .class_ 17), (0, .nameAndType 18 19), (0, u "java/lang/Integer"), (0, u "valueOf"), (0, u "(I)Ljava/lang/Integer;"), (0, .methodref 8 21), (0, .nameAndType 22 23), (0, u "equals"), (0, u "(Ljava/lang/Object;)Z"), (0, .class_ 25), (0, u "com/example/inflight/inflight/protocol/FrameHeaderEqualsPinLaw"), (2, u "law"), (0, u "(IIIIII)Z")] 3

def k1m0 : Method := { name := "<init>", desc := "()V", sig := { parameters := [], returnType := none }, accessFlags := 1, code := none }
def k1c1 : Code := { maxStack := 5, maxLocals := 21, code := code, exceptionTable := #[], attributes := #[] }
def k1m1 : Method := { name := "law", desc := "(IIIIII)Z", sig := { parameters := [.int, .int, .int, .int, .int, .int], returnType := some .boolean }, accessFlags := 9, code := some k1c1 }
/-- com/example/inflight/inflight/protocol/FrameHeaderEqualsPinLaw -/
def k1 : Class := { plain "com/example/inflight/inflight/protocol/FrameHeaderEqualsPinLaw" (some 0) with
  accessFlags := 49
  interfaces := #[]
  cf := some (fileOf pool1 24 #[] #[{ accessFlags := 1, nameIndex := 5, descriptorIndex := 6, attributes := #[] }, { accessFlags := 9, nameIndex := 28, descriptorIndex := 29, attributes := #[] }] 49 2 #[] #[])
  fields := #[]
  methods := #[k1m0, k1m1]
  instanceTypes := #[]
  staticTypes := #[]
  resolved := Array.replicate 33 none
  statics := none }

def pool2 : Array CpInfo := pool [(1, .methodref 2 3), (0, .class_ 4), (0, .nameAndType 5 6), (0, u "java/lang/Object"), (0, u "<init>"), (0, u "()V"), (10, .class_ 18), (0, u "com/example/inflight/inflight/protocol/FrameHeader"), (0, .integer 33554432), (1, .fieldref 17 22), (0, .nameAndType 23 24), (0, u "opCode"), (0, u "I"), (0, .fieldref 17 26), (0, .nameAndType 27 24), (0, u "flags"), (0, .fieldref 17 29), (0, .nameAndType 30 24), (0, u "payloadLength"), (62, u "(III)V"), (26, u "SIZE"), (2, u "MAGIC"), (1, u "VERSION"), (1, u "FLAG_BINARY"), (0, u "MAX_PAYLOAD_LENGTH"), (12, u "equals"), (0, u "(Ljava/lang/Object;)Z")] 27

def k2c0 : Code := { maxStack := 3, maxLocals := 4, code := prog_84_method_1_code, exceptionTable := #[], attributes := #[] }
def k2m0 : Method := { name := "<init>", desc := "(III)V", sig := { parameters := [.int, .int, .int], returnType := none }, accessFlags := 1, code := some k2c0 }
def k2c1 : Code := { maxStack := 2, maxLocals := 3, code := prog_84_method_8_code, exceptionTable := #[], attributes := #[] }
def k2m1 : Method := { name := "equals", desc := "(Ljava/lang/Object;)Z", sig := { parameters := [(.object "java/lang/Object")], returnType := some .boolean }, accessFlags := 1, code := some k2c1 }
/-- com/example/inflight/inflight/protocol/FrameHeader -/
def k2 : Class := { plain "com/example/inflight/inflight/protocol/FrameHeader" (some 0) with
  accessFlags := 33
  interfaces := #[]
  cf := some (fileOf pool2 17 #[] #[{ accessFlags := 1, nameIndex := 5, descriptorIndex := 93, attributes := #[] }, { accessFlags := 1, nameIndex := 141, descriptorIndex := 142, attributes := #[] }] 33 2 #[] #[{ accessFlags := 25, nameIndex := 120, descriptorIndex := 24, attributes := #[] }, { accessFlags := 25, nameIndex := 123, descriptorIndex := 24, attributes := #[] }, { accessFlags := 25, nameIndex := 125, descriptorIndex := 24, attributes := #[] }, { accessFlags := 25, nameIndex := 127, descriptorIndex := 24, attributes := #[] }, { accessFlags := 25, nameIndex := 128, descriptorIndex := 24, attributes := #[] }, { accessFlags := 18, nameIndex := 23, descriptorIndex := 24, attributes := #[] }, { accessFlags := 18, nameIndex := 27, descriptorIndex := 24, attributes := #[] }, { accessFlags := 18, nameIndex := 30, descriptorIndex := 24, attributes := #[] }])
  fields := #[{ name := "SIZE", type := .int, accessFlags := 25, slot := 0, constantValue := 0 }, { name := "MAGIC", type := .int, accessFlags := 25, slot := 1, constantValue := 0 }, { name := "VERSION", type := .int, accessFlags := 25, slot := 2, constantValue := 0 }, { name := "FLAG_BINARY", type := .int, accessFlags := 25, slot := 3, constantValue := 0 }, { name := "MAX_PAYLOAD_LENGTH", type := .int, accessFlags := 25, slot := 4, constantValue := 0 }, { name := "opCode", type := .int, accessFlags := 18, slot := 0, constantValue := 0 }, { name := "flags", type := .int, accessFlags := 18, slot := 1, constantValue := 0 }, { name := "payloadLength", type := .int, accessFlags := 18, slot := 2, constantValue := 0 }]
  methods := #[k2m0, k2m1]
  instanceTypes := #[.int, .int, .int]
  staticTypes := #[.int, .int, .int, .int, .int]
  resolved := Array.replicate 170 none
  statics := none }

def pool3 : Array CpInfo := pool [(1, .class_ 2), (0, u "java/io/Serializable"), (0, .class_ 4), (0, u "java/lang/Object")] 2

/-- java/io/Serializable -/
def k3 : Class := { plain "java/io/Serializable" (some 0) with
  accessFlags := 1537
  interfaces := #[]
  cf := some (fileOf pool3 1 #[] #[] 1537 3 #[] #[])
  fields := #[]
  methods := #[]
  instanceTypes := #[]
  staticTypes := #[]
  resolved := Array.replicate 7 none
  statics := none }

def pool4 : Array CpInfo := pool [(1, .methodref 2 3), (0, .class_ 4), (0, .nameAndType 5 6), (0, u "java/lang/Object"), (0, u "<init>"), (0, u "()V"), (1, .class_ 10), (1, u "java/lang/Number"), (2, .class_ 14), (0, u "java/io/Serializable"), (0, u "serialVersionUID"), (0, u "J")] 20

def k4c0 : Code := { maxStack := 1, maxLocals := 1, code := jdk_18_method_1_code, exceptionTable := #[], attributes := #[] }
def k4m0 : Method := { name := "<init>", desc := "()V", sig := { parameters := [], returnType := none }, accessFlags := 1, code := some k4c0 }
/-- java/lang/Number -/
def k4 : Class := { plain "java/lang/Number" (some 0) with
  accessFlags := 1057
  interfaces := #[3]
  cf := some (fileOf pool4 8 #[] #[{ accessFlags := 1, nameIndex := 5, descriptorIndex := 6, attributes := #[] }] 1057 2 #[13] #[{ accessFlags := 26, nameIndex := 15, descriptorIndex := 16, attributes := #[] }])
  fields := #[{ name := "serialVersionUID", type := .long, accessFlags := 26, slot := 0, constantValue := 0 }]
  methods := #[k4m0]
  instanceTypes := #[]
  staticTypes := #[.long]
  resolved := Array.replicate 37 none
  statics := none }

def pool5 : Array CpInfo := pool [(1, .class_ 2), (0, u "java/lang/Comparable"), (0, .class_ 4), (0, u "java/lang/Object")] 7

/-- java/lang/Comparable -/
def k5 : Class := { plain "java/lang/Comparable" (some 0) with
  accessFlags := 1537
  interfaces := #[]
  cf := some (fileOf pool5 1 #[] #[] 1537 3 #[] #[])
  fields := #[]
  methods := #[]
  instanceTypes := #[]
  staticTypes := #[]
  resolved := Array.replicate 12 none
  statics := none }

def pool6 : Array CpInfo := pool [(1, .class_ 2), (0, u "java/lang/constant/Constable"), (0, .class_ 4), (0, u "java/lang/Object")] 6

/-- java/lang/constant/Constable -/
def k6 : Class := { plain "java/lang/constant/Constable" (some 0) with
  accessFlags := 1537
  interfaces := #[]
  cf := some (fileOf pool6 1 #[] #[] 1537 3 #[] #[])
  fields := #[]
  methods := #[]
  instanceTypes := #[]
  staticTypes := #[]
  resolved := Array.replicate 11 none
  statics := none }

def pool7 : Array CpInfo := pool [(1, .class_ 2), (0, u "java/lang/constant/ConstantDesc"), (0, .class_ 4), (0, u "java/lang/Object")] 32

/-- java/lang/constant/ConstantDesc -/
def k7 : Class := { plain "java/lang/constant/ConstantDesc" (some 0) with
  accessFlags := 1537
  interfaces := #[]
  cf := some (fileOf pool7 1 #[] #[] 1537 3 #[] #[])
  fields := #[]
  methods := #[]
  instanceTypes := #[]
  staticTypes := #[]
  resolved := Array.replicate 37 none
  statics := none }

def pool8 : Array CpInfo := pool [(1, .class_ 2), (0, u "java/lang/Integer"), (16, u "digits"), (0, u "[C"), (46, u "<init>"), (17, u "DigitOnes"), (0, u "[B"), (2, u "DigitTens"), (10, .nameAndType 67 101), (0, u "()V"), (85, u "valueOf"), (0, u "(I)Ljava/lang/Integer;"), (0, .class_ 190), (0, u "java/lang/Integer$IntegerCache"), (0, .fieldref 189 192), (0, .nameAndType 193 194), (0, u "high"), (0, u "I"), (0, .fieldref 189 196), (0, .nameAndType 197 198), (0, u "cache"), (0, u "[Ljava/lang/Integer;"), (0, .methodref 1 200), (0, .nameAndType 67 201), (0, u "(I)V"), (0, .methodref 203 100), (0, .class_ 204), (0, u "java/lang/Number"), (0, .fieldref 1 206), (0, .nameAndType 207 194), (0, u "value"), (94, u "TYPE"), (0, u "Ljava/lang/Class;"), (0, .class_ 305), (0, u "java/lang/Comparable"), (0, .class_ 307), (0, u "java/lang/constant/Constable"), (0, .class_ 309), (0, u "java/lang/constant/ConstantDesc"), (0, u "MIN_VALUE"), (1, u "MAX_VALUE"), (3, u "SIZE"), (1, u "BYTES"), (1, u "serialVersionUID"), (0, u "J")] 131

def k8c0 : Code := { maxStack := 3, maxLocals := 1, code := jdk_33_method_22_code, exceptionTable := #[], attributes := #[] }
def k8m0 : Method := { name := "valueOf", desc := "(I)Ljava/lang/Integer;", sig := { parameters := [.int], returnType := some (.object "java/lang/Integer") }, accessFlags := 9, code := some k8c0 }
def k8c1 : Code := { maxStack := 2, maxLocals := 2, code := jdk_33_method_23_code, exceptionTable := #[], attributes := #[] }
def k8m1 : Method := { name := "<init>", desc := "(I)V", sig := { parameters := [.int], returnType := none }, accessFlags := 1, code := some k8c1 }
/-- java/lang/Integer -/
def k8 : Class := { plain "java/lang/Integer" (some 4) with
  accessFlags := 49
  interfaces := #[5, 6, 7]
  cf := some (fileOf pool8 1 #[.nestMembers #[189]] #[{ accessFlags := 9, nameIndex := 187, descriptorIndex := 188, attributes := #[] }, { accessFlags := 1, nameIndex := 67, descriptorIndex := 201, attributes := #[] }] 49 203 #[304, 306, 308] #[{ accessFlags := 25, nameIndex := 310, descriptorIndex := 194, attributes := #[] }, { accessFlags := 25, nameIndex := 312, descriptorIndex := 194, attributes := #[] }, { accessFlags := 25, nameIndex := 302, descriptorIndex := 303, attributes := #[] }, { accessFlags := 24, nameIndex := 19, descriptorIndex := 20, attributes := #[] }, { accessFlags := 24, nameIndex := 89, descriptorIndex := 86, attributes := #[] }, { accessFlags := 24, nameIndex := 85, descriptorIndex := 86, attributes := #[] }, { accessFlags := 18, nameIndex := 207, descriptorIndex := 194, attributes := #[] }, { accessFlags := 25, nameIndex := 316, descriptorIndex := 194, attributes := #[] }, { accessFlags := 25, nameIndex := 318, descriptorIndex := 194, attributes := #[] }, { accessFlags := 26, nameIndex := 320, descriptorIndex := 321, attributes := #[] }])
  fields := #[{ name := "MIN_VALUE", type := .int, accessFlags := 25, slot := 0, constantValue := 0 }, { name := "MAX_VALUE", type := .int, accessFlags := 25, slot := 1, constantValue := 0 }, { name := "TYPE", type := (.object "java/lang/Class"), accessFlags := 25, slot := 2, constantValue := 0 }, { name := "digits", type := (.array .char), accessFlags := 24, slot := 3, constantValue := 0 }, { name := "DigitTens", type := (.array .byte), accessFlags := 24, slot := 4, constantValue := 0 }, { name := "DigitOnes", type := (.array .byte), accessFlags := 24, slot := 5, constantValue := 0 }, { name := "value", type := .int, accessFlags := 18, slot := 0, constantValue := 0 }, { name := "SIZE", type := .int, accessFlags := 25, slot := 6, constantValue := 0 }, { name := "BYTES", type := .int, accessFlags := 25, slot := 7, constantValue := 0 }, { name := "serialVersionUID", type := .long, accessFlags := 26, slot := 8, constantValue := 0 }]
  methods := #[k8m0, k8m1]
  instanceTypes := #[.int]
  staticTypes := #[.int, .int, (.object "java/lang/Class"), (.array .char), (.array .byte), (.array .byte), .int, .int, .long]
  resolved := Array.replicate 453 none
  statics := none }

def pool9 : Array CpInfo := pool [(2, .class_ 4), (1, u "java/lang/Object"), (0, u "<init>"), (0, u "()V"), (0, .class_ 8), (0, u "java/lang/Integer"), (7, .class_ 18), (1, u "java/lang/Integer$IntegerCache"), (0, u "$assertionsDisabled"), (0, u "Z"), (26, u "high"), (0, u "I"), (8, u "archivedCache"), (0, u "[Ljava/lang/Integer;"), (12, u "cache"), (0, u "low")] 27

def k9m0 : Method := { name := "<init>", desc := "()V", sig := { parameters := [], returnType := none }, accessFlags := 2, code := none }
/-- java/lang/Integer$IntegerCache -/
def k9 : Class := { plain "java/lang/Integer$IntegerCache" (some 0) with
  accessFlags := 48
  interfaces := #[]
  cf := some (fileOf pool9 16 #[.nestHost 7] #[{ accessFlags := 2, nameIndex := 5, descriptorIndex := 6, attributes := #[] }] 48 2 #[] #[{ accessFlags := 24, nameIndex := 72, descriptorIndex := 48, attributes := #[] }, { accessFlags := 24, nameIndex := 47, descriptorIndex := 48, attributes := #[] }, { accessFlags := 24, nameIndex := 71, descriptorIndex := 58, attributes := #[] }, { accessFlags := 8, nameIndex := 57, descriptorIndex := 58, attributes := #[] }, { accessFlags := 4120, nameIndex := 19, descriptorIndex := 20, attributes := #[] }])
  fields := #[{ name := "low", type := .int, accessFlags := 24, slot := 0, constantValue := 0 }, { name := "high", type := .int, accessFlags := 24, slot := 1, constantValue := 0 }, { name := "cache", type := (.array (.object "java/lang/Integer")), accessFlags := 24, slot := 2, constantValue := 0 }, { name := "archivedCache", type := (.array (.object "java/lang/Integer")), accessFlags := 8, slot := 3, constantValue := 0 }, { name := "$assertionsDisabled", type := .boolean, accessFlags := 4120, slot := 4, constantValue := 0 }]
  methods := #[k9m0]
  instanceTypes := #[]
  staticTypes := #[.int, .int, (.array (.object "java/lang/Integer")), (.array (.object "java/lang/Integer")), .boolean]
  resolved := Array.replicate 100 none
  statics := some 0 }

def pool10 : Array CpInfo := pool [(1, u "java/lang/Cloneable"), (0, .class_ 1), (0, u "java/lang/Object"), (0, .class_ 3)] 3

/-- java/lang/Cloneable -/
def k10 : Class := { plain "java/lang/Cloneable" (some 0) with
  accessFlags := 1537
  interfaces := #[]
  cf := some (fileOf pool10 2 #[] #[] 1537 4 #[] #[])
  fields := #[]
  methods := #[]
  instanceTypes := #[]
  staticTypes := #[]
  resolved := Array.replicate 8 none
  statics := none }

/-- the primitive byte -/
def k11 : Class := { plain "byte" none with kind := .primitive 'B', accessFlags := 0x411 }
/-- [B -/
def k12 : Class := { plain "[B" (some 0) with kind := .array 11 .byte, interfaces := #[10, 3], accessFlags := 1041 }

/-- the primitive int -/
def k13 : Class := { plain "int" none with kind := .primitive 'I', accessFlags := 0x411 }
/-- [I -/
def k14 : Class := { plain "[I" (some 0) with kind := .array 13 .int, interfaces := #[10, 3], accessFlags := 1041 }

/-- [Ljava/lang/Integer; -/
def k15 : Class := { plain "[Ljava/lang/Integer;" (some 0) with kind := .array 8 (.object "java/lang/Integer"), interfaces := #[10, 3], accessFlags := 1041 }

def heap : Heap := #[{ cls := 9, slots := #[.int 0, .int 127, .ref 1, .null, .int 0], vm := .statics 9 },
  { cls := 15, slots := #[.ref 2, .ref 3, .ref 4, .ref 5, .ref 6, .ref 7, .ref 8, .ref 9, .ref 10, .ref 11, .ref 12, .ref 13, .ref 14, .ref 15, .ref 16, .ref 17, .ref 18, .ref 19, .ref 20, .ref 21, .ref 22, .ref 23, .ref 24, .ref 25, .ref 26, .ref 27, .ref 28, .ref 29, .ref 30, .ref 31, .ref 32, .ref 33, .ref 34, .ref 35, .ref 36, .ref 37, .ref 38, .ref 39, .ref 40, .ref 41, .ref 42, .ref 43, .ref 44, .ref 45, .ref 46, .ref 47, .ref 48, .ref 49, .ref 50, .ref 51, .ref 52, .ref 53, .ref 54, .ref 55, .ref 56, .ref 57, .ref 58, .ref 59, .ref 60, .ref 61, .ref 62, .ref 63, .ref 64, .ref 65, .ref 66, .ref 67, .ref 68, .ref 69, .ref 70, .ref 71, .ref 72, .ref 73, .ref 74, .ref 75, .ref 76, .ref 77, .ref 78, .ref 79, .ref 80, .ref 81, .ref 82, .ref 83, .ref 84, .ref 85, .ref 86, .ref 87, .ref 88, .ref 89, .ref 90, .ref 91, .ref 92, .ref 93, .ref 94, .ref 95, .ref 96, .ref 97, .ref 98, .ref 99, .ref 100, .ref 101, .ref 102, .ref 103, .ref 104, .ref 105, .ref 106, .ref 107, .ref 108, .ref 109, .ref 110, .ref 111, .ref 112, .ref 113, .ref 114, .ref 115, .ref 116, .ref 117, .ref 118, .ref 119, .ref 120, .ref 121, .ref 122, .ref 123, .ref 124, .ref 125, .ref 126, .ref 127, .ref 128, .ref 129, .ref 130, .ref 131, .ref 132, .ref 133, .ref 134, .ref 135, .ref 136, .ref 137, .ref 138, .ref 139, .ref 140, .ref 141, .ref 142, .ref 143, .ref 144, .ref 145, .ref 146, .ref 147, .ref 148, .ref 149, .ref 150, .ref 151, .ref 152, .ref 153, .ref 154, .ref 155, .ref 156, .ref 157, .ref 158, .ref 159, .ref 160, .ref 161, .ref 162, .ref 163, .ref 164, .ref 165, .ref 166, .ref 167, .ref 168, .ref 169, .ref 170, .ref 171, .ref 172, .ref 173, .ref 174, .ref 175, .ref 176, .ref 177, .ref 178, .ref 179, .ref 180, .ref 181, .ref 182, .ref 183, .ref 184, .ref 185, .ref 186, .ref 187, .ref 188, .ref 189, .ref 190, .ref 191, .ref 192, .ref 193, .ref 194, .ref 195, .ref 196, .ref 197, .ref 198, .ref 199, .ref 200, .ref 201, .ref 202, .ref 203, .ref 204, .ref 205, .ref 206, .ref 207, .ref 208, .ref 209, .ref 210, .ref 211, .ref 212, .ref 213, .ref 214, .ref 215, .ref 216, .ref 217, .ref 218, .ref 219, .ref 220, .ref 221, .ref 222, .ref 223, .ref 224, .ref 225, .ref 226, .ref 227, .ref 228, .ref 229, .ref 230, .ref 231, .ref 232, .ref 233, .ref 234, .ref 235, .ref 236, .ref 237, .ref 238, .ref 239, .ref 240, .ref 241, .ref 242, .ref 243, .ref 244, .ref 245, .ref 246, .ref 247, .ref 248, .ref 249, .ref 250, .ref 251, .ref 252, .ref 253, .ref 254, .ref 255, .ref 256, .ref 257], vm := .none },
  { cls := 8, slots := #[.int (-128)], vm := .none },
  { cls := 8, slots := #[.int (-127)], vm := .none },
  { cls := 8, slots := #[.int (-126)], vm := .none },
  { cls := 8, slots := #[.int (-125)], vm := .none },
  { cls := 8, slots := #[.int (-124)], vm := .none },
  { cls := 8, slots := #[.int (-123)], vm := .none },
  { cls := 8, slots := #[.int (-122)], vm := .none },
  { cls := 8, slots := #[.int (-121)], vm := .none },
  { cls := 8, slots := #[.int (-120)], vm := .none },
  { cls := 8, slots := #[.int (-119)], vm := .none },
  { cls := 8, slots := #[.int (-118)], vm := .none },
  { cls := 8, slots := #[.int (-117)], vm := .none },
  { cls := 8, slots := #[.int (-116)], vm := .none },
  { cls := 8, slots := #[.int (-115)], vm := .none },
  { cls := 8, slots := #[.int (-114)], vm := .none },
  { cls := 8, slots := #[.int (-113)], vm := .none },
  { cls := 8, slots := #[.int (-112)], vm := .none },
  { cls := 8, slots := #[.int (-111)], vm := .none },
  { cls := 8, slots := #[.int (-110)], vm := .none },
  { cls := 8, slots := #[.int (-109)], vm := .none },
  { cls := 8, slots := #[.int (-108)], vm := .none },
  { cls := 8, slots := #[.int (-107)], vm := .none },
  { cls := 8, slots := #[.int (-106)], vm := .none },
  { cls := 8, slots := #[.int (-105)], vm := .none },
  { cls := 8, slots := #[.int (-104)], vm := .none },
  { cls := 8, slots := #[.int (-103)], vm := .none },
  { cls := 8, slots := #[.int (-102)], vm := .none },
  { cls := 8, slots := #[.int (-101)], vm := .none },
  { cls := 8, slots := #[.int (-100)], vm := .none },
  { cls := 8, slots := #[.int (-99)], vm := .none },
  { cls := 8, slots := #[.int (-98)], vm := .none },
  { cls := 8, slots := #[.int (-97)], vm := .none },
  { cls := 8, slots := #[.int (-96)], vm := .none },
  { cls := 8, slots := #[.int (-95)], vm := .none },
  { cls := 8, slots := #[.int (-94)], vm := .none },
  { cls := 8, slots := #[.int (-93)], vm := .none },
  { cls := 8, slots := #[.int (-92)], vm := .none },
  { cls := 8, slots := #[.int (-91)], vm := .none },
  { cls := 8, slots := #[.int (-90)], vm := .none },
  { cls := 8, slots := #[.int (-89)], vm := .none },
  { cls := 8, slots := #[.int (-88)], vm := .none },
  { cls := 8, slots := #[.int (-87)], vm := .none },
  { cls := 8, slots := #[.int (-86)], vm := .none },
  { cls := 8, slots := #[.int (-85)], vm := .none },
  { cls := 8, slots := #[.int (-84)], vm := .none },
  { cls := 8, slots := #[.int (-83)], vm := .none },
  { cls := 8, slots := #[.int (-82)], vm := .none },
  { cls := 8, slots := #[.int (-81)], vm := .none },
  { cls := 8, slots := #[.int (-80)], vm := .none },
  { cls := 8, slots := #[.int (-79)], vm := .none },
  { cls := 8, slots := #[.int (-78)], vm := .none },
  { cls := 8, slots := #[.int (-77)], vm := .none },
  { cls := 8, slots := #[.int (-76)], vm := .none },
  { cls := 8, slots := #[.int (-75)], vm := .none },
  { cls := 8, slots := #[.int (-74)], vm := .none },
  { cls := 8, slots := #[.int (-73)], vm := .none },
  { cls := 8, slots := #[.int (-72)], vm := .none },
  { cls := 8, slots := #[.int (-71)], vm := .none },
  { cls := 8, slots := #[.int (-70)], vm := .none },
  { cls := 8, slots := #[.int (-69)], vm := .none },
  { cls := 8, slots := #[.int (-68)], vm := .none },
  { cls := 8, slots := #[.int (-67)], vm := .none },
  { cls := 8, slots := #[.int (-66)], vm := .none },
  { cls := 8, slots := #[.int (-65)], vm := .none },
  { cls := 8, slots := #[.int (-64)], vm := .none },
  { cls := 8, slots := #[.int (-63)], vm := .none },
  { cls := 8, slots := #[.int (-62)], vm := .none },
  { cls := 8, slots := #[.int (-61)], vm := .none },
  { cls := 8, slots := #[.int (-60)], vm := .none },
  { cls := 8, slots := #[.int (-59)], vm := .none },
  { cls := 8, slots := #[.int (-58)], vm := .none },
  { cls := 8, slots := #[.int (-57)], vm := .none },
  { cls := 8, slots := #[.int (-56)], vm := .none },
  { cls := 8, slots := #[.int (-55)], vm := .none },
  { cls := 8, slots := #[.int (-54)], vm := .none },
  { cls := 8, slots := #[.int (-53)], vm := .none },
  { cls := 8, slots := #[.int (-52)], vm := .none },
  { cls := 8, slots := #[.int (-51)], vm := .none },
  { cls := 8, slots := #[.int (-50)], vm := .none },
  { cls := 8, slots := #[.int (-49)], vm := .none },
  { cls := 8, slots := #[.int (-48)], vm := .none },
  { cls := 8, slots := #[.int (-47)], vm := .none },
  { cls := 8, slots := #[.int (-46)], vm := .none },
  { cls := 8, slots := #[.int (-45)], vm := .none },
  { cls := 8, slots := #[.int (-44)], vm := .none },
  { cls := 8, slots := #[.int (-43)], vm := .none },
  { cls := 8, slots := #[.int (-42)], vm := .none },
  { cls := 8, slots := #[.int (-41)], vm := .none },
  { cls := 8, slots := #[.int (-40)], vm := .none },
  { cls := 8, slots := #[.int (-39)], vm := .none },
  { cls := 8, slots := #[.int (-38)], vm := .none },
  { cls := 8, slots := #[.int (-37)], vm := .none },
  { cls := 8, slots := #[.int (-36)], vm := .none },
  { cls := 8, slots := #[.int (-35)], vm := .none },
  { cls := 8, slots := #[.int (-34)], vm := .none },
  { cls := 8, slots := #[.int (-33)], vm := .none },
  { cls := 8, slots := #[.int (-32)], vm := .none },
  { cls := 8, slots := #[.int (-31)], vm := .none },
  { cls := 8, slots := #[.int (-30)], vm := .none },
  { cls := 8, slots := #[.int (-29)], vm := .none },
  { cls := 8, slots := #[.int (-28)], vm := .none },
  { cls := 8, slots := #[.int (-27)], vm := .none },
  { cls := 8, slots := #[.int (-26)], vm := .none },
  { cls := 8, slots := #[.int (-25)], vm := .none },
  { cls := 8, slots := #[.int (-24)], vm := .none },
  { cls := 8, slots := #[.int (-23)], vm := .none },
  { cls := 8, slots := #[.int (-22)], vm := .none },
  { cls := 8, slots := #[.int (-21)], vm := .none },
  { cls := 8, slots := #[.int (-20)], vm := .none },
  { cls := 8, slots := #[.int (-19)], vm := .none },
  { cls := 8, slots := #[.int (-18)], vm := .none },
  { cls := 8, slots := #[.int (-17)], vm := .none },
  { cls := 8, slots := #[.int (-16)], vm := .none },
  { cls := 8, slots := #[.int (-15)], vm := .none },
  { cls := 8, slots := #[.int (-14)], vm := .none },
  { cls := 8, slots := #[.int (-13)], vm := .none },
  { cls := 8, slots := #[.int (-12)], vm := .none },
  { cls := 8, slots := #[.int (-11)], vm := .none },
  { cls := 8, slots := #[.int (-10)], vm := .none },
  { cls := 8, slots := #[.int (-9)], vm := .none },
  { cls := 8, slots := #[.int (-8)], vm := .none },
  { cls := 8, slots := #[.int (-7)], vm := .none },
  { cls := 8, slots := #[.int (-6)], vm := .none },
  { cls := 8, slots := #[.int (-5)], vm := .none },
  { cls := 8, slots := #[.int (-4)], vm := .none },
  { cls := 8, slots := #[.int (-3)], vm := .none },
  { cls := 8, slots := #[.int (-2)], vm := .none },
  { cls := 8, slots := #[.int (-1)], vm := .none },
  { cls := 8, slots := #[.int 0], vm := .none },
  { cls := 8, slots := #[.int 1], vm := .none },
  { cls := 8, slots := #[.int 2], vm := .none },
  { cls := 8, slots := #[.int 3], vm := .none },
  { cls := 8, slots := #[.int 4], vm := .none },
  { cls := 8, slots := #[.int 5], vm := .none },
  { cls := 8, slots := #[.int 6], vm := .none },
  { cls := 8, slots := #[.int 7], vm := .none },
  { cls := 8, slots := #[.int 8], vm := .none },
  { cls := 8, slots := #[.int 9], vm := .none },
  { cls := 8, slots := #[.int 10], vm := .none },
  { cls := 8, slots := #[.int 11], vm := .none },
  { cls := 8, slots := #[.int 12], vm := .none },
  { cls := 8, slots := #[.int 13], vm := .none },
  { cls := 8, slots := #[.int 14], vm := .none },
  { cls := 8, slots := #[.int 15], vm := .none },
  { cls := 8, slots := #[.int 16], vm := .none },
  { cls := 8, slots := #[.int 17], vm := .none },
  { cls := 8, slots := #[.int 18], vm := .none },
  { cls := 8, slots := #[.int 19], vm := .none },
  { cls := 8, slots := #[.int 20], vm := .none },
  { cls := 8, slots := #[.int 21], vm := .none },
  { cls := 8, slots := #[.int 22], vm := .none },
  { cls := 8, slots := #[.int 23], vm := .none },
  { cls := 8, slots := #[.int 24], vm := .none },
  { cls := 8, slots := #[.int 25], vm := .none },
  { cls := 8, slots := #[.int 26], vm := .none },
  { cls := 8, slots := #[.int 27], vm := .none },
  { cls := 8, slots := #[.int 28], vm := .none },
  { cls := 8, slots := #[.int 29], vm := .none },
  { cls := 8, slots := #[.int 30], vm := .none },
  { cls := 8, slots := #[.int 31], vm := .none },
  { cls := 8, slots := #[.int 32], vm := .none },
  { cls := 8, slots := #[.int 33], vm := .none },
  { cls := 8, slots := #[.int 34], vm := .none },
  { cls := 8, slots := #[.int 35], vm := .none },
  { cls := 8, slots := #[.int 36], vm := .none },
  { cls := 8, slots := #[.int 37], vm := .none },
  { cls := 8, slots := #[.int 38], vm := .none },
  { cls := 8, slots := #[.int 39], vm := .none },
  { cls := 8, slots := #[.int 40], vm := .none },
  { cls := 8, slots := #[.int 41], vm := .none },
  { cls := 8, slots := #[.int 42], vm := .none },
  { cls := 8, slots := #[.int 43], vm := .none },
  { cls := 8, slots := #[.int 44], vm := .none },
  { cls := 8, slots := #[.int 45], vm := .none },
  { cls := 8, slots := #[.int 46], vm := .none },
  { cls := 8, slots := #[.int 47], vm := .none },
  { cls := 8, slots := #[.int 48], vm := .none },
  { cls := 8, slots := #[.int 49], vm := .none },
  { cls := 8, slots := #[.int 50], vm := .none },
  { cls := 8, slots := #[.int 51], vm := .none },
  { cls := 8, slots := #[.int 52], vm := .none },
  { cls := 8, slots := #[.int 53], vm := .none },
  { cls := 8, slots := #[.int 54], vm := .none },
  { cls := 8, slots := #[.int 55], vm := .none },
  { cls := 8, slots := #[.int 56], vm := .none },
  { cls := 8, slots := #[.int 57], vm := .none },
  { cls := 8, slots := #[.int 58], vm := .none },
  { cls := 8, slots := #[.int 59], vm := .none },
  { cls := 8, slots := #[.int 60], vm := .none },
  { cls := 8, slots := #[.int 61], vm := .none },
  { cls := 8, slots := #[.int 62], vm := .none },
  { cls := 8, slots := #[.int 63], vm := .none },
  { cls := 8, slots := #[.int 64], vm := .none },
  { cls := 8, slots := #[.int 65], vm := .none },
  { cls := 8, slots := #[.int 66], vm := .none },
  { cls := 8, slots := #[.int 67], vm := .none },
  { cls := 8, slots := #[.int 68], vm := .none },
  { cls := 8, slots := #[.int 69], vm := .none },
  { cls := 8, slots := #[.int 70], vm := .none },
  { cls := 8, slots := #[.int 71], vm := .none },
  { cls := 8, slots := #[.int 72], vm := .none },
  { cls := 8, slots := #[.int 73], vm := .none },
  { cls := 8, slots := #[.int 74], vm := .none },
  { cls := 8, slots := #[.int 75], vm := .none },
  { cls := 8, slots := #[.int 76], vm := .none },
  { cls := 8, slots := #[.int 77], vm := .none },
  { cls := 8, slots := #[.int 78], vm := .none },
  { cls := 8, slots := #[.int 79], vm := .none },
  { cls := 8, slots := #[.int 80], vm := .none },
  { cls := 8, slots := #[.int 81], vm := .none },
  { cls := 8, slots := #[.int 82], vm := .none },
  { cls := 8, slots := #[.int 83], vm := .none },
  { cls := 8, slots := #[.int 84], vm := .none },
  { cls := 8, slots := #[.int 85], vm := .none },
  { cls := 8, slots := #[.int 86], vm := .none },
  { cls := 8, slots := #[.int 87], vm := .none },
  { cls := 8, slots := #[.int 88], vm := .none },
  { cls := 8, slots := #[.int 89], vm := .none },
  { cls := 8, slots := #[.int 90], vm := .none },
  { cls := 8, slots := #[.int 91], vm := .none },
  { cls := 8, slots := #[.int 92], vm := .none },
  { cls := 8, slots := #[.int 93], vm := .none },
  { cls := 8, slots := #[.int 94], vm := .none },
  { cls := 8, slots := #[.int 95], vm := .none },
  { cls := 8, slots := #[.int 96], vm := .none },
  { cls := 8, slots := #[.int 97], vm := .none },
  { cls := 8, slots := #[.int 98], vm := .none },
  { cls := 8, slots := #[.int 99], vm := .none },
  { cls := 8, slots := #[.int 100], vm := .none },
  { cls := 8, slots := #[.int 101], vm := .none },
  { cls := 8, slots := #[.int 102], vm := .none },
  { cls := 8, slots := #[.int 103], vm := .none },
  { cls := 8, slots := #[.int 104], vm := .none },
  { cls := 8, slots := #[.int 105], vm := .none },
  { cls := 8, slots := #[.int 106], vm := .none },
  { cls := 8, slots := #[.int 107], vm := .none },
  { cls := 8, slots := #[.int 108], vm := .none },
  { cls := 8, slots := #[.int 109], vm := .none },
  { cls := 8, slots := #[.int 110], vm := .none },
  { cls := 8, slots := #[.int 111], vm := .none },
  { cls := 8, slots := #[.int 112], vm := .none },
  { cls := 8, slots := #[.int 113], vm := .none },
  { cls := 8, slots := #[.int 114], vm := .none },
  { cls := 8, slots := #[.int 115], vm := .none },
  { cls := 8, slots := #[.int 116], vm := .none },
  { cls := 8, slots := #[.int 117], vm := .none },
  { cls := 8, slots := #[.int 118], vm := .none },
  { cls := 8, slots := #[.int 119], vm := .none },
  { cls := 8, slots := #[.int 120], vm := .none },
  { cls := 8, slots := #[.int 121], vm := .none },
  { cls := 8, slots := #[.int 122], vm := .none },
  { cls := 8, slots := #[.int 123], vm := .none },
  { cls := 8, slots := #[.int 124], vm := .none },
  { cls := 8, slots := #[.int 125], vm := .none },
  { cls := 8, slots := #[.int 126], vm := .none },
  { cls := 8, slots := #[.int 127], vm := .none }]
def classes : Array Class := #[k0, k1, k2, k3, k4, k5, k6, k7, k8, k9, k10, k11, k12, k13, k14, k15]
def interned : List (Array UInt16 × Addr) := []
def slotsUsed : Nat := 517
def theMethod : MethodId := ⟨1, 1⟩
def args0 : Array Value := #[.int 5, .int 5, .int 5, .int 5, .int 5, .int 5]
def aboutOver (below : List Frame) : State where
  vm := { classes := classes, interned := interned.toArray }
  heap := heap
  slotsUsed := slotsUsed
  threads := #[{ frames := .invoking theMethod args0 :: below }]
def below0 : List Frame := [.native { method := ⟨0, 0⟩, args := #[] }]
def about1 : State := aboutOver below0
def p0 : Program := .bare "" "" ""
def e0 : Env := launch0.env 0 0 0
theorem w_frames : about1.frames = Frame.invoking theMethod args0 :: below0 := rfl
set_option maxRecDepth 65536 in
theorem w_args : argsFit about1.vm theMethod args0 = true := by decide +kernel
set_option maxRecDepth 65536 in
theorem w_heap : heapFits about1 = true := by decide +kernel
set_option maxRecDepth 65536 in
theorem w_runnable : about1.curStatus? = some .runnable := by decide +kernel
set_option maxRecDepth 65536 in
theorem w_alone : about1.alone = true := by decide +kernel
set_option maxRecDepth 65536 in
theorem w_named : about1.methodNamed? x = some theMethod := by decide +kernel
set_option maxRecDepth 65536 in
theorem w_hears : about1.hears theMethod below0 = true := by decide +kernel
set_option maxRecDepth 65536 in
theorem w_ripe : about1.ripe theMethod args0 below0 = true := by decide +kernel
theorem w_running : about1.status = .running := rfl
set_option maxRecDepth 65536 in
theorem w_room : about1.hasRoom e0.platform room_1 = true :=
  launch0.hasRoom_least _ room_1 (by decide +kernel) (by decide +kernel) (by decide +kernel) (by decide +kernel) (by decide +kernel) (by decide +kernel)
theorem allAtoms_all (ts : List Jvm.Cond) (a : Array Jvm.Value) (st : Jvm.State) : (allAtoms ts).before a st = ts.all (fun c => c.before a st) := by
  induction ts with
  | nil => rfl
  | cons c t ih =>
    show (Jvm.Cond.and c (allAtoms t)).before a st = _
    rw [Jvm.Cond.before_and, ih, List.all_cons]
def words1 : List Jvm.Cond := Jvm.Cond.code x code maxLocals ret :: tables_1
/-- a 'code' word, met by the world's own term for the bytes: nothing is compared byte by byte -/
theorem code_word {y : MethodName} {bytes : ByteArray} {mx : Nat} {rt : Option FieldType} {a : Array Value} {s : State} {m : MethodId} {meth : Method} {c : Code} (h1 : s.methodNamed? y = some m) (h2 : s.vm.method? m = some meth) (h3 : meth.code = some c) (h4 : c.code = bytes)
    (h5 : (c.maxLocals == mx && c.exceptionTable.isEmpty && decide (c.maxStack ≤ mostOperands) && decide (meth.sig.returnType = rt) && !meth.locks && decide (parseMethodDescriptor y.desc = some meth.sig)) = true) : (Jvm.Cond.code y bytes mx rt).before a s = true := by
  simp only [Bool.and_eq_true, beq_iff_eq, Bool.not_eq_true', decide_eq_true_eq] at h5
  obtain ⟨⟨⟨⟨⟨g1, g2⟩, g3⟩, g4⟩, g5⟩, g6⟩ := h5
  simp [Cond.before, Cond.holds, Cond.value, h1, h2, h3, h4, g1, g2, g3, g4, g5, g6]
def isCode : Jvm.Cond → Bool
  | .code _ _ _ _ => true
  | _ => false
theorem all_split {L : List Jvm.Cond} {P : Jvm.Cond → Bool} (h1 : L.all (fun c => isCode c || P c) = true) (h2 : ∀ c ∈ L.filter isCode, P c = true) : L.all P = true := by
  refine List.all_eq_true.mpr fun c hc => ?_
  have h := List.all_eq_true.mp h1 c hc
  rcases Bool.eq_false_or_eq_true (isCode c) with hi | hi
  · exact h2 c (List.mem_filter.mpr ⟨hc, hi⟩)
  · simpa [hi] using h
set_option maxRecDepth 65536 in
theorem w_c0 : (Jvm.Cond.code x code maxLocals ret).before args0 about1 = true := code_word (m := ⟨1, 1⟩) (meth := k1m1) (c := k1c1) (by decide +kernel) rfl rfl rfl (by decide +kernel)
set_option maxRecDepth 65536 in
theorem w_c1 : (Jvm.Cond.code ({ cls := "com/example/inflight/inflight/protocol/FrameHeader", name := "<init>", desc := "(III)V" } : Jvm.MethodName) prog_84_method_1_code (4 : Nat) (Option.none : Option Jvm.ClassFile.FieldType)).before args0 about1 = true := code_word (m := ⟨2, 0⟩) (meth := k2m0) (c := k2c0) (by decide +kernel) rfl rfl rfl (by decide +kernel)
set_option maxRecDepth 65536 in
theorem w_c2 : (Jvm.Cond.code ({ cls := "java/lang/Object", name := "<init>", desc := "()V" } : Jvm.MethodName) object_method_1_code (1 : Nat) (Option.none : Option Jvm.ClassFile.FieldType)).before args0 about1 = true := code_word (m := ⟨0, 0⟩) (meth := k0m0) (c := k0c0) (by decide +kernel) rfl rfl rfl (by decide +kernel)
set_option maxRecDepth 65536 in
theorem w_c3 : (Jvm.Cond.code ({ cls := "com/example/inflight/inflight/protocol/FrameHeader", name := "equals", desc := "(Ljava/lang/Object;)Z" } : Jvm.MethodName) prog_84_method_8_code (3 : Nat) (Option.some Jvm.ClassFile.FieldType.boolean)).before args0 about1 = true := code_word (m := ⟨2, 1⟩) (meth := k2m1) (c := k2c1) (by decide +kernel) rfl rfl rfl (by decide +kernel)
set_option maxRecDepth 65536 in
theorem w_c4 : (Jvm.Cond.code ({ cls := "java/lang/Integer", name := "valueOf", desc := "(I)Ljava/lang/Integer;" } : Jvm.MethodName) jdk_33_method_22_code (1 : Nat) (Option.some (Jvm.ClassFile.FieldType.object "java/lang/Integer"))).before args0 about1 = true := code_word (m := ⟨8, 0⟩) (meth := k8m0) (c := k8c0) (by decide +kernel) rfl rfl rfl (by decide +kernel)
set_option maxRecDepth 65536 in
theorem w_c5 : (Jvm.Cond.code ({ cls := "java/lang/Integer", name := "<init>", desc := "(I)V" } : Jvm.MethodName) jdk_33_method_23_code (2 : Nat) (Option.none : Option Jvm.ClassFile.FieldType)).before args0 about1 = true := code_word (m := ⟨8, 1⟩) (meth := k8m1) (c := k8c1) (by decide +kernel) rfl rfl rfl (by decide +kernel)
set_option maxRecDepth 65536 in
theorem w_c6 : (Jvm.Cond.code ({ cls := "java/lang/Number", name := "<init>", desc := "()V" } : Jvm.MethodName) jdk_18_method_1_code (1 : Nat) (Option.none : Option Jvm.ClassFile.FieldType)).before args0 about1 = true := code_word (m := ⟨4, 0⟩) (meth := k4m0) (c := k4c0) (by decide +kernel) rfl rfl rfl (by decide +kernel)
def codes1 : List Jvm.Cond := [Jvm.Cond.code x code maxLocals ret, Jvm.Cond.code ({ cls := "com/example/inflight/inflight/protocol/FrameHeader", name := "<init>", desc := "(III)V" } : Jvm.MethodName) prog_84_method_1_code (4 : Nat) (Option.none : Option Jvm.ClassFile.FieldType), Jvm.Cond.code ({ cls := "java/lang/Object", name := "<init>", desc := "()V" } : Jvm.MethodName) object_method_1_code (1 : Nat) (Option.none : Option Jvm.ClassFile.FieldType), Jvm.Cond.code ({ cls := "com/example/inflight/inflight/protocol/FrameHeader", name := "equals", desc := "(Ljava/lang/Object;)Z" } : Jvm.MethodName) prog_84_method_8_code (3 : Nat) (Option.some Jvm.ClassFile.FieldType.boolean), Jvm.Cond.code ({ cls := "java/lang/Integer", name := "valueOf", desc := "(I)Ljava/lang/Integer;" } : Jvm.MethodName) jdk_33_method_22_code (1 : Nat) (Option.some (Jvm.ClassFile.FieldType.object "java/lang/Integer")), Jvm.Cond.code ({ cls := "java/lang/Integer", name := "<init>", desc := "(I)V" } : Jvm.MethodName) jdk_33_method_23_code (2 : Nat) (Option.none : Option Jvm.ClassFile.FieldType), Jvm.Cond.code ({ cls := "java/lang/Number", name := "<init>", desc := "()V" } : Jvm.MethodName) jdk_18_method_1_code (1 : Nat) (Option.none : Option Jvm.ClassFile.FieldType)]
set_option maxRecDepth 65536 in
theorem codes_eq : words1.filter isCode = codes1 := rfl
theorem w_codes : ∀ c ∈ words1.filter isCode, c.before args0 about1 = true := by
  rw [codes_eq]
  intro c hc
  simp only [codes1, List.mem_cons, List.not_mem_nil, or_false] at hc
  rcases hc with rfl | rfl | rfl | rfl | rfl | rfl | rfl
  · exact w_c0
  · exact w_c1
  · exact w_c2
  · exact w_c3
  · exact w_c4
  · exact w_c5
  · exact w_c6
set_option maxRecDepth 65536 in
theorem w_t1 : (words1.take 24).all (fun c => isCode c || c.before args0 about1) = true := by decide +kernel
set_option maxRecDepth 65536 in
theorem w_t2 : ((words1.drop 24).take 24).all (fun c => isCode c || c.before args0 about1) = true := by decide +kernel
set_option maxRecDepth 65536 in
theorem w_t3 : ((words1.drop 24).drop 24).all (fun c => isCode c || c.before args0 about1) = true := by decide +kernel
theorem w_tables : (allAtoms (Jvm.Cond.code x code maxLocals ret :: tables_1)).before args0 about1 = true := by
  rw [allAtoms_all]
  show words1.all (fun c => c.before args0 about1) = true
  refine all_split ?_ w_codes
  rw [← List.take_append_drop 24 words1, List.all_append, w_t1, ← List.take_append_drop 24 (words1.drop 24), List.all_append, w_t2, w_t3]
  rfl
set_option maxRecDepth 65536 in
theorem w_rest : rest_1_c.before args0 about1 = true := by decide +kernel
set_option maxRecDepth 65536 in
theorem w_case : (Jvm.Cond.and given_1 narrow_1).before args0 about1 = true := by decide +kernel
theorem w_applies : (headSpec (Jvm.Cond.code x code maxLocals ret :: tables_1) room_1).applies x e0.platform about1 = true :=
  (Spec.applies_iff w_frames).mpr ⟨w_running, w_runnable, w_alone, w_named, w_hears, w_ripe, w_room, w_tables⟩
theorem atStart : AtStart classFile x code maxLocals ret World_1 tables_1 room_1 Calls_1 rest_1 Pre_1 launch0 p0 e0 about1 theMethod args0 below0 :=
  ⟨lists_1, trivial, launch0.admits_env _ _ _, launch0.least_env, fairChoices_fair.cas, fairChoices_fair.clock, w_frames, w_args, w_heap, w_applies, trivial, w_rest, w_case⟩
end start1
theorem witness_1 : WitnessClaimed_1 := ⟨start1.p0, start1.e0, start1.about1, start1.theMethod, start1.args0, start1.below0, start1.atStart⟩
end Jvm.Pilot.@@N@@
