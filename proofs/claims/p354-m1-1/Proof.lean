import JvmDerived
import JvmDerived.Pilot.@@N@@Statement
import JvmDerived.Pilot.@@N@@Code
set_option linter.unusedVariables false
set_option linter.unusedSimpArgs false
namespace Jvm.Pilot.@@N@@
open Jvm Jvm.ClassFile Sem Op Lib Jvm.Free Jvm.Stand Jvm.LawKit Jvm.RoadKit Bundle Jvm.Pilot.@@N@@.Jvm.D
section OwnKit
variable {p : Program} {l : Launch} {e : Env} {R : Room} {s : State} {m : MethodId} {args : Array Value} {below : List Frame} {meth : Method} {c : Code} {T : State} {locs : List Loc} {cells slots : Nat} {Q : Option Value → Heap → List Loc → Prop} {F : Option Value → State → Prop} {KC KS : Nat} {bs : ByteArray} {pc pc' : Nat} {Ls l' : Array Slot} {st : List Value}
/-- from U the run comes to its end: it returns v, and F says what it leaves -/
def own_End (p : Program) (e : Env) (below : List Frame) (F : Option Value → State → Prop) (U : State) : Prop :=
  ∃ s₂ v, Steps p.tables e below U s₂ ∧ s₂.status = .running ∧ Ended s₂ below (.returned v) ∧ F v s₂
def own_F (s : State) (Q : Option Value → Heap → List Loc → Prop) (KC KS : Nat) : Option Value → State → Prop := fun v s₂ => ∃ L, Q v s₂.heap L ∧ FrameEnd s (.returned v) s₂ L KC KS
def own_FS (s : State) (Q : Option Value → Heap → List Loc → Prop) (KC KS : Nat) : Option Value → State → Prop := fun v s₂ => ∃ L, Q v s₂.heap L ∧ ReturnedEndW s (.returned v) s₂ L KC KS
theorem own_body {U : State} (h : own_End p e below (own_F s Q KC KS) U) : ∃ s₂ o, Steps p.tables e below U s₂ ∧ s₂.status = .running ∧ Ended s₂ below o ∧ ∃ v L, o = .returned v ∧ Q v s₂.heap L ∧ FrameEnd s o s₂ L KC KS := by
  obtain ⟨s2, v, h1, h2, h3, L, h4, h5⟩ := h
  exact ⟨s2, _, h1, h2, h3, v, L, rfl, h4, h5⟩
theorem own_bodyS {U : State} (h : own_End p e below (own_FS s Q KC KS) U) : ∃ s₂ o, Steps p.tables e below U s₂ ∧ s₂.status = .running ∧ Ended s₂ below o ∧ ∃ v L, o = .returned v ∧ Q v s₂.heap L ∧ ReturnedEndW s o s₂ L KC KS := by
  obtain ⟨s2, v, h1, h2, h3, L, h4, h5⟩ := h
  exact ⟨s2, _, h1, h2, h3, v, L, rfl, h4, h5⟩
theorem own_step {U U' : State} (k : ∀ t, Steps p.tables e below U' t → Steps p.tables e below U t) (h : own_End p e below F U') : own_End p e below F U := by
  obtain ⟨s2, v, h1, h2⟩ := h
  exact ⟨s2, v, k _ h1, h2⟩
theorem own_trans {U U' : State} (k : Steps p.tables e below U U') (h : own_End p e below F U') : own_End p e below F U := by
  obtain ⟨s2, v, h1, h2⟩ := h
  exact ⟨s2, v, k.trans h1, h2⟩
theorem own_mono {cells' slots' : Nat} (X : Stand p l e R s m args below meth c T locs cells slots) (hc : cells ≤ cells') (hs : slots ≤ slots') : Stand p l e R s m args below meth c T locs cells' slots' := X.mono hc hs
theorem own_selPriv {y : MethodName} {n : Nat} (wi : (Cond.instantiable y.cls n).before args s = true) (hp : s.PrivateAt y) (hi : (Cond.instanceMethod y).before args s = true) (hy : y.cls ≠ "java/lang/invoke/MethodHandle" ∧ y.cls ≠ "java/lang/invoke/VarHandle") : (Cond.selects y.cls y y).before args s = true := by
  obtain ⟨c, k, h1, h2, -, h4, -⟩ := Cond.instantiable_spec wi
  exact selects_self_of_private h1 h2 (by simp only [Bool.or_eq_false_iff] at h4; exact h4.1) hp hi hy
theorem own_sta0 {Z : State} {h h' : Heap} {C n d : String} {v : Value} (S : Sta Z h C n d v) (K : Keep h h' []) : Sta Z h' C n d v := by
  obtain ⟨cf, i, k, f, st, cell, h1, h2, h3, h4, h5, h6, h7⟩ := S
  exact ⟨cf, i, k, f, st, cell, h1, h2, h3, h4, K.2.1 _ _ h5 nin0, h6, h7⟩
theorem own_sta1 {Z : State} {h h' : Heap} {C n d D : String} {v : Value} {a : Addr} (S : Sta Z h C n d v) (K : Keep h h' [a]) (E : Exa Z h a D) : Sta Z h' C n d v := by
  obtain ⟨cf, i, k, f, st, cell, h1, h2, h3, h4, h5, h6, h7⟩ := S
  obtain ⟨c', k', g1, -, -, g4, -⟩ := E
  have ne : st ≠ a := fun q => by subst q; cases h5.symm.trans g1; rw [g4] at h6; cases h6
  exact ⟨cf, i, k, f, st, cell, h1, h2, h3, h4, K.2.1 _ _ h5 (ninS ne nin0), h6, h7⟩
theorem own_cat1 {w : Value} (h : w.isRef = true) : w.category = 1 := by rcases ref_cases h with rfl | ⟨z, rfl⟩ <;> rfl
theorem own_nar {w : Value} {t : FieldType} (h : w.isRef = true) (ht : t.isReference = true) : narrow t w = w := by rcases ref_cases h with rfl | ⟨z, rfl⟩ <;> cases t <;> first | rfl | cases ht
theorem own_fit {w : Value} {t : FieldType} (h : w.isRef = true) (ht : t.isReference = true) : fits t w = true := by rcases ref_cases h with rfl | ⟨z, rfl⟩ <;> cases t <;> first | rfl | cases ht
/-- what the frame says where the run leaves -/
def own_Lv (F : Option Value → State → Prop) (s T : State) (locs : List Loc) (cells slots : Nat) (v : Option Value) : Prop := ∀ fs, s.WarmedH (T.setFrames fs).vm → s.sameButNew ({ T.setFrames fs with vm := s.vm } : State) locs cells slots → F v (T.setFrames fs)
theorem own_lv {v : Option Value} (hQ : Q v T.heap locs) (hc : cells ≤ KC) (hs : slots ≤ KS) : own_Lv (own_F s Q KC KS) s T locs cells slots v := fun fs hW hsm => ⟨locs, hQ, ⟨_, rfl⟩, hW, hsm.mono hc hs⟩
theorem own_lvS {v : Option Value} {vm₁ : Vm} {n : Nat} (hS : s.Since vm₁ n) (hn : n ≤ T.heap.size) (hQ : Q v T.heap locs) (hc : cells ≤ KC) (hs : slots ≤ KS) : own_Lv (own_FS s Q KC KS) (s.setVm vm₁) T locs cells slots v := fun fs hW hsm => by
  obtain ⟨a, b, c'⟩ := hS.ended (U := T.setFrames fs) hW hn hsm
  exact ⟨locs, hQ, ⟨_, rfl⟩, a, b, c'.mono hc hs⟩
theorem own_retW (X : Stand p l e R s m args below meth c T locs cells slots) (hx : p.tables.exec = Jvm.exec) (hlk : meth.locks = false) (hby : c.code = bs) {w : Value} {t : FieldType} {i : Instr} {rest : List Value} (hret : meth.sig.returnType = some t) (hn : narrow t w = w)
    (hi : (i = .ireturn ∧ (t = .int ∨ t = .boolean ∨ t = .byte ∨ t = .char ∨ t = .short) ∧ ∃ z, w = .int z) ∨ (i = .lreturn ∧ t = .long ∧ ∃ z, w = .long z) ∨ (i = .dreturn ∧ t = .double ∧ ∃ z, w = .double z) ∨ (i = .freturn ∧ t = .float ∧ ∃ z, w = .float z) ∨ (i = .areturn ∧ t.isReference = true ∧ w.isRef = true))
    (hd : decode bs pc = .ok (i, 1)) (hF : own_Lv F s T locs cells slots (some w)) : own_End p e below F (T.setTop (mkF m pc Ls (w :: rest))) := by
  obtain ⟨fs, hr, hrun, hended, hW, hsame⟩ := X.leave (v := some w) (fun h => by rw [hret] at h; cases h) hlk
  exact ⟨_, _, retOut X hx hret hn hi (hb hby hd) hr, hrun, hended, hF fs hW hsame⟩
theorem own_ireturn (X : Stand p l e R s m args below meth c T locs cells slots) (hx : p.tables.exec = Jvm.exec) (hlk : meth.locks = false) (hby : c.code = bs) {z : Int32} {rest : List Value} (hret : meth.sig.returnType = some .int)
    (hd : decode bs pc = .ok (.ireturn, 1)) (hF : own_Lv F s T locs cells slots (some (.int z))) : own_End p e below F (T.setTop (mkF m pc Ls (.int z :: rest))) :=
  own_retW X hx hlk hby hret rfl (Or.inl ⟨rfl, Or.inl rfl, _, rfl⟩) hd hF
theorem own_zreturn (X : Stand p l e R s m args below meth c T locs cells slots) (hx : p.tables.exec = Jvm.exec) (hlk : meth.locks = false) (hby : c.code = bs) {z : Int32} {rest : List Value} (hret : meth.sig.returnType = some .boolean) (hz : z = 0 ∨ z = 1)
    (hd : decode bs pc = .ok (.ireturn, 1)) (hF : own_Lv F s T locs cells slots (some (.int z))) : own_End p e below F (T.setTop (mkF m pc Ls (.int z :: rest))) :=
  own_retW X hx hlk hby hret (by rcases hz with rfl | rfl <;> rfl) (Or.inl ⟨rfl, Or.inr (Or.inl rfl), _, rfl⟩) hd hF
theorem own_breturn (X : Stand p l e R s m args below meth c T locs cells slots) (hx : p.tables.exec = Jvm.exec) (hlk : meth.locks = false) (hby : c.code = bs) {z : Int32} {rest : List Value} (hret : meth.sig.returnType = some .byte) (hz : z.toInt8.toInt32 = z)
    (hd : decode bs pc = .ok (.ireturn, 1)) (hF : own_Lv F s T locs cells slots (some (.int z))) : own_End p e below F (T.setTop (mkF m pc Ls (.int z :: rest))) :=
  own_retW X hx hlk hby hret (show Value.int z.toInt8.toInt32 = .int z by rw [hz]) (Or.inl ⟨rfl, Or.inr (Or.inr (Or.inl rfl)), _, rfl⟩) hd hF
theorem own_lreturn (X : Stand p l e R s m args below meth c T locs cells slots) (hx : p.tables.exec = Jvm.exec) (hlk : meth.locks = false) (hby : c.code = bs) {z : Int64} {rest : List Value} (hret : meth.sig.returnType = some .long)
    (hd : decode bs pc = .ok (.lreturn, 1)) (hF : own_Lv F s T locs cells slots (some (.long z))) : own_End p e below F (T.setTop (mkF m pc Ls (.long z :: rest))) :=
  own_retW X hx hlk hby hret rfl (Or.inr (Or.inl ⟨rfl, rfl, _, rfl⟩)) hd hF
theorem own_areturn (X : Stand p l e R s m args below meth c T locs cells slots) (hx : p.tables.exec = Jvm.exec) (hlk : meth.locks = false) (hby : c.code = bs) {w : Value} {t : FieldType} {rest : List Value} (hret : meth.sig.returnType = some t) (ht : t.isReference = true) (hw : w.isRef = true)
    (hd : decode bs pc = .ok (.areturn, 1)) (hF : own_Lv F s T locs cells slots (some w)) : own_End p e below F (T.setTop (mkF m pc Ls (w :: rest))) :=
  own_retW X hx hlk hby hret (own_nar hw ht) (Or.inr (Or.inr (Or.inr (Or.inr ⟨rfl, ht, hw⟩)))) hd hF
theorem own_return (X : Stand p l e R s m args below meth c T locs cells slots) (hx : p.tables.exec = Jvm.exec) (hlk : meth.locks = false) (hby : c.code = bs) (hret : meth.sig.returnType = none)
    (hd : decode bs pc = .ok (.return_, 1)) (hF : own_Lv F s T locs cells slots none) : own_End p e below F (T.setTop (mkF m pc Ls [])) := by
  obtain ⟨fs, hr, hrun, hended, hW, hsame⟩ := X.leave (v := none) (fun _ => rfl) hlk
  exact ⟨_, _, X.returnOut hx hret (hb hby hd) hr, hrun, hended, hF fs hW hsame⟩
section Plain
theorem own_iload (X : Stand p l e R s m args below meth c T locs cells slots) (hx : p.tables.exec = Jvm.exec) (hby : c.code = bs) {k : Nat} {v : Int32} (hd : decode bs pc = .ok (.iload k, 2)) (hp : pc + 2 = pc') (hl : Ls[k]? = some (.val (.int v))) (h : own_End p e below F (T.setTop (mkF m pc' Ls (.int v :: st)))) : own_End p e below F (T.setTop (mkF m pc Ls st)) := by
  subst hp; exact own_step (fun t k => XS.iload X.here hx rfl (hb hby hd) hl k) h
theorem own_iloadN (X : Stand p l e R s m args below meth c T locs cells slots) (hx : p.tables.exec = Jvm.exec) (hby : c.code = bs) {k : Fin 4} {v : Int32} (hd : decode bs pc = .ok (.iload_n k, 1)) (hp : pc + 1 = pc') (hl : Ls[k.val]? = some (.val (.int v))) (h : own_End p e below F (T.setTop (mkF m pc' Ls (.int v :: st)))) : own_End p e below F (T.setTop (mkF m pc Ls st)) := by
  subst hp; exact own_step (fun t k => XS.iloadN X.here hx rfl (hb hby hd) hl k) h
theorem own_lload (X : Stand p l e R s m args below meth c T locs cells slots) (hx : p.tables.exec = Jvm.exec) (hby : c.code = bs) {k : Nat} {v : Int64} (hd : decode bs pc = .ok (.lload k, 2)) (hp : pc + 2 = pc') (hl : Ls[k]? = some (.val (.long v))) (h : own_End p e below F (T.setTop (mkF m pc' Ls (.long v :: st)))) : own_End p e below F (T.setTop (mkF m pc Ls st)) := by
  subst hp; exact own_step (fun t k => XS.lload X.here hx rfl (hb hby hd) hl k) h
theorem own_lloadN (X : Stand p l e R s m args below meth c T locs cells slots) (hx : p.tables.exec = Jvm.exec) (hby : c.code = bs) {k : Fin 4} {v : Int64} (hd : decode bs pc = .ok (.lload_n k, 1)) (hp : pc + 1 = pc') (hl : Ls[k.val]? = some (.val (.long v))) (h : own_End p e below F (T.setTop (mkF m pc' Ls (.long v :: st)))) : own_End p e below F (T.setTop (mkF m pc Ls st)) := by
  subst hp; exact own_step (fun t k => XS.lloadN X.here hx rfl (hb hby hd) hl k) h
theorem own_aload (X : Stand p l e R s m args below meth c T locs cells slots) (hx : p.tables.exec = Jvm.exec) (hby : c.code = bs) {k : Nat} {v : Value} (hd : decode bs pc = .ok (.aload k, 2)) (hp : pc + 2 = pc') (hl : Ls[k]? = some (.val v)) (hv : v.isRef = true) (h : own_End p e below F (T.setTop (mkF m pc' Ls (v :: st)))) : own_End p e below F (T.setTop (mkF m pc Ls st)) := by
  subst hp; exact own_step (fun t k => XS.aload X.here hx rfl (hb hby hd) hl hv k) h
theorem own_aloadN (X : Stand p l e R s m args below meth c T locs cells slots) (hx : p.tables.exec = Jvm.exec) (hby : c.code = bs) {k : Fin 4} {v : Value} (hd : decode bs pc = .ok (.aload_n k, 1)) (hp : pc + 1 = pc') (hl : Ls[k.val]? = some (.val v)) (hv : v.isRef = true) (h : own_End p e below F (T.setTop (mkF m pc' Ls (v :: st)))) : own_End p e below F (T.setTop (mkF m pc Ls st)) := by
  subst hp; exact own_step (fun t k => XS.aloadN X.here hx rfl (hb hby hd) hl hv k) h
theorem own_istore (X : Stand p l e R s m args below meth c T locs cells slots) (hx : p.tables.exec = Jvm.exec) (hby : c.code = bs) {k : Nat} {x : Int32} (hd : decode bs pc = .ok (.istore k, 2)) (hp : pc + 2 = pc') (hl : storeLocals Ls k (.int x) = some l') (h : own_End p e below F (T.setTop (mkF m pc' l' st))) : own_End p e below F (T.setTop (mkF m pc Ls (.int x :: st))) := by
  subst hp; exact own_step (fun t k => XS.istore X.here hx rfl (hb hby hd) rfl hl k) h
theorem own_istoreN (X : Stand p l e R s m args below meth c T locs cells slots) (hx : p.tables.exec = Jvm.exec) (hby : c.code = bs) {k : Fin 4} {x : Int32} (hd : decode bs pc = .ok (.istore_n k, 1)) (hp : pc + 1 = pc') (hl : storeLocals Ls k.val (.int x) = some l') (h : own_End p e below F (T.setTop (mkF m pc' l' st))) : own_End p e below F (T.setTop (mkF m pc Ls (.int x :: st))) := by
  subst hp; exact own_step (fun t k => XS.istoreN X.here hx rfl (hb hby hd) rfl hl k) h
theorem own_lstore (X : Stand p l e R s m args below meth c T locs cells slots) (hx : p.tables.exec = Jvm.exec) (hby : c.code = bs) {k : Nat} {x : Int64} (hd : decode bs pc = .ok (.lstore k, 2)) (hp : pc + 2 = pc') (hl : storeLocals Ls k (.long x) = some l') (h : own_End p e below F (T.setTop (mkF m pc' l' st))) : own_End p e below F (T.setTop (mkF m pc Ls (.long x :: st))) := by
  subst hp; exact own_step (fun t k => XS.lstore X.here hx rfl (hb hby hd) rfl hl k) h
theorem own_lstoreN (X : Stand p l e R s m args below meth c T locs cells slots) (hx : p.tables.exec = Jvm.exec) (hby : c.code = bs) {k : Fin 4} {x : Int64} (hd : decode bs pc = .ok (.lstore_n k, 1)) (hp : pc + 1 = pc') (hl : storeLocals Ls k.val (.long x) = some l') (h : own_End p e below F (T.setTop (mkF m pc' l' st))) : own_End p e below F (T.setTop (mkF m pc Ls (.long x :: st))) := by
  subst hp; exact own_step (fun t k => XS.lstoreN X.here hx rfl (hb hby hd) rfl hl k) h
theorem own_astore (X : Stand p l e R s m args below meth c T locs cells slots) (hx : p.tables.exec = Jvm.exec) (hby : c.code = bs) {k : Nat} {x : Value} (hd : decode bs pc = .ok (.astore k, 2)) (hp : pc + 2 = pc') (hv : x.isRef = true) (hl : storeLocals Ls k x = some l') (h : own_End p e below F (T.setTop (mkF m pc' l' st))) : own_End p e below F (T.setTop (mkF m pc Ls (x :: st))) := by
  subst hp; exact own_step (fun t k => XS.astore X.here hx rfl (hb hby hd) rfl hv hl k) h
theorem own_astoreN (X : Stand p l e R s m args below meth c T locs cells slots) (hx : p.tables.exec = Jvm.exec) (hby : c.code = bs) {k : Fin 4} {x : Value} (hd : decode bs pc = .ok (.astore_n k, 1)) (hp : pc + 1 = pc') (hv : x.isRef = true) (hl : storeLocals Ls k.val x = some l') (h : own_End p e below F (T.setTop (mkF m pc' l' st))) : own_End p e below F (T.setTop (mkF m pc Ls (x :: st))) := by
  subst hp; exact own_step (fun t k => XS.astoreN X.here hx rfl (hb hby hd) rfl hv hl k) h
theorem own_iinc (X : Stand p l e R s m args below meth c T locs cells slots) (hx : p.tables.exec = Jvm.exec) (hby : c.code = bs) {k : Nat} {cst : Int} {x y : Int32} (hd : decode bs pc = .ok (.iinc k cst, 3)) (hp : pc + 3 = pc') (hl : Ls[k]? = some (.val (.int x))) (hy : x + Int32.ofInt cst = y) (hl' : storeLocals Ls k (.int y) = some l') (h : own_End p e below F (T.setTop (mkF m pc' l' st))) : own_End p e below F (T.setTop (mkF m pc Ls st)) := by
  subst hp hy; exact own_step (fun t k => XS.iinc X.here hx rfl (hb hby hd) hl hl' k) h
theorem own_iconst (X : Stand p l e R s m args below meth c T locs cells slots) (hx : p.tables.exec = Jvm.exec) (hby : c.code = bs) {i : Int} {n : Int32} (hd : decode bs pc = .ok (.iconst i, 1)) (hp : pc + 1 = pc') (hn : Int32.ofInt i = n) (h : own_End p e below F (T.setTop (mkF m pc' Ls (.int n :: st)))) : own_End p e below F (T.setTop (mkF m pc Ls st)) := by
  subst hp hn; exact own_step (fun t k => XS.iconst X.here hx rfl (hb hby hd) k) h
theorem own_bipush (X : Stand p l e R s m args below meth c T locs cells slots) (hx : p.tables.exec = Jvm.exec) (hby : c.code = bs) {i : Int} {n : Int32} (hd : decode bs pc = .ok (.bipush i, 2)) (hp : pc + 2 = pc') (hn : (Int8.ofInt i).toInt32 = n) (h : own_End p e below F (T.setTop (mkF m pc' Ls (.int n :: st)))) : own_End p e below F (T.setTop (mkF m pc Ls st)) := by
  subst hp hn; exact own_step (fun t k => XS.bipush X.here hx rfl (hb hby hd) k) h
theorem own_sipush (X : Stand p l e R s m args below meth c T locs cells slots) (hx : p.tables.exec = Jvm.exec) (hby : c.code = bs) {i : Int} {n : Int32} (hd : decode bs pc = .ok (.sipush i, 3)) (hp : pc + 3 = pc') (hn : (Int16.ofInt i).toInt32 = n) (h : own_End p e below F (T.setTop (mkF m pc' Ls (.int n :: st)))) : own_End p e below F (T.setTop (mkF m pc Ls st)) := by
  subst hp hn; exact own_step (fun t k => XS.sipush X.here hx rfl (hb hby hd) k) h
theorem own_lconst (X : Stand p l e R s m args below meth c T locs cells slots) (hx : p.tables.exec = Jvm.exec) (hby : c.code = bs) {i : Fin 2} {n : Int64} (hd : decode bs pc = .ok (.lconst i, 1)) (hp : pc + 1 = pc') (hn : Int64.ofNat i.val = n) (h : own_End p e below F (T.setTop (mkF m pc' Ls (.long n :: st)))) : own_End p e below F (T.setTop (mkF m pc Ls st)) := by
  subst hp hn; exact own_step (fun t k => XS.lconst X.here hx rfl (hb hby hd) k) h
theorem own_aconst_null (X : Stand p l e R s m args below meth c T locs cells slots) (hx : p.tables.exec = Jvm.exec) (hby : c.code = bs) (hd : decode bs pc = .ok (.aconst_null, 1)) (hp : pc + 1 = pc') (h : own_End p e below F (T.setTop (mkF m pc' Ls (.null :: st)))) : own_End p e below F (T.setTop (mkF m pc Ls st)) := by
  subst hp; exact own_step (fun t k => XS.aconstNull X.here hx rfl (hb hby hd) k) h
theorem own_goto (X : Stand p l e R s m args below meth c T locs cells slots) (hx : p.tables.exec = Jvm.exec) (hby : c.code = bs) {o : Int} (hd : decode bs pc = .ok (.goto o, 3)) (ho : 0 ≤ (pc : Int) + o) (hp : ((pc : Int) + o).toNat = pc') (h : own_End p e below F (T.setTop (mkF m pc' Ls st))) : own_End p e below F (T.setTop (mkF m pc Ls st)) :=
  own_step (fun t k => XS.goto X.here hx rfl (pc0 := pc) (pc' := pc') rfl (hb hby hd) ho hp k) h
theorem own_dup (X : Stand p l e R s m args below meth c T locs cells slots) (hx : p.tables.exec = Jvm.exec) (hby : c.code = bs) {x : Value} (hd : decode bs pc = .ok (.dup, 1)) (hp : pc + 1 = pc') (hc : x.category = 1) (h : own_End p e below F (T.setTop (mkF m pc' Ls (x :: x :: st)))) : own_End p e below F (T.setTop (mkF m pc Ls (x :: st))) := by
  subst hp; exact own_step (fun t k => XS.dup X.here hx rfl (hb hby hd) rfl hc k) h
theorem own_dup_x1 (X : Stand p l e R s m args below meth c T locs cells slots) (hx : p.tables.exec = Jvm.exec) (hby : c.code = bs) {x y : Value} (hd : decode bs pc = .ok (.dup_x1, 1)) (hp : pc + 1 = pc') (hc : x.category = 1) (hc2 : y.category = 1) (h : own_End p e below F (T.setTop (mkF m pc' Ls (x :: y :: x :: st)))) : own_End p e below F (T.setTop (mkF m pc Ls (x :: y :: st))) := by
  subst hp; exact own_step (fun t k => XS.dupX1 X.here hx rfl (hb hby hd) rfl hc hc2 k) h
theorem own_pop (X : Stand p l e R s m args below meth c T locs cells slots) (hx : p.tables.exec = Jvm.exec) (hby : c.code = bs) {x : Value} (hd : decode bs pc = .ok (.pop, 1)) (hp : pc + 1 = pc') (hc : x.category = 1) (h : own_End p e below F (T.setTop (mkF m pc' Ls st))) : own_End p e below F (T.setTop (mkF m pc Ls (x :: st))) := by
  subst hp; exact own_step (fun t k => XS.pop X.here hx rfl (hb hby hd) rfl hc k) h
theorem own_pop2 (X : Stand p l e R s m args below meth c T locs cells slots) (hx : p.tables.exec = Jvm.exec) (hby : c.code = bs) {x : Int64} (hd : decode bs pc = .ok (.pop2, 1)) (hp : pc + 1 = pc') (h : own_End p e below F (T.setTop (mkF m pc' Ls st))) : own_End p e below F (T.setTop (mkF m pc Ls (.long x :: st))) := by
  subst hp
  refine own_step (fun t k => ?_) h
  have hd' := hb hby hd
  have hc : (Value.long x).category = 2 := rfl
  jvm_step X.here [X.here.top, hx, hd', Op.pop2.wp_sem, hc]
  exact k
theorem own_iadd (X : Stand p l e R s m args below meth c T locs cells slots) (hx : p.tables.exec = Jvm.exec) (hby : c.code = bs) {x y : Int32} (hd : decode bs pc = .ok (.iadd, 1)) (hp : pc + 1 = pc') (h : own_End p e below F (T.setTop (mkF m pc' Ls (.int (x + y) :: st)))) : own_End p e below F (T.setTop (mkF m pc Ls (.int y :: .int x :: st))) := by
  subst hp; exact own_step (fun t k => XS.iadd X.here hx rfl (hb hby hd) rfl k) h
theorem own_isub (X : Stand p l e R s m args below meth c T locs cells slots) (hx : p.tables.exec = Jvm.exec) (hby : c.code = bs) {x y : Int32} (hd : decode bs pc = .ok (.isub, 1)) (hp : pc + 1 = pc') (h : own_End p e below F (T.setTop (mkF m pc' Ls (.int (x - y) :: st)))) : own_End p e below F (T.setTop (mkF m pc Ls (.int y :: .int x :: st))) := by
  subst hp; exact own_step (fun t k => XS.isub X.here hx rfl (hb hby hd) rfl k) h
theorem own_imul (X : Stand p l e R s m args below meth c T locs cells slots) (hx : p.tables.exec = Jvm.exec) (hby : c.code = bs) {x y : Int32} (hd : decode bs pc = .ok (.imul, 1)) (hp : pc + 1 = pc') (h : own_End p e below F (T.setTop (mkF m pc' Ls (.int (x * y) :: st)))) : own_End p e below F (T.setTop (mkF m pc Ls (.int y :: .int x :: st))) := by
  subst hp; exact own_step (fun t k => XS.imul X.here hx rfl (hb hby hd) rfl k) h
theorem own_iand (X : Stand p l e R s m args below meth c T locs cells slots) (hx : p.tables.exec = Jvm.exec) (hby : c.code = bs) {x y : Int32} (hd : decode bs pc = .ok (.iand, 1)) (hp : pc + 1 = pc') (h : own_End p e below F (T.setTop (mkF m pc' Ls (.int (x &&& y) :: st)))) : own_End p e below F (T.setTop (mkF m pc Ls (.int y :: .int x :: st))) := by
  subst hp; exact own_step (fun t k => XS.iand X.here hx rfl (hb hby hd) rfl k) h
theorem own_ior (X : Stand p l e R s m args below meth c T locs cells slots) (hx : p.tables.exec = Jvm.exec) (hby : c.code = bs) {x y : Int32} (hd : decode bs pc = .ok (.ior, 1)) (hp : pc + 1 = pc') (h : own_End p e below F (T.setTop (mkF m pc' Ls (.int (x ||| y) :: st)))) : own_End p e below F (T.setTop (mkF m pc Ls (.int y :: .int x :: st))) := by
  subst hp; exact own_step (fun t k => XS.ior X.here hx rfl (hb hby hd) rfl k) h
theorem own_ixor (X : Stand p l e R s m args below meth c T locs cells slots) (hx : p.tables.exec = Jvm.exec) (hby : c.code = bs) {x y : Int32} (hd : decode bs pc = .ok (.ixor, 1)) (hp : pc + 1 = pc') (h : own_End p e below F (T.setTop (mkF m pc' Ls (.int (x ^^^ y) :: st)))) : own_End p e below F (T.setTop (mkF m pc Ls (.int y :: .int x :: st))) := by
  subst hp; exact own_step (fun t k => XS.ixor X.here hx rfl (hb hby hd) rfl k) h
theorem own_ladd (X : Stand p l e R s m args below meth c T locs cells slots) (hx : p.tables.exec = Jvm.exec) (hby : c.code = bs) {x y : Int64} (hd : decode bs pc = .ok (.ladd, 1)) (hp : pc + 1 = pc') (h : own_End p e below F (T.setTop (mkF m pc' Ls (.long (x + y) :: st)))) : own_End p e below F (T.setTop (mkF m pc Ls (.long y :: .long x :: st))) := by
  subst hp; exact own_step (fun t k => XS.ladd X.here hx rfl (hb hby hd) rfl k) h
theorem own_lsub (X : Stand p l e R s m args below meth c T locs cells slots) (hx : p.tables.exec = Jvm.exec) (hby : c.code = bs) {x y : Int64} (hd : decode bs pc = .ok (.lsub, 1)) (hp : pc + 1 = pc') (h : own_End p e below F (T.setTop (mkF m pc' Ls (.long (x - y) :: st)))) : own_End p e below F (T.setTop (mkF m pc Ls (.long y :: .long x :: st))) := by
  subst hp; exact own_step (fun t k => XS.lsub X.here hx rfl (hb hby hd) rfl k) h
theorem own_lmul (X : Stand p l e R s m args below meth c T locs cells slots) (hx : p.tables.exec = Jvm.exec) (hby : c.code = bs) {x y : Int64} (hd : decode bs pc = .ok (.lmul, 1)) (hp : pc + 1 = pc') (h : own_End p e below F (T.setTop (mkF m pc' Ls (.long (x * y) :: st)))) : own_End p e below F (T.setTop (mkF m pc Ls (.long y :: .long x :: st))) := by
  subst hp; exact own_step (fun t k => XS.lmul X.here hx rfl (hb hby hd) rfl k) h
theorem own_land (X : Stand p l e R s m args below meth c T locs cells slots) (hx : p.tables.exec = Jvm.exec) (hby : c.code = bs) {x y : Int64} (hd : decode bs pc = .ok (.land, 1)) (hp : pc + 1 = pc') (h : own_End p e below F (T.setTop (mkF m pc' Ls (.long (x &&& y) :: st)))) : own_End p e below F (T.setTop (mkF m pc Ls (.long y :: .long x :: st))) := by
  subst hp; exact own_step (fun t k => XS.land X.here hx rfl (hb hby hd) rfl k) h
theorem own_lor (X : Stand p l e R s m args below meth c T locs cells slots) (hx : p.tables.exec = Jvm.exec) (hby : c.code = bs) {x y : Int64} (hd : decode bs pc = .ok (.lor, 1)) (hp : pc + 1 = pc') (h : own_End p e below F (T.setTop (mkF m pc' Ls (.long (x ||| y) :: st)))) : own_End p e below F (T.setTop (mkF m pc Ls (.long y :: .long x :: st))) := by
  subst hp; exact own_step (fun t k => XS.lor X.here hx rfl (hb hby hd) rfl k) h
theorem own_lxor (X : Stand p l e R s m args below meth c T locs cells slots) (hx : p.tables.exec = Jvm.exec) (hby : c.code = bs) {x y : Int64} (hd : decode bs pc = .ok (.lxor, 1)) (hp : pc + 1 = pc') (h : own_End p e below F (T.setTop (mkF m pc' Ls (.long (x ^^^ y) :: st)))) : own_End p e below F (T.setTop (mkF m pc Ls (.long y :: .long x :: st))) := by
  subst hp; exact own_step (fun t k => XS.lxor X.here hx rfl (hb hby hd) rfl k) h
theorem own_ishl (X : Stand p l e R s m args below meth c T locs cells slots) (hx : p.tables.exec = Jvm.exec) (hby : c.code = bs) {x y : Int32} (hd : decode bs pc = .ok (.ishl, 1)) (hp : pc + 1 = pc') (h : own_End p e below F (T.setTop (mkF m pc' Ls (.int (x <<< (y &&& 31)) :: st)))) : own_End p e below F (T.setTop (mkF m pc Ls (.int y :: .int x :: st))) := by
  subst hp; exact own_step (fun t k => XS.ishl X.here hx rfl (hb hby hd) rfl k) h
theorem own_ishr (X : Stand p l e R s m args below meth c T locs cells slots) (hx : p.tables.exec = Jvm.exec) (hby : c.code = bs) {x y : Int32} (hd : decode bs pc = .ok (.ishr, 1)) (hp : pc + 1 = pc') (h : own_End p e below F (T.setTop (mkF m pc' Ls (.int (x >>> (y &&& 31)) :: st)))) : own_End p e below F (T.setTop (mkF m pc Ls (.int y :: .int x :: st))) := by
  subst hp; exact own_step (fun t k => XS.ishr X.here hx rfl (hb hby hd) rfl k) h
theorem own_iushr (X : Stand p l e R s m args below meth c T locs cells slots) (hx : p.tables.exec = Jvm.exec) (hby : c.code = bs) {x y : Int32} (hd : decode bs pc = .ok (.iushr, 1)) (hp : pc + 1 = pc') (h : own_End p e below F (T.setTop (mkF m pc' Ls (.int ((x.toUInt32 >>> (y &&& 31).toUInt32).toInt32) :: st)))) : own_End p e below F (T.setTop (mkF m pc Ls (.int y :: .int x :: st))) := by
  subst hp; exact own_step (fun t k => XS.iushr X.here hx rfl (hb hby hd) rfl k) h
theorem own_lshl (X : Stand p l e R s m args below meth c T locs cells slots) (hx : p.tables.exec = Jvm.exec) (hby : c.code = bs) {x : Int64} {y : Int32} (hd : decode bs pc = .ok (.lshl, 1)) (hp : pc + 1 = pc') (h : own_End p e below F (T.setTop (mkF m pc' Ls (.long (x <<< (y &&& 0x3f).toInt64) :: st)))) : own_End p e below F (T.setTop (mkF m pc Ls (.int y :: .long x :: st))) := by
  subst hp; exact own_step (fun t k => XS.lshl X.here hx rfl (hb hby hd) rfl k) h
theorem own_lshr (X : Stand p l e R s m args below meth c T locs cells slots) (hx : p.tables.exec = Jvm.exec) (hby : c.code = bs) {x : Int64} {y : Int32} (hd : decode bs pc = .ok (.lshr, 1)) (hp : pc + 1 = pc') (h : own_End p e below F (T.setTop (mkF m pc' Ls (.long (x >>> (y &&& 0x3f).toInt64) :: st)))) : own_End p e below F (T.setTop (mkF m pc Ls (.int y :: .long x :: st))) := by
  subst hp; exact own_step (fun t k => XS.lshr X.here hx rfl (hb hby hd) rfl k) h
theorem own_lushr (X : Stand p l e R s m args below meth c T locs cells slots) (hx : p.tables.exec = Jvm.exec) (hby : c.code = bs) {x : Int64} {y : Int32} (hd : decode bs pc = .ok (.lushr, 1)) (hp : pc + 1 = pc') (h : own_End p e below F (T.setTop (mkF m pc' Ls (.long ((x.toUInt64 >>> (y &&& 0x3f).toInt64.toUInt64).toInt64) :: st)))) : own_End p e below F (T.setTop (mkF m pc Ls (.int y :: .long x :: st))) := by
  subst hp; exact own_step (fun t k => XS.lushr X.here hx rfl (hb hby hd) rfl k) h
theorem own_lcmp (X : Stand p l e R s m args below meth c T locs cells slots) (hx : p.tables.exec = Jvm.exec) (hby : c.code = bs) {x y : Int64} (hd : decode bs pc = .ok (.lcmp, 1)) (hp : pc + 1 = pc') (h : own_End p e below F (T.setTop (mkF m pc' Ls (.int (lcmpW x y) :: st)))) : own_End p e below F (T.setTop (mkF m pc Ls (.long y :: .long x :: st))) := by
  subst hp; exact own_step (fun t k => XS.lcmp X.here hx rfl (hb hby hd) rfl k) h
theorem own_ineg (X : Stand p l e R s m args below meth c T locs cells slots) (hx : p.tables.exec = Jvm.exec) (hby : c.code = bs) {x : Int32} (hd : decode bs pc = .ok (.ineg, 1)) (hp : pc + 1 = pc') (h : own_End p e below F (T.setTop (mkF m pc' Ls (.int (-x) :: st)))) : own_End p e below F (T.setTop (mkF m pc Ls (.int x :: st))) := by
  subst hp; exact own_step (fun t k => XS.ineg X.here hx rfl (hb hby hd) rfl k) h
theorem own_i2b (X : Stand p l e R s m args below meth c T locs cells slots) (hx : p.tables.exec = Jvm.exec) (hby : c.code = bs) {x : Int32} (hd : decode bs pc = .ok (.i2b, 1)) (hp : pc + 1 = pc') (h : own_End p e below F (T.setTop (mkF m pc' Ls (.int (x.toInt8.toInt32) :: st)))) : own_End p e below F (T.setTop (mkF m pc Ls (.int x :: st))) := by
  subst hp; exact own_step (fun t k => XS.i2b X.here hx rfl (hb hby hd) rfl k) h
theorem own_i2s (X : Stand p l e R s m args below meth c T locs cells slots) (hx : p.tables.exec = Jvm.exec) (hby : c.code = bs) {x : Int32} (hd : decode bs pc = .ok (.i2s, 1)) (hp : pc + 1 = pc') (h : own_End p e below F (T.setTop (mkF m pc' Ls (.int (x.toInt16.toInt32) :: st)))) : own_End p e below F (T.setTop (mkF m pc Ls (.int x :: st))) := by
  subst hp; exact own_step (fun t k => XS.i2s X.here hx rfl (hb hby hd) rfl k) h
theorem own_i2c (X : Stand p l e R s m args below meth c T locs cells slots) (hx : p.tables.exec = Jvm.exec) (hby : c.code = bs) {x : Int32} (hd : decode bs pc = .ok (.i2c, 1)) (hp : pc + 1 = pc') (h : own_End p e below F (T.setTop (mkF m pc' Ls (.int (x.toUInt32.toUInt16.toUInt32.toInt32) :: st)))) : own_End p e below F (T.setTop (mkF m pc Ls (.int x :: st))) := by
  subst hp; exact own_step (fun t k => XS.i2c X.here hx rfl (hb hby hd) rfl k) h
theorem own_i2l (X : Stand p l e R s m args below meth c T locs cells slots) (hx : p.tables.exec = Jvm.exec) (hby : c.code = bs) {x : Int32} (hd : decode bs pc = .ok (.i2l, 1)) (hp : pc + 1 = pc') (h : own_End p e below F (T.setTop (mkF m pc' Ls (.long (x.toInt64) :: st)))) : own_End p e below F (T.setTop (mkF m pc Ls (.int x :: st))) := by
  subst hp; exact own_step (fun t k => XS.i2l X.here hx rfl (hb hby hd) rfl k) h
theorem own_lneg (X : Stand p l e R s m args below meth c T locs cells slots) (hx : p.tables.exec = Jvm.exec) (hby : c.code = bs) {x : Int64} (hd : decode bs pc = .ok (.lneg, 1)) (hp : pc + 1 = pc') (h : own_End p e below F (T.setTop (mkF m pc' Ls (.long (-x) :: st)))) : own_End p e below F (T.setTop (mkF m pc Ls (.long x :: st))) := by
  subst hp; exact own_step (fun t k => XS.lneg X.here hx rfl (hb hby hd) rfl k) h
theorem own_l2i (X : Stand p l e R s m args below meth c T locs cells slots) (hx : p.tables.exec = Jvm.exec) (hby : c.code = bs) {x : Int64} (hd : decode bs pc = .ok (.l2i, 1)) (hp : pc + 1 = pc') (h : own_End p e below F (T.setTop (mkF m pc' Ls (.int (x.toInt32) :: st)))) : own_End p e below F (T.setTop (mkF m pc Ls (.long x :: st))) := by
  subst hp; exact own_step (fun t k => XS.l2i X.here hx rfl (hb hby hd) rfl k) h
theorem own_idiv (X : Stand p l e R s m args below meth c T locs cells slots) (hx : p.tables.exec = Jvm.exec) (hby : c.code = bs) {x y : Int32} (hd : decode bs pc = .ok (.idiv, 1)) (hp : pc + 1 = pc') (hy : ¬ y = 0) (h : own_End p e below F (T.setTop (mkF m pc' Ls (.int (x / y) :: st)))) : own_End p e below F (T.setTop (mkF m pc Ls (.int y :: .int x :: st))) := by
  subst hp; exact own_step (fun t k => XS.idiv X.here hx rfl (hb hby hd) rfl hy k) h
theorem own_irem (X : Stand p l e R s m args below meth c T locs cells slots) (hx : p.tables.exec = Jvm.exec) (hby : c.code = bs) {x y : Int32} (hd : decode bs pc = .ok (.irem, 1)) (hp : pc + 1 = pc') (hy : ¬ y = 0) (h : own_End p e below F (T.setTop (mkF m pc' Ls (.int (x % y) :: st)))) : own_End p e below F (T.setTop (mkF m pc Ls (.int y :: .int x :: st))) := by
  subst hp; exact own_step (fun t k => iremM X hx rfl (hb hby hd) rfl hy k) h
theorem own_ldiv (X : Stand p l e R s m args below meth c T locs cells slots) (hx : p.tables.exec = Jvm.exec) (hby : c.code = bs) {x y : Int64} (hd : decode bs pc = .ok (.ldiv, 1)) (hp : pc + 1 = pc') (hy : ¬ y = 0) (h : own_End p e below F (T.setTop (mkF m pc' Ls (.long (x / y) :: st)))) : own_End p e below F (T.setTop (mkF m pc Ls (.long y :: .long x :: st))) := by
  subst hp; exact own_step (fun t k => XS.ldiv X.here hx rfl (hb hby hd) rfl hy k) h
theorem own_lrem (X : Stand p l e R s m args below meth c T locs cells slots) (hx : p.tables.exec = Jvm.exec) (hby : c.code = bs) {x y : Int64} (hd : decode bs pc = .ok (.lrem, 1)) (hp : pc + 1 = pc') (hy : ¬ y = 0) (h : own_End p e below F (T.setTop (mkF m pc' Ls (.long (x % y) :: st)))) : own_End p e below F (T.setTop (mkF m pc Ls (.long y :: .long x :: st))) := by
  subst hp; exact own_step (fun t k => XS.lrem X.here hx rfl (hb hby hd) rfl hy (by rw [lrem_mod]; exact k)) h
/-- the branch's condition, and its contrary -/
abbrev own_ct (cd : ClassFile.Cond) (x y : Int32) : Prop := match cd with | .eq => x = y | .ne => ¬ x = y | .lt => x < y | .ge => ¬ x < y | .gt => y < x | .le => ¬ y < x
abbrev own_cf (cd : ClassFile.Cond) (x y : Int32) : Prop := match cd with | .eq => ¬ x = y | .ne => x = y | .lt => ¬ x < y | .ge => x < y | .gt => ¬ y < x | .le => y < x
abbrev own_ctL (cd : ClassFile.Cond) (x y : Int64) : Prop := match cd with | .eq => x = y | .ne => ¬ x = y | .lt => x < y | .ge => ¬ x < y | .gt => y < x | .le => ¬ y < x
abbrev own_cfL (cd : ClassFile.Cond) (x y : Int64) : Prop := match cd with | .eq => ¬ x = y | .ne => x = y | .lt => ¬ x < y | .ge => x < y | .gt => ¬ y < x | .le => y < x
theorem own_ct_y {cd : ClassFile.Cond} {x y : Int32} (h : own_ct cd x y) : if_icmp.holds cd x y = true := by
  cases cd
  · exact (teq h).1
  · exact (feq h).2
  · exact (tlt h).1
  · exact (flt h).2.1
  · exact (tlt h).2.2.1
  · exact (flt h).2.2.2
theorem own_ct_n {cd : ClassFile.Cond} {x y : Int32} (h : own_cf cd x y) : if_icmp.holds cd x y = false := by
  cases cd
  · exact (feq h).1
  · exact (teq h).2
  · exact (flt h).1
  · exact (tlt h).2.1
  · exact (flt h).2.2.1
  · exact (tlt h).2.2.2
theorem own_ct_or (cd : ClassFile.Cond) (x y : Int32) : own_ct cd x y ∨ own_cf cd x y := by
  cases cd
  · exact Decidable.em _
  · exact (Decidable.em _).symm
  · exact Decidable.em _
  · exact (Decidable.em _).symm
  · exact Decidable.em _
  · exact (Decidable.em _).symm
theorem own_ctL_or (cd : ClassFile.Cond) (x y : Int64) : own_ctL cd x y ∨ own_cfL cd x y := by
  cases cd
  · exact Decidable.em _
  · exact (Decidable.em _).symm
  · exact Decidable.em _
  · exact (Decidable.em _).symm
  · exact Decidable.em _
  · exact (Decidable.em _).symm
theorem own_ctL_y {cd : ClassFile.Cond} {x y : Int64} (h : own_ctL cd x y) : own_ct cd (lcmpW x y) 0 := by
  cases cd
  · exact (lw_eq x y).mpr h
  · exact fun q => h ((lw_eq x y).mp q)
  · exact (lw_lt x y).mpr h
  · exact fun q => h ((lw_lt x y).mp q)
  · exact (lw_gt x y).mpr h
  · exact fun q => h ((lw_gt x y).mp q)
theorem own_ctL_n {cd : ClassFile.Cond} {x y : Int64} (h : own_cfL cd x y) : own_cf cd (lcmpW x y) 0 := by
  cases cd
  · exact fun q => h ((lw_eq x y).mp q)
  · exact (lw_eq x y).mpr h
  · exact fun q => h ((lw_lt x y).mp q)
  · exact (lw_lt x y).mpr h
  · exact fun q => h ((lw_gt x y).mp q)
  · exact (lw_gt x y).mpr h
theorem own_ifY (X : Stand p l e R s m args below meth c T locs cells slots) (hx : p.tables.exec = Jvm.exec) (hby : c.code = bs) {cd : ClassFile.Cond} {x : Int32} {o : Int} (hd : decode bs pc = .ok (.ifCond cd o, 3)) (ho : 0 ≤ (pc : Int) + o) (hp : ((pc : Int) + o).toNat = pc') (hc : own_ct cd x 0) (h : own_End p e below F (T.setTop (mkF m pc' Ls st))) : own_End p e below F (T.setTop (mkF m pc Ls (.int x :: st))) :=
  own_step (fun t k => XS.ifYes X.here hx rfl (pc0 := pc) (pc' := pc') rfl (hb hby hd) rfl ((if0 _ _).trans (own_ct_y hc)) ho hp k) h
theorem own_ifN (X : Stand p l e R s m args below meth c T locs cells slots) (hx : p.tables.exec = Jvm.exec) (hby : c.code = bs) {cd : ClassFile.Cond} {x : Int32} {o : Int} (hd : decode bs pc = .ok (.ifCond cd o, 3)) (hp : pc + 3 = pc') (hc : own_cf cd x 0) (h : own_End p e below F (T.setTop (mkF m pc' Ls st))) : own_End p e below F (T.setTop (mkF m pc Ls (.int x :: st))) := by
  subst hp; exact own_step (fun t k => XS.ifNo X.here hx rfl (hb hby hd) rfl ((if0 _ _).trans (own_ct_n hc)) k) h
theorem own_icY (X : Stand p l e R s m args below meth c T locs cells slots) (hx : p.tables.exec = Jvm.exec) (hby : c.code = bs) {cd : ClassFile.Cond} {x y : Int32} {o : Int} (hd : decode bs pc = .ok (.if_icmp cd o, 3)) (ho : 0 ≤ (pc : Int) + o) (hp : ((pc : Int) + o).toNat = pc') (hc : own_ct cd x y) (h : own_End p e below F (T.setTop (mkF m pc' Ls st))) : own_End p e below F (T.setTop (mkF m pc Ls (.int y :: .int x :: st))) :=
  own_step (fun t k => XS.icmpYes X.here hx rfl (pc0 := pc) (pc' := pc') rfl (hb hby hd) rfl (own_ct_y hc) ho hp k) h
theorem own_icN (X : Stand p l e R s m args below meth c T locs cells slots) (hx : p.tables.exec = Jvm.exec) (hby : c.code = bs) {cd : ClassFile.Cond} {x y : Int32} {o : Int} (hd : decode bs pc = .ok (.if_icmp cd o, 3)) (hp : pc + 3 = pc') (hc : own_cf cd x y) (h : own_End p e below F (T.setTop (mkF m pc' Ls st))) : own_End p e below F (T.setTop (mkF m pc Ls (.int y :: .int x :: st))) := by
  subst hp; exact own_step (fun t k => XS.icmpNo X.here hx rfl (hb hby hd) rfl (own_ct_n hc) k) h
theorem own_if2 (X : Stand p l e R s m args below meth c T locs cells slots) (hx : p.tables.exec = Jvm.exec) (hby : c.code = bs) {cd : ClassFile.Cond} {x : Int32} {o : Int} {pc1 pc2 : Nat} (hd : decode bs pc = .ok (.ifCond cd o, 3)) (ho : 0 ≤ (pc : Int) + o) (hp : ((pc : Int) + o).toNat = pc1) (hp2 : pc + 3 = pc2) (h1 : own_ct cd x 0 → own_End p e below F (T.setTop (mkF m pc1 Ls st))) (h2 : own_cf cd x 0 → own_End p e below F (T.setTop (mkF m pc2 Ls st))) : own_End p e below F (T.setTop (mkF m pc Ls (.int x :: st))) :=
  (own_ct_or cd x 0).elim (fun q => own_ifY X hx hby hd ho hp q (h1 q)) (fun q => own_ifN X hx hby hd hp2 q (h2 q))
theorem own_ic2 (X : Stand p l e R s m args below meth c T locs cells slots) (hx : p.tables.exec = Jvm.exec) (hby : c.code = bs) {cd : ClassFile.Cond} {x y : Int32} {o : Int} {pc1 pc2 : Nat} (hd : decode bs pc = .ok (.if_icmp cd o, 3)) (ho : 0 ≤ (pc : Int) + o) (hp : ((pc : Int) + o).toNat = pc1) (hp2 : pc + 3 = pc2) (h1 : own_ct cd x y → own_End p e below F (T.setTop (mkF m pc1 Ls st))) (h2 : own_cf cd x y → own_End p e below F (T.setTop (mkF m pc2 Ls st))) : own_End p e below F (T.setTop (mkF m pc Ls (.int y :: .int x :: st))) :=
  (own_ct_or cd x y).elim (fun q => own_icY X hx hby hd ho hp q (h1 q)) (fun q => own_icN X hx hby hd hp2 q (h2 q))
theorem own_ifL2 (X : Stand p l e R s m args below meth c T locs cells slots) (hx : p.tables.exec = Jvm.exec) (hby : c.code = bs) {cd : ClassFile.Cond} {x y : Int64} {o : Int} {pc1 pc2 : Nat} (hd : decode bs pc = .ok (.ifCond cd o, 3)) (ho : 0 ≤ (pc : Int) + o) (hp : ((pc : Int) + o).toNat = pc1) (hp2 : pc + 3 = pc2) (h1 : own_ctL cd x y → own_End p e below F (T.setTop (mkF m pc1 Ls st))) (h2 : own_cfL cd x y → own_End p e below F (T.setTop (mkF m pc2 Ls st))) : own_End p e below F (T.setTop (mkF m pc Ls (.int (lcmpW x y) :: st))) :=
  (own_ctL_or cd x y).elim (fun q => own_ifY X hx hby hd ho hp (own_ctL_y q) (h1 q)) (fun q => own_ifN X hx hby hd hp2 (own_ctL_n q) (h2 q))
theorem own_ifnullY (X : Stand p l e R s m args below meth c T locs cells slots) (hx : p.tables.exec = Jvm.exec) (hby : c.code = bs) {o : Int} (hd : decode bs pc = .ok (.ifnull o, 3)) (ho : 0 ≤ (pc : Int) + o) (hp : ((pc : Int) + o).toNat = pc') (h : own_End p e below F (T.setTop (mkF m pc' Ls st))) : own_End p e below F (T.setTop (mkF m pc Ls (.null :: st))) :=
  own_step (fun t k => XS.ifnullYes X.here hx rfl (pc0 := pc) (pc' := pc') rfl (hb hby hd) rfl ho hp k) h
theorem own_ifnullN (X : Stand p l e R s m args below meth c T locs cells slots) (hx : p.tables.exec = Jvm.exec) (hby : c.code = bs) {o : Int} {b : Addr} (hd : decode bs pc = .ok (.ifnull o, 3)) (hp : pc + 3 = pc') (h : own_End p e below F (T.setTop (mkF m pc' Ls st))) : own_End p e below F (T.setTop (mkF m pc Ls (.ref b :: st))) := by
  subst hp; exact own_step (fun t k => XS.ifnullNo X.here hx rfl (hb hby hd) rfl k) h
theorem own_ifnonnullY (X : Stand p l e R s m args below meth c T locs cells slots) (hx : p.tables.exec = Jvm.exec) (hby : c.code = bs) {o : Int} {b : Addr} (hd : decode bs pc = .ok (.ifnonnull o, 3)) (ho : 0 ≤ (pc : Int) + o) (hp : ((pc : Int) + o).toNat = pc') (h : own_End p e below F (T.setTop (mkF m pc' Ls st))) : own_End p e below F (T.setTop (mkF m pc Ls (.ref b :: st))) :=
  own_step (fun t k => XS.ifnonnullYes X.here hx rfl (pc0 := pc) (pc' := pc') rfl (hb hby hd) rfl ho hp k) h
theorem own_ifnonnullN (X : Stand p l e R s m args below meth c T locs cells slots) (hx : p.tables.exec = Jvm.exec) (hby : c.code = bs) {o : Int} (hd : decode bs pc = .ok (.ifnonnull o, 3)) (hp : pc + 3 = pc') (h : own_End p e below F (T.setTop (mkF m pc' Ls st))) : own_End p e below F (T.setTop (mkF m pc Ls (.null :: st))) := by
  subst hp; exact own_step (fun t k => XS.ifnonnullNo X.here hx rfl (hb hby hd) rfl k) h
theorem own_acmp (X : Stand p l e R s m args below meth c T locs cells slots) (hx : p.tables.exec = Jvm.exec) (hby : c.code = bs) {cd : ACond} {x y : Value} {o : Int} {same : Bool} (hd : decode bs pc = .ok (.if_acmp cd o, 3)) (h1 : x.isRef = true) (h2 : y.isRef = true) (hq : decide (x = y) = same) (ho : 0 ≤ (pc : Int) + o) (hp : pc' = if acV cd same = true then ((pc : Int) + o).toNat else pc + 3) (h : own_End p e below F (T.setTop (mkF m pc' Ls st))) : own_End p e below F (T.setTop (mkF m pc Ls (y :: x :: st))) :=
  own_step (fun t k => Jvm.RoadKit.acmp (g := mkF m pc Ls (y :: x :: st)) X hx rfl h1 h2 (pc0 := pc) (pc' := pc') (same := same) rfl (hb hby hd) rfl hq ho hp k) h
end Plain
section Words
variable {Z : State} {a0 : Array Value}
theorem own_ldcInt (X : Stand p l e R s m args below meth c T locs cells slots) (hx : p.tables.exec = Jvm.exec) (hZ : Z.Warmed39 s.vm) (hby : c.code = bs) {own : String} {index : Nat} {v : Int32} (hown : s.vm.findClass own = some m.cls) (w : (Cond.constant own index v).before a0 Z = true) (hd : decode bs pc = .ok (.ldc index, 2)) (hp : pc + 2 = pc') (h : own_End p e below F (T.setTop (mkF m pc' Ls (.int v :: st)))) : own_End p e below F (T.setTop (mkF m pc Ls st)) := by
  subst hp; exact own_step (X.ldcInt hx hown (mvT hZ w) (g := mkF m pc Ls st) rfl (hb hby hd)) h
theorem own_ldc2Long (X : Stand p l e R s m args below meth c T locs cells slots) (hx : p.tables.exec = Jvm.exec) (hZ : Z.Warmed39 s.vm) (hby : c.code = bs) {own : String} {index : Nat} {v : Int64} (hown : s.vm.findClass own = some m.cls) (w : (Cond.constantLong own index v).before a0 Z = true) (hd : decode bs pc = .ok (.ldc2_w index, 3)) (hp : pc + 3 = pc') (h : own_End p e below F (T.setTop (mkF m pc' Ls (.long v :: st)))) : own_End p e below F (T.setTop (mkF m pc Ls st)) := by
  subst hp; exact own_step (X.ldc2Long hx hown (mvT hZ w) (g := mkF m pc Ls st) rfl (hb hby hd)) h
theorem own_ldcwInt (X : Stand p l e R s m args below meth c T locs cells slots) (hx : p.tables.exec = Jvm.exec) (hZ : Z.Warmed39 s.vm) (hby : c.code = bs) {own : String} {index : Nat} {v : Int32} (hown : s.vm.findClass own = some m.cls) (w : (Cond.constant own index v).before a0 Z = true) (hd : decode bs pc = .ok (.ldc_w index, 3)) (hp : pc + 3 = pc') (h : own_End p e below F (T.setTop (mkF m pc' Ls (.int v :: st)))) : own_End p e below F (T.setTop (mkF m pc Ls st)) := by
  subst hp; exact own_step (X.ldcwInt hx hown (mvT hZ w) (g := mkF m pc Ls st) rfl (hb hby hd)) h
theorem own_ldc2Double (X : Stand p l e R s m args below meth c T locs cells slots) (hx : p.tables.exec = Jvm.exec) (hZ : Z.Warmed39 s.vm) (hby : c.code = bs) {own : String} {index : Nat} {v : UInt64} (hown : s.vm.findClass own = some m.cls) (w : (Cond.constantDouble own index v).before a0 Z = true) (hd : decode bs pc = .ok (.ldc2_w index, 3)) (hp : pc + 3 = pc') (h : own_End p e below F (T.setTop (mkF m pc' Ls (.double v :: st)))) : own_End p e below F (T.setTop (mkF m pc Ls st)) := by
  subst hp; exact own_step (X.ldc2DoubleC hx hown (mvT hZ w) (g := mkF m pc Ls st) rfl (hb hby hd)) h
end Words
section Heap
variable {Z : State} {a0 : Array Value} {h : Heap}
theorem own_getF (X : Stand p l e R s m args below meth c T locs cells slots) (hx : p.tables.exec = Jvm.exec) (hZ : Z.Warmed39 s.vm) (hby : c.code = bs) {own R0 O n d host : String} {index : Nat} {a : Addr} {v : Value} (hown : s.vm.findClass own = some m.cls) (w : (Cond.fieldLink own index R0 n d).before a0 Z = true ∨ (Cond.fieldLinkNest own index R0 n d host).before a0 Z = true) (via : Via Z R0 O n d) (eT : T.heap = h) (Fd : Fld Z h a O n d v) (hd : decode bs pc = .ok (.getfield index, 3)) (hp : pc + 3 = pc')
    (k : ∀ T', Stand p l e R s m args below meth c T' locs cells slots → T'.heap = h → own_End p e below F (T'.setTop (mkF m pc' Ls (v :: st)))) : own_End p e below F (T.setTop (mkF m pc Ls (.ref a :: st))) := by
  subst hp
  obtain ⟨T', X', e', stp⟩ := getF X hx hZ hown w via eT Fd (g := mkF m pc Ls (.ref a :: st)) rfl rfl (hb hby hd)
  exact own_step stp (k T' X' e')
theorem own_getS (X : Stand p l e R s m args below meth c T locs cells slots) (hx : p.tables.exec = Jvm.exec) (hZ : Z.Warmed39 s.vm) (hby : c.code = bs) {own R0 O n d host : String} {index : Nat} {v : Value} (hown : s.vm.findClass own = some m.cls) (w : (Cond.fieldLink own index R0 n d).before a0 Z = true ∨ (Cond.fieldLinkNest own index R0 n d host).before a0 Z = true) (via : Via Z R0 O n d) (eT : T.heap = h) (Fd : Sta Z h O n d v) (hd : decode bs pc = .ok (.getstatic index, 3)) (hp : pc + 3 = pc')
    (k : ∀ T', Stand p l e R s m args below meth c T' locs cells slots → T'.heap = h → own_End p e below F (T'.setTop (mkF m pc' Ls (v :: st)))) : own_End p e below F (T.setTop (mkF m pc Ls st)) := by
  subst hp
  obtain ⟨T', X', e', stp⟩ := getS2 X hx hZ hown w via eT Fd (g := mkF m pc Ls st) rfl (hb hby hd)
  exact own_step stp (k T' X' e')
theorem own_putF (X : Stand p l e R s m args below meth c T locs cells slots) (hx : p.tables.exec = Jvm.exec) (hZ : Z.Warmed39 s.vm) (hby : c.code = bs) {own R0 O n d host C : String} {index kk : Nat} {ty : FieldType} {a : Addr} {v old : Value} (hown : s.vm.findClass own = some m.cls) (w : (Cond.fieldLink own index R0 n d).before a0 Z = true ∨ (Cond.fieldLinkNest own index R0 n d host).before a0 Z = true) (via : Via Z R0 O n d) (eT : T.heap = h) (Fd : Fld Z h a O n d old) (E : Exa Z h a C)
    (La : (Cond.lays C O n d).before a0 Z = true ∨ ((Cond.laysFinal C O n d).before a0 Z = true ∧ own = O ∧ meth.name = "<init>")) (wi : (Cond.instantiable C kk).before a0 Z = true) (hty : parseFieldDescriptor d = some ty) (hn : narrow ty v = v) (hf : fits ty v = true) (hd : decode bs pc = .ok (.putfield index, 3)) (hp : pc + 3 = pc')
    (k : ∀ T' h', Stand p l e R s m args below meth c T' (locs ++ [⟨a, Jvm.RoadKit.slotOf Z O n d⟩]) cells slots → T'.heap = h' → Wr h h' a (Jvm.RoadKit.slotOf Z O n d) v → own_End p e below F (T'.setTop (mkF m pc' Ls st))) : own_End p e below F (T.setTop (mkF m pc Ls (v :: .ref a :: st))) := by
  subst hp
  obtain ⟨T', h', X', e', W', stp⟩ := putF X hx hZ hown w via eT Fd E La wi hty hn hf (g := mkF m pc Ls (v :: .ref a :: st)) rfl rfl (hb hby hd)
  exact own_step stp (k T' h' X' e' W')
theorem own_putN (X : Stand p l e R s m args below meth c T locs cells slots) (hx : p.tables.exec = Jvm.exec) (hZ : Z.Warmed39 s.vm) (hby : c.code = bs) {own R0 O n d C : String} {index kk : Nat} {ty : FieldType} {a : Addr} {v v' old : Value} (hown : s.vm.findClass own = some m.cls) (w : (Cond.fieldLink own index R0 n d).before a0 Z = true) (via : Via Z R0 O n d) (eT : T.heap = h) (Fd : Fld Z h a O n d old) (E : Exa Z h a C)
    (La : (Cond.lays C O n d).before a0 Z = true ∨ ((Cond.laysFinal C O n d).before a0 Z = true ∧ own = O ∧ meth.name = "<init>")) (wi : (Cond.instantiable C kk).before a0 Z = true) (hty : parseFieldDescriptor d = some ty) (hn : narrow ty v = v') (hf : fits ty v' = true) (hd : decode bs pc = .ok (.putfield index, 3)) (hp : pc + 3 = pc')
    (k : ∀ T' h', Stand p l e R s m args below meth c T' (locs ++ [⟨a, Jvm.RoadKit.slotOf Z O n d⟩]) cells slots → T'.heap = h' → Wr h h' a (Jvm.RoadKit.slotOf Z O n d) v' → own_End p e below F (T'.setTop (mkF m pc' Ls st))) : own_End p e below F (T.setTop (mkF m pc Ls (v :: .ref a :: st))) := by
  subst hp
  obtain ⟨T', h', X', e', W', stp⟩ := putFN X hx hZ hown w via eT Fd E La wi hty hn hf (g := mkF m pc Ls (v :: .ref a :: st)) rfl rfl (hb hby hd)
  exact own_step stp (k T' h' X' e' W')
theorem own_new (X : Stand p l e R s m args below meth c T locs cells slots) (hx : p.tables.exec = Jvm.exec) (hZ : Z.Warmed39 s.vm) (hby : c.code = bs) {own C : String} {index n : Nat} (hown : s.vm.findClass own = some m.cls) (w : (Cond.classLink own index C).before a0 Z = true) (wi : (Cond.instantiable C n).before a0 Z = true) (wz : (Cond.initialized C).before a0 Z = true) (eT : T.heap = h) (hd : decode bs pc = .ok (.new index, 3)) (hp : pc + 3 = pc') (hc : cells + 1 ≤ R.cells) (hl : slots + n ≤ R.slots)
    (k : ∀ T' h' (b : Addr), b = h.size → Stand p l e R s m args below meth c T' locs (cells + 1) (slots + n) → T'.heap = h' → Ext h h' → Exa Z h' b C → (∀ {O nm d : String} {ty : FieldType}, Laid Z a0 C O nm d → parseFieldDescriptor d = some ty → Fld Z h' b O nm d (defaultValue ty)) → own_End p e below F (T'.setTop (mkF m pc' Ls (.ref b :: st)))) : own_End p e below F (T.setTop (mkF m pc Ls st)) := by
  subst hp
  obtain ⟨T', h', X', e', E', A', D', -, stp⟩ := newO X hx hZ hown w wi wz eT (g := mkF m pc Ls st) rfl (hb hby hd) hc hl
  exact own_step stp (k T' h' h.size rfl X' e' E' A' D')
theorem own_newP (X : Stand p l e R s m args below meth c T locs cells slots) (hx : p.tables.exec = Jvm.exec) (hZ : Z.Warmed39 s.vm) (hby : c.code = bs) {aty : ArrayType} {n : Int32} {cap : Nat} (w : (Cond.arrayClass (newarray.typeOf aty)).before a0 Z = true) (eT : T.heap = h) (hd : decode bs pc = .ok (.newarray aty, 2)) (hp : pc + 2 = pc') (hn : ¬ n < 0) (hcap : n.toNatClampNeg ≤ cap) (hb' : cap * 8 ≤ 536870912) (hc : cells + 1 ≤ R.cells) (hl : slots + cap ≤ R.slots)
    (k : ∀ T' h' cA (b : Addr), b = h.size → Stand p l e R s m args below meth c T' locs (cells + 1) (slots + cap) → T'.heap = h' → Ext h h' → Arr Z h' b (newA cA (newarray.typeOf aty) n) (newarray.typeOf aty) → own_End p e below F (T'.setTop (mkF m pc' Ls (.ref b :: st)))) : own_End p e below F (T.setTop (mkF m pc Ls (.int n :: st))) := by
  subst hp
  obtain ⟨T', h', cA, X', e', E', A', stp⟩ := newP X hx hZ w eT (g := mkF m pc Ls (.int n :: st)) rfl (hb hby hd) rfl hn hcap hb' hc hl
  exact own_step stp (k T' h' cA h.size rfl X' e' E' A')
theorem own_newPE (X : Stand p l e R s m args below meth c T locs cells slots) (hx : p.tables.exec = Jvm.exec) (hZ : Z.Warmed39 s.vm) (hby : c.code = bs) {aty : ArrayType} {n : Int32} {cap : Nat} {ad : String} (had : "[" ++ (newarray.typeOf aty).toString = ad) (w : (Cond.arrayClass (newarray.typeOf aty)).before a0 Z = true) (eT : T.heap = h) (hd : decode bs pc = .ok (.newarray aty, 2)) (hp : pc + 2 = pc') (hn : ¬ n < 0) (hcap : n.toNatClampNeg ≤ cap) (hb' : cap * 8 ≤ 536870912) (hc : cells + 1 ≤ R.cells) (hl : slots + cap ≤ R.slots)
    (k : ∀ T' h' cA (b : Addr), b = h.size → Stand p l e R s m args below meth c T' locs (cells + 1) (slots + cap) → T'.heap = h' → Ext h h' → Arr Z h' b (newA cA (newarray.typeOf aty) n) (newarray.typeOf aty) → Exa Z h' b ad → own_End p e below F (T'.setTop (mkF m pc' Ls (.ref b :: st)))) : own_End p e below F (T.setTop (mkF m pc Ls (.int n :: st))) := by
  subst hp
  obtain ⟨T', h', cA, X', e', E', A', Ex', stp⟩ := newPE X hx hZ w eT (g := mkF m pc Ls (.int n :: st)) rfl (hb hby hd) rfl hn hcap hb' hc hl had
  exact own_step stp (k T' h' cA h.size rfl X' e' E' A' Ex')
theorem own_newR (X : Stand p l e R s m args below meth c T locs cells slots) (hx : p.tables.exec = Jvm.exec) (hZ : Z.Warmed39 s.vm) (hby : c.code = bs) {own C : String} {index : Nat} {n : Int32} {cap : Nat} (hown : s.vm.findClass own = some m.cls) (w1 : (Cond.classLink own index C).before a0 Z = true) (w2 : (Cond.arrayOver (.object C)).before a0 Z = true) (eT : T.heap = h) (hd : decode bs pc = .ok (.anewarray index, 3)) (hp : pc + 3 = pc') (hn : ¬ n < 0) (hcap : n.toNatClampNeg ≤ cap) (hb' : cap * 8 ≤ 536870912) (hc : cells + 1 ≤ R.cells) (hl : slots + cap ≤ R.slots)
    (k : ∀ T' h' cA (b : Addr), b = h.size → Stand p l e R s m args below meth c T' locs (cells + 1) (slots + cap) → T'.heap = h' → Ext h h' → Arr Z h' b (newA cA (.object C) n) (.object C) → Ovr Z cA C → own_End p e below F (T'.setTop (mkF m pc' Ls (.ref b :: st)))) : own_End p e below F (T.setTop (mkF m pc Ls (.int n :: st))) := by
  subst hp
  obtain ⟨T', h', cA, X', e', E', A', O', stp⟩ := newR X hx hZ hown w1 w2 eT (g := mkF m pc Ls (.int n :: st)) rfl (hb hby hd) rfl hn hcap hb' hc hl
  exact own_step stp (k T' h' cA h.size rfl X' e' E' A' O')
theorem own_iastore (X : Stand p l e R s m args below meth c T locs cells slots) (hx : p.tables.exec = Jvm.exec) (hZ : Z.Warmed39 s.vm) (hby : c.code = bs) {a : Addr} {cl : Cell} (eT : T.heap = h) (A : Arr Z h a cl .int) {j : Int32} {x : Int32} (hj : ¬ (j < 0 ∨ cl.slots.size ≤ j.toNatClampNeg)) (hd : decode bs pc = .ok (.iastore, 1)) (hp : pc + 1 = pc')
    (k : ∀ T' h', Stand p l e R s m args below meth c T' (locs ++ [⟨a, j.toNatClampNeg⟩]) cells slots → T'.heap = h' → Wr h h' a j.toNatClampNeg (.int x) → own_End p e below F (T'.setTop (mkF m pc' Ls st))) : own_End p e below F (T.setTop (mkF m pc Ls (.int x :: .int j :: .ref a :: st))) := by
  subst hp
  obtain ⟨T', h', X', e', W', stp⟩ := stI X hx hZ eT A hj (g := mkF m pc Ls (.int x :: .int j :: .ref a :: st)) rfl rfl (hb hby hd)
  exact own_step stp (k T' h' X' e' W')
theorem own_lastore (X : Stand p l e R s m args below meth c T locs cells slots) (hx : p.tables.exec = Jvm.exec) (hZ : Z.Warmed39 s.vm) (hby : c.code = bs) {a : Addr} {cl : Cell} (eT : T.heap = h) (A : Arr Z h a cl .long) {j : Int32} {x : Int64} (hj : ¬ (j < 0 ∨ cl.slots.size ≤ j.toNatClampNeg)) (hd : decode bs pc = .ok (.lastore, 1)) (hp : pc + 1 = pc')
    (k : ∀ T' h', Stand p l e R s m args below meth c T' (locs ++ [⟨a, j.toNatClampNeg⟩]) cells slots → T'.heap = h' → Wr h h' a j.toNatClampNeg (.long x) → own_End p e below F (T'.setTop (mkF m pc' Ls st))) : own_End p e below F (T.setTop (mkF m pc Ls (.long x :: .int j :: .ref a :: st))) := by
  subst hp
  obtain ⟨T', h', X', e', W', stp⟩ := stJ X hx hZ eT A hj (g := mkF m pc Ls (.long x :: .int j :: .ref a :: st)) rfl rfl (hb hby hd)
  exact own_step stp (k T' h' X' e' W')
theorem own_castore (X : Stand p l e R s m args below meth c T locs cells slots) (hx : p.tables.exec = Jvm.exec) (hZ : Z.Warmed39 s.vm) (hby : c.code = bs) {a : Addr} {cl : Cell} (eT : T.heap = h) (A : Arr Z h a cl .char) {j : Int32} {x : Int32} (hj : ¬ (j < 0 ∨ cl.slots.size ≤ j.toNatClampNeg)) (hd : decode bs pc = .ok (.castore, 1)) (hp : pc + 1 = pc')
    (k : ∀ T' h', Stand p l e R s m args below meth c T' (locs ++ [⟨a, j.toNatClampNeg⟩]) cells slots → T'.heap = h' → Wr h h' a j.toNatClampNeg (.int (nar .char x)) → own_End p e below F (T'.setTop (mkF m pc' Ls st))) : own_End p e below F (T.setTop (mkF m pc Ls (.int x :: .int j :: .ref a :: st))) := by
  subst hp
  obtain ⟨T', h', X', e', W', stp⟩ := stC X hx hZ eT A hj (g := mkF m pc Ls (.int x :: .int j :: .ref a :: st)) rfl rfl (hb hby hd)
  exact own_step stp (k T' h' X' e' W')
theorem own_bastore (X : Stand p l e R s m args below meth c T locs cells slots) (hx : p.tables.exec = Jvm.exec) (hZ : Z.Warmed39 s.vm) (hby : c.code = bs) {a : Addr} {cl : Cell} (eT : T.heap = h) (A : Arr Z h a cl .byte) {j : Int32} {x : Int32} (hj : ¬ (j < 0 ∨ cl.slots.size ≤ j.toNatClampNeg)) (hd : decode bs pc = .ok (.bastore, 1)) (hp : pc + 1 = pc')
    (k : ∀ T' h', Stand p l e R s m args below meth c T' (locs ++ [⟨a, j.toNatClampNeg⟩]) cells slots → T'.heap = h' → Wr h h' a j.toNatClampNeg (.int (nar .byte x)) → own_End p e below F (T'.setTop (mkF m pc' Ls st))) : own_End p e below F (T.setTop (mkF m pc Ls (.int x :: .int j :: .ref a :: st))) := by
  subst hp
  obtain ⟨T', h', X', e', W', stp⟩ := stB X hx hZ eT A hj (g := mkF m pc Ls (.int x :: .int j :: .ref a :: st)) rfl rfl (hb hby hd)
  exact own_step stp (k T' h' X' e' W')
theorem own_stR (X : Stand p l e R s m args below meth c T locs cells slots) (hx : p.tables.exec = Jvm.exec) (hZ : Z.Warmed39 s.vm) (hby : c.code = bs) {a : Addr} {cl : Cell} {ty : FieldType} (eT : T.heap = h) (A : Arr Z h a cl ty) {j : Int32} {v : Value} (hj : ¬ (j < 0 ∨ cl.slots.size ≤ j.toNatClampNeg)) (hty : ty.isReference = true) (S : Sto Z h a v) (hd : decode bs pc = .ok (.aastore, 1)) (hp : pc + 1 = pc')
    (k : ∀ T' h', Stand p l e R s m args below meth c T' (locs ++ [⟨a, j.toNatClampNeg⟩]) cells slots → T'.heap = h' → Wr h h' a j.toNatClampNeg v → own_End p e below F (T'.setTop (mkF m pc' Ls st))) : own_End p e below F (T.setTop (mkF m pc Ls (v :: .int j :: .ref a :: st))) := by
  subst hp
  obtain ⟨T', h', X', e', W', stp⟩ := stR X hx hZ eT A hj hty S (g := mkF m pc Ls (v :: .int j :: .ref a :: st)) rfl rfl (hb hby hd)
  exact own_step stp (k T' h' X' e' W')
theorem own_iaload (X : Stand p l e R s m args below meth c T locs cells slots) (hx : p.tables.exec = Jvm.exec) (hZ : Z.Warmed39 s.vm) (hby : c.code = bs) {a : Addr} {cl : Cell} (eT : T.heap = h) (A : Arr Z h a cl .int) {j : Int32} {v : Value} (hj : ¬ (j < 0 ∨ cl.slots.size ≤ j.toNatClampNeg)) (hv : cl.slots[j.toNatClampNeg]? = some v) (hd : decode bs pc = .ok (.iaload, 1)) (hp : pc + 1 = pc') (k : own_End p e below F (T.setTop (mkF m pc' Ls (v :: st)))) : own_End p e below F (T.setTop (mkF m pc Ls (.int j :: .ref a :: st))) := by
  subst hp
  exact own_step (fun t q => X.iaload hx (j := j) (v := v) (by rw [eT]; exact A.1) (State.isArrayOf_alike hZ.alike A.2.1) A.2.2 hj hv (g := mkF m pc Ls (.int j :: .ref a :: st)) rfl rfl (hb hby hd) _ q) k
theorem own_laload (X : Stand p l e R s m args below meth c T locs cells slots) (hx : p.tables.exec = Jvm.exec) (hZ : Z.Warmed39 s.vm) (hby : c.code = bs) {a : Addr} {cl : Cell} (eT : T.heap = h) (A : Arr Z h a cl .long) {j : Int32} {v : Value} (hj : ¬ (j < 0 ∨ cl.slots.size ≤ j.toNatClampNeg)) (hv : cl.slots[j.toNatClampNeg]? = some v) (hd : decode bs pc = .ok (.laload, 1)) (hp : pc + 1 = pc') (k : own_End p e below F (T.setTop (mkF m pc' Ls (v :: st)))) : own_End p e below F (T.setTop (mkF m pc Ls (.int j :: .ref a :: st))) := by
  subst hp
  exact own_step (fun t q => X.laload hx (j := j) (v := v) (by rw [eT]; exact A.1) (State.isArrayOf_alike hZ.alike A.2.1) A.2.2 hj hv (g := mkF m pc Ls (.int j :: .ref a :: st)) rfl rfl (hb hby hd) _ q) k
theorem own_caload (X : Stand p l e R s m args below meth c T locs cells slots) (hx : p.tables.exec = Jvm.exec) (hZ : Z.Warmed39 s.vm) (hby : c.code = bs) {a : Addr} {cl : Cell} (eT : T.heap = h) (A : Arr Z h a cl .char) {j : Int32} {v : Value} (hj : ¬ (j < 0 ∨ cl.slots.size ≤ j.toNatClampNeg)) (hv : cl.slots[j.toNatClampNeg]? = some v) (hd : decode bs pc = .ok (.caload, 1)) (hp : pc + 1 = pc') (k : own_End p e below F (T.setTop (mkF m pc' Ls (v :: st)))) : own_End p e below F (T.setTop (mkF m pc Ls (.int j :: .ref a :: st))) := by
  subst hp
  exact own_step (fun t q => X.caload hx (j := j) (v := v) (by rw [eT]; exact A.1) (State.isArrayOf_alike hZ.alike A.2.1) A.2.2 hj hv (g := mkF m pc Ls (.int j :: .ref a :: st)) rfl rfl (hb hby hd) _ q) k
theorem own_baload (X : Stand p l e R s m args below meth c T locs cells slots) (hx : p.tables.exec = Jvm.exec) (hZ : Z.Warmed39 s.vm) (hby : c.code = bs) {a : Addr} {cl : Cell} (eT : T.heap = h) (A : Arr Z h a cl .byte) {j : Int32} {v : Value} (hj : ¬ (j < 0 ∨ cl.slots.size ≤ j.toNatClampNeg)) (hv : cl.slots[j.toNatClampNeg]? = some v) (hd : decode bs pc = .ok (.baload, 1)) (hp : pc + 1 = pc') (k : own_End p e below F (T.setTop (mkF m pc' Ls (v :: st)))) : own_End p e below F (T.setTop (mkF m pc Ls (.int j :: .ref a :: st))) := by
  subst hp
  exact own_step (fun t q => X.baloadBytes hx (j := j) (v := v) (by rw [eT]; exact A.1) (State.isArrayOf_alike hZ.alike A.2.1) A.2.2 hj hv (g := mkF m pc Ls (.int j :: .ref a :: st)) rfl rfl (hb hby hd) _ q) k
theorem own_aaload (X : Stand p l e R s m args below meth c T locs cells slots) (hx : p.tables.exec = Jvm.exec) (hZ : Z.Warmed39 s.vm) (hby : c.code = bs) {a : Addr} {cl : Cell} {ty : FieldType} (eT : T.heap = h) (A : Arr Z h a cl ty) (hty : ty.isReference = true) {j : Int32} {v : Value} (hj : ¬ (j < 0 ∨ cl.slots.size ≤ j.toNatClampNeg)) (hv : cl.slots[j.toNatClampNeg]? = some v) (hd : decode bs pc = .ok (.aaload, 1)) (hp : pc + 1 = pc') (k : own_End p e below F (T.setTop (mkF m pc' Ls (v :: st)))) : own_End p e below F (T.setTop (mkF m pc Ls (.int j :: .ref a :: st))) := by
  subst hp
  exact own_step (fun t q => X.aaload hx (j := j) (v := v) (by rw [eT]; exact A.1) (State.isArrayOf_alike hZ.alike A.2.1) hty A.2.2 hj hv (g := mkF m pc Ls (.int j :: .ref a :: st)) rfl rfl (hb hby hd) _ q) k
theorem own_alen (X : Stand p l e R s m args below meth c T locs cells slots) (hx : p.tables.exec = Jvm.exec) (hZ : Z.Warmed39 s.vm) (hby : c.code = bs) {a : Addr} {cl : Cell} {ty : FieldType} {z : Int32} (eT : T.heap = h) (A : Arr Z h a cl ty) (S : cl.slots.size = z.toNatClampNeg) (M : ¬ z < 0) (hd : decode bs pc = .ok (.arraylength, 1)) (hp : pc + 1 = pc') (k : own_End p e below F (T.setTop (mkF m pc' Ls (.int z :: st)))) : own_End p e below F (T.setTop (mkF m pc Ls (.ref a :: st))) := by
  subst hp
  have hl := len_of S M
  exact own_step (fun t q => X.arraylength hx (by rw [eT]; exact A.1) (State.isArrayOf_alike hZ.alike A.2.1) (g := mkF m pc Ls (.ref a :: st)) rfl rfl (hb hby hd) _ (by rw [hl]; exact q)) k
theorem own_init (X : Stand p l e R s m args below meth c T locs cells slots) (hx : p.tables.exec = Jvm.exec) (hZ : Z.Warmed39 s.vm) (hby : c.code = bs) {own : String} {index : Nat} {a : Addr} {W : Nat} (hown : s.vm.findClass own = some m.cls) (w1 : (Cond.methodLink own index Lib.objectInit).before a0 Z = true) (w2 : (Cond.instanceMethod Lib.objectInit).before a0 Z = true) (w3 : (Cond.code Lib.objectInit ⟨#[0xb1]⟩ 1 none).before a0 Z = true) (eT : T.heap = h) (hsz : Ls.size = c.maxLocals) (hd : decode bs pc = .ok (.invokespecial index, 3)) (hp : pc + 3 = pc') (hf : 1 ≤ R.frames) (hW : (st.map fun v => v.category).sum ≤ W) (hl : W + 12 ≤ R.locals)
    (k : ∀ T', Stand p l e R s m args below meth c T' locs cells slots → T'.heap = h → own_End p e below F (T'.setTop (mkF m pc' Ls st))) : own_End p e below F (T.setTop (mkF m pc Ls (.ref a :: st))) := by
  subst hp
  obtain ⟨T', X', e', stp⟩ := initO X hx hZ hown w1 w2 w3 eT (g := mkF m pc Ls (.ref a :: st)) rfl hsz rfl (hb hby hd) hf (W := W) (by show 2 * 0 + _ ≤ _; omega) hl
  exact own_step stp (k T' X' e')
theorem own_cast (X : Stand p l e R s m args below meth c T locs cells slots) (hx : p.tables.exec = Jvm.exec) (hZ : Z.Warmed39 s.vm) (hby : c.code = bs) {own K : String} {index : Nat} {a : Addr} (hown : s.vm.findClass own = some m.cls) (w : (Cond.classLink own index K).before a0 Z = true) (eT : T.heap = h) (I : Ins Z h a K true) (hd : decode bs pc = .ok (.checkcast index, 3)) (hp : pc + 3 = pc')
    (k : ∀ T', Stand p l e R s m args below meth c T' locs cells slots → T'.heap = h → own_End p e below F (T'.setTop (mkF m pc' Ls (.ref a :: st)))) : own_End p e below F (T.setTop (mkF m pc Ls (.ref a :: st))) := by
  subst hp
  obtain ⟨T', X', e', stp⟩ := castY X hx hZ hown w eT I (g := mkF m pc Ls (.ref a :: st)) rfl rfl (hb hby hd)
  exact own_step stp (k T' X' e')
theorem own_inst (X : Stand p l e R s m args below meth c T locs cells slots) (hx : p.tables.exec = Jvm.exec) (hZ : Z.Warmed39 s.vm) (hby : c.code = bs) {own K : String} {index : Nat} {a : Addr} (hown : s.vm.findClass own = some m.cls) (w : (Cond.classLink own index K).before a0 Z = true) (eT : T.heap = h) (I : Ins Z h a K true) (hd : decode bs pc = .ok (.instanceof index, 3)) (hp : pc + 3 = pc')
    (k : ∀ T', Stand p l e R s m args below meth c T' locs cells slots → T'.heap = h → own_End p e below F (T'.setTop (mkF m pc' Ls (.int 1 :: st)))) : own_End p e below F (T.setTop (mkF m pc Ls (.ref a :: st))) := by
  subst hp
  obtain ⟨T', X', e', stp⟩ := instY X hx hZ hown w eT I (g := mkF m pc Ls (.ref a :: st)) rfl rfl (hb hby hd)
  exact own_step stp (k T' X' e')
theorem own_instNull (X : Stand p l e R s m args below meth c T locs cells slots) (hx : p.tables.exec = Jvm.exec) (hby : c.code = bs) {index : Nat} (hd : decode bs pc = .ok (.instanceof index, 3)) (hp : pc + 3 = pc') (k : own_End p e below F (T.setTop (mkF m pc' Ls (.int 0 :: st)))) : own_End p e below F (T.setTop (mkF m pc Ls (.null :: st))) := by
  subst hp
  exact own_step (fun t q => X.instanceofNull hx (g := mkF m pc Ls (.null :: st)) rfl rfl (hb hby hd) _ q) k
end Heap
end OwnKit

theorem wd_0 {a0 : Array Value} {Z : State} (hw : ∀ d ∈ tables_1, d.before a0 Z = true) : (Jvm.Cond.constantLong "com/example/earnest_reactor/earnestreactor/cli/LatencyHistogramAddPinLaw" (9 : Nat) (9223372036854775807 : Int64)).before a0 Z = true := hw _ (List.mem_of_getElem? (i := 0) rfl)
theorem wd_1 {a0 : Array Value} {Z : State} (hw : ∀ d ∈ tables_1, d.before a0 Z = true) : (Jvm.Cond.classLink "com/example/earnest_reactor/earnestreactor/cli/LatencyHistogramAddPinLaw" (11 : Nat) "com/example/earnest_reactor/earnestreactor/cli/LatencyHistogram").before a0 Z = true := hw _ (List.mem_of_getElem? (i := 1) rfl)
theorem wd_2 {a0 : Array Value} {Z : State} (hw : ∀ d ∈ tables_1, d.before a0 Z = true) : (Jvm.Cond.instantiable "com/example/earnest_reactor/earnestreactor/cli/LatencyHistogram" (2 : Nat)).before a0 Z = true := hw _ (List.mem_of_getElem? (i := 2) rfl)
theorem wd_3 {a0 : Array Value} {Z : State} (hw : ∀ d ∈ tables_1, d.before a0 Z = true) : (Jvm.Cond.initialized "com/example/earnest_reactor/earnestreactor/cli/LatencyHistogram").before a0 Z = true := hw _ (List.mem_of_getElem? (i := 3) rfl)
theorem wd_4 {a0 : Array Value} {Z : State} (hw : ∀ d ∈ tables_1, d.before a0 Z = true) : (Jvm.Cond.methodLink "com/example/earnest_reactor/earnestreactor/cli/LatencyHistogramAddPinLaw" (13 : Nat) ({ cls := "com/example/earnest_reactor/earnestreactor/cli/LatencyHistogram", name := "<init>", desc := "()V" } : Jvm.MethodName)).before a0 Z = true := hw _ (List.mem_of_getElem? (i := 4) rfl)
theorem wd_5 {a0 : Array Value} {Z : State} (hw : ∀ d ∈ tables_1, d.before a0 Z = true) : (Jvm.Cond.instanceMethod ({ cls := "com/example/earnest_reactor/earnestreactor/cli/LatencyHistogram", name := "<init>", desc := "()V" } : Jvm.MethodName)).before a0 Z = true := hw _ (List.mem_of_getElem? (i := 5) rfl)
theorem wd_6 {a0 : Array Value} {Z : State} (hw : ∀ d ∈ tables_1, d.before a0 Z = true) : (Jvm.Cond.code ({ cls := "com/example/earnest_reactor/earnestreactor/cli/LatencyHistogram", name := "<init>", desc := "()V" } : Jvm.MethodName) prog_2_method_1_code (1 : Nat) (Option.none : Option Jvm.ClassFile.FieldType)).before a0 Z = true := hw _ (List.mem_of_getElem? (i := 6) rfl)
theorem wd_7 {a0 : Array Value} {Z : State} (hw : ∀ d ∈ tables_1, d.before a0 Z = true) : (Jvm.Cond.methodLink "com/example/earnest_reactor/earnestreactor/cli/LatencyHistogram" (3 : Nat) ({ cls := "java/lang/Object", name := "<init>", desc := "()V" } : Jvm.MethodName)).before a0 Z = true := hw _ (List.mem_of_getElem? (i := 7) rfl)
theorem wd_8 {a0 : Array Value} {Z : State} (hw : ∀ d ∈ tables_1, d.before a0 Z = true) : (Jvm.Cond.instanceMethod ({ cls := "java/lang/Object", name := "<init>", desc := "()V" } : Jvm.MethodName)).before a0 Z = true := hw _ (List.mem_of_getElem? (i := 8) rfl)
theorem wd_9 {a0 : Array Value} {Z : State} (hw : ∀ d ∈ tables_1, d.before a0 Z = true) : (Jvm.Cond.code ({ cls := "java/lang/Object", name := "<init>", desc := "()V" } : Jvm.MethodName) object_method_1_code (1 : Nat) (Option.none : Option Jvm.ClassFile.FieldType)).before a0 Z = true := hw _ (List.mem_of_getElem? (i := 9) rfl)
theorem wd_10 {a0 : Array Value} {Z : State} (hw : ∀ d ∈ tables_1, d.before a0 Z = true) : (Jvm.Cond.constantLong "com/example/earnest_reactor/earnestreactor/cli/LatencyHistogram" (11 : Nat) (9223372036854775807 : Int64)).before a0 Z = true := hw _ (List.mem_of_getElem? (i := 10) rfl)
theorem wd_11 {a0 : Array Value} {Z : State} (hw : ∀ d ∈ tables_1, d.before a0 Z = true) : (Jvm.Cond.methodLink "com/example/earnest_reactor/earnestreactor/cli/LatencyHistogram" (13 : Nat) ({ cls := "com/example/earnest_reactor/earnestreactor/cli/LatencyHistogram", name := "bucket", desc := "(J)I" } : Jvm.MethodName)).before a0 Z = true := hw _ (List.mem_of_getElem? (i := 11) rfl)
theorem wd_12 {a0 : Array Value} {Z : State} (hw : ∀ d ∈ tables_1, d.before a0 Z = true) : (Jvm.Cond.static ({ cls := "com/example/earnest_reactor/earnestreactor/cli/LatencyHistogram", name := "bucket", desc := "(J)I" } : Jvm.MethodName)).before a0 Z = true := hw _ (List.mem_of_getElem? (i := 12) rfl)
theorem wd_13 {a0 : Array Value} {Z : State} (hw : ∀ d ∈ tables_1, d.before a0 Z = true) : (Jvm.Cond.code ({ cls := "com/example/earnest_reactor/earnestreactor/cli/LatencyHistogram", name := "bucket", desc := "(J)I" } : Jvm.MethodName) prog_2_method_5_code (4 : Nat) (Option.some Jvm.ClassFile.FieldType.int)).before a0 Z = true := hw _ (List.mem_of_getElem? (i := 13) rfl)
theorem wd_14 {a0 : Array Value} {Z : State} (hw : ∀ d ∈ tables_1, d.before a0 Z = true) : (Jvm.Cond.constantLong "com/example/earnest_reactor/earnestreactor/cli/LatencyHistogram" (41 : Nat) (2048 : Int64)).before a0 Z = true := hw _ (List.mem_of_getElem? (i := 14) rfl)
theorem wd_15 {a0 : Array Value} {Z : State} (hw : ∀ d ∈ tables_1, d.before a0 Z = true) : (Jvm.Cond.methodLink "com/example/earnest_reactor/earnestreactor/cli/LatencyHistogram" (43 : Nat) ({ cls := "java/lang/Long", name := "numberOfLeadingZeros", desc := "(J)I" } : Jvm.MethodName)).before a0 Z = true := hw _ (List.mem_of_getElem? (i := 15) rfl)
theorem wd_16 {a0 : Array Value} {Z : State} (hw : ∀ d ∈ tables_1, d.before a0 Z = true) : (Jvm.Cond.static ({ cls := "java/lang/Long", name := "numberOfLeadingZeros", desc := "(J)I" } : Jvm.MethodName)).before a0 Z = true := hw _ (List.mem_of_getElem? (i := 16) rfl)
theorem wd_17 {a0 : Array Value} {Z : State} (hw : ∀ d ∈ tables_1, d.before a0 Z = true) : (Jvm.Cond.initialized "java/lang/Long").before a0 Z = true := hw _ (List.mem_of_getElem? (i := 17) rfl)
theorem wd_18 {a0 : Array Value} {Z : State} (hw : ∀ d ∈ tables_1, d.before a0 Z = true) : (Jvm.Cond.code ({ cls := "java/lang/Long", name := "numberOfLeadingZeros", desc := "(J)I" } : Jvm.MethodName) jdk_35_method_48_code (3 : Nat) (Option.some Jvm.ClassFile.FieldType.int)).before a0 Z = true := hw _ (List.mem_of_getElem? (i := 18) rfl)
theorem wd_19 {a0 : Array Value} {Z : State} (hw : ∀ d ∈ tables_1, d.before a0 Z = true) : (Jvm.Cond.methodLink "java/lang/Long" (308 : Nat) ({ cls := "java/lang/Integer", name := "numberOfLeadingZeros", desc := "(I)I" } : Jvm.MethodName)).before a0 Z = true := hw _ (List.mem_of_getElem? (i := 19) rfl)
theorem wd_20 {a0 : Array Value} {Z : State} (hw : ∀ d ∈ tables_1, d.before a0 Z = true) : (Jvm.Cond.static ({ cls := "java/lang/Integer", name := "numberOfLeadingZeros", desc := "(I)I" } : Jvm.MethodName)).before a0 Z = true := hw _ (List.mem_of_getElem? (i := 20) rfl)
theorem wd_21 {a0 : Array Value} {Z : State} (hw : ∀ d ∈ tables_1, d.before a0 Z = true) : (Jvm.Cond.initialized "java/lang/Integer").before a0 Z = true := hw _ (List.mem_of_getElem? (i := 21) rfl)
theorem wd_22 {a0 : Array Value} {Z : State} (hw : ∀ d ∈ tables_1, d.before a0 Z = true) : (Jvm.Cond.code ({ cls := "java/lang/Integer", name := "numberOfLeadingZeros", desc := "(I)I" } : Jvm.MethodName) jdk_33_method_47_code (2 : Nat) (Option.some Jvm.ClassFile.FieldType.int)).before a0 Z = true := hw _ (List.mem_of_getElem? (i := 22) rfl)
theorem wd_23 {a0 : Array Value} {Z : State} (hw : ∀ d ∈ tables_1, d.before a0 Z = true) : (Jvm.Cond.constant "java/lang/Integer" (264 : Nat) (65536 : Int32)).before a0 Z = true := hw _ (List.mem_of_getElem? (i := 23) rfl)
theorem wd_24 {a0 : Array Value} {Z : State} (hw : ∀ d ∈ tables_1, d.before a0 Z = true) : (Jvm.Cond.arrayClass Jvm.ClassFile.FieldType.long).before a0 Z = true := hw _ (List.mem_of_getElem? (i := 24) rfl)
theorem wd_25 {a0 : Array Value} {Z : State} (hw : ∀ d ∈ tables_1, d.before a0 Z = true) : (Jvm.Cond.fieldLink "com/example/earnest_reactor/earnestreactor/cli/LatencyHistogram" (17 : Nat) "com/example/earnest_reactor/earnestreactor/cli/LatencyHistogram" "counts" "[J").before a0 Z = true := hw _ (List.mem_of_getElem? (i := 25) rfl)
theorem wd_26 {a0 : Array Value} {Z : State} (hw : ∀ d ∈ tables_1, d.before a0 Z = true) : (Jvm.Cond.laysFinal "com/example/earnest_reactor/earnestreactor/cli/LatencyHistogram" "com/example/earnest_reactor/earnestreactor/cli/LatencyHistogram" "counts" "[J").before a0 Z = true := hw _ (List.mem_of_getElem? (i := 26) rfl)
theorem wd_27 {a0 : Array Value} {Z : State} (hw : ∀ d ∈ tables_1, d.before a0 Z = true) : (Jvm.Cond.constantDouble "com/example/earnest_reactor/earnestreactor/cli/LatencyHistogramAddPinLaw" (18 : Nat) (4636737291354636288 : UInt64)).before a0 Z = true := hw _ (List.mem_of_getElem? (i := 27) rfl)
theorem wd_28 {a0 : Array Value} {Z : State} (hw : ∀ d ∈ tables_1, d.before a0 Z = true) : (Jvm.Cond.methodLink "com/example/earnest_reactor/earnestreactor/cli/LatencyHistogramAddPinLaw" (20 : Nat) ({ cls := "com/example/earnest_reactor/earnestreactor/cli/LatencyHistogram", name := "percentile", desc := "(D)J" } : Jvm.MethodName)).before a0 Z = true := hw _ (List.mem_of_getElem? (i := 28) rfl)
theorem wd_29 {a0 : Array Value} {Z : State} (hw : ∀ d ∈ tables_1, d.before a0 Z = true) : (Jvm.Cond.declares ({ cls := "com/example/earnest_reactor/earnestreactor/cli/LatencyHistogram", name := "percentile", desc := "(D)J" } : Jvm.MethodName)).before a0 Z = true := hw _ (List.mem_of_getElem? (i := 29) rfl)
theorem wd_30 {a0 : Array Value} {Z : State} (hw : ∀ d ∈ tables_1, d.before a0 Z = true) : (Jvm.Cond.instanceMethod ({ cls := "com/example/earnest_reactor/earnestreactor/cli/LatencyHistogram", name := "percentile", desc := "(D)J" } : Jvm.MethodName)).before a0 Z = true := hw _ (List.mem_of_getElem? (i := 30) rfl)
theorem wd_31 {a0 : Array Value} {Z : State} (hw : ∀ d ∈ tables_1, d.before a0 Z = true) : (Jvm.Cond.selects "com/example/earnest_reactor/earnestreactor/cli/LatencyHistogram" ({ cls := "com/example/earnest_reactor/earnestreactor/cli/LatencyHistogram", name := "percentile", desc := "(D)J" } : Jvm.MethodName) ({ cls := "com/example/earnest_reactor/earnestreactor/cli/LatencyHistogram", name := "percentile", desc := "(D)J" } : Jvm.MethodName)).before a0 Z = true := hw _ (List.mem_of_getElem? (i := 31) rfl)
theorem wd_32 {a0 : Array Value} {Z : State} (hw : ∀ d ∈ tables_1, d.before a0 Z = true) : (Jvm.Cond.code ({ cls := "com/example/earnest_reactor/earnestreactor/cli/LatencyHistogram", name := "percentile", desc := "(D)J" } : Jvm.MethodName) prog_2_method_4_code (8 : Nat) (Option.some Jvm.ClassFile.FieldType.long)).before a0 Z = true := hw _ (List.mem_of_getElem? (i := 32) rfl)
theorem wd_33 {a0 : Array Value} {Z : State} (hw : ∀ d ∈ tables_1, d.before a0 Z = true) : (Jvm.Cond.fieldLink "com/example/earnest_reactor/earnestreactor/cli/LatencyHistogram" (21 : Nat) "com/example/earnest_reactor/earnestreactor/cli/LatencyHistogram" "total" "J").before a0 Z = true := hw _ (List.mem_of_getElem? (i := 33) rfl)
theorem wd_34 {a0 : Array Value} {Z : State} (hw : ∀ d ∈ tables_1, d.before a0 Z = true) : (Jvm.Cond.lays "com/example/earnest_reactor/earnestreactor/cli/LatencyHistogram" "com/example/earnest_reactor/earnestreactor/cli/LatencyHistogram" "total" "J").before a0 Z = true := hw _ (List.mem_of_getElem? (i := 34) rfl)
theorem wd_35 {a0 : Array Value} {Z : State} (hw : ∀ d ∈ tables_1, d.before a0 Z = true) : (Jvm.Cond.methodLink "com/example/earnest_reactor/earnestreactor/cli/LatencyHistogramAddPinLaw" (24 : Nat) ({ cls := "com/example/earnest_reactor/earnestreactor/cli/LatencyHistogram", name := "add", desc := "(Lcom/example/earnest_reactor/earnestreactor/cli/LatencyHistogram;)V" } : Jvm.MethodName)).before a0 Z = true := hw _ (List.mem_of_getElem? (i := 35) rfl)
theorem wd_36 {a0 : Array Value} {Z : State} (hw : ∀ d ∈ tables_1, d.before a0 Z = true) : (Jvm.Cond.declares ({ cls := "com/example/earnest_reactor/earnestreactor/cli/LatencyHistogram", name := "add", desc := "(Lcom/example/earnest_reactor/earnestreactor/cli/LatencyHistogram;)V" } : Jvm.MethodName)).before a0 Z = true := hw _ (List.mem_of_getElem? (i := 36) rfl)
theorem wd_37 {a0 : Array Value} {Z : State} (hw : ∀ d ∈ tables_1, d.before a0 Z = true) : (Jvm.Cond.instanceMethod ({ cls := "com/example/earnest_reactor/earnestreactor/cli/LatencyHistogram", name := "add", desc := "(Lcom/example/earnest_reactor/earnestreactor/cli/LatencyHistogram;)V" } : Jvm.MethodName)).before a0 Z = true := hw _ (List.mem_of_getElem? (i := 37) rfl)
theorem wd_38 {a0 : Array Value} {Z : State} (hw : ∀ d ∈ tables_1, d.before a0 Z = true) : (Jvm.Cond.selects "com/example/earnest_reactor/earnestreactor/cli/LatencyHistogram" ({ cls := "com/example/earnest_reactor/earnestreactor/cli/LatencyHistogram", name := "add", desc := "(Lcom/example/earnest_reactor/earnestreactor/cli/LatencyHistogram;)V" } : Jvm.MethodName) ({ cls := "com/example/earnest_reactor/earnestreactor/cli/LatencyHistogram", name := "add", desc := "(Lcom/example/earnest_reactor/earnestreactor/cli/LatencyHistogram;)V" } : Jvm.MethodName)).before a0 Z = true := hw _ (List.mem_of_getElem? (i := 38) rfl)
theorem wd_39 {a0 : Array Value} {Z : State} (hw : ∀ d ∈ tables_1, d.before a0 Z = true) : (Jvm.Cond.code ({ cls := "com/example/earnest_reactor/earnestreactor/cli/LatencyHistogram", name := "add", desc := "(Lcom/example/earnest_reactor/earnestreactor/cli/LatencyHistogram;)V" } : Jvm.MethodName) prog_2_method_3_code (3 : Nat) (Option.none : Option Jvm.ClassFile.FieldType)).before a0 Z = true := hw _ (List.mem_of_getElem? (i := 39) rfl)
theorem wd_40 {a0 : Array Value} {Z : State} (hw : ∀ d ∈ tables_1, d.before a0 Z = true) : (Jvm.Cond.constantDouble "com/example/earnest_reactor/earnestreactor/cli/LatencyHistogramAddPinLaw" (37 : Nat) (4632233691727265792 : UInt64)).before a0 Z = true := hw _ (List.mem_of_getElem? (i := 40) rfl)
theorem wd_41 {a0 : Array Value} {Z : State} (hw : ∀ d ∈ tables_1, d.before a0 Z = true) : (Jvm.Cond.methodLink "com/example/earnest_reactor/earnestreactor/cli/LatencyHistogramAddPinLaw" (14 : Nat) ({ cls := "com/example/earnest_reactor/earnestreactor/cli/LatencyHistogram", name := "record", desc := "(J)V" } : Jvm.MethodName)).before a0 Z = true := hw _ (List.mem_of_getElem? (i := 41) rfl)
theorem wd_42 {a0 : Array Value} {Z : State} (hw : ∀ d ∈ tables_1, d.before a0 Z = true) : (Jvm.Cond.declares ({ cls := "com/example/earnest_reactor/earnestreactor/cli/LatencyHistogram", name := "record", desc := "(J)V" } : Jvm.MethodName)).before a0 Z = true := hw _ (List.mem_of_getElem? (i := 42) rfl)
theorem wd_43 {a0 : Array Value} {Z : State} (hw : ∀ d ∈ tables_1, d.before a0 Z = true) : (Jvm.Cond.instanceMethod ({ cls := "com/example/earnest_reactor/earnestreactor/cli/LatencyHistogram", name := "record", desc := "(J)V" } : Jvm.MethodName)).before a0 Z = true := hw _ (List.mem_of_getElem? (i := 43) rfl)
theorem wd_44 {a0 : Array Value} {Z : State} (hw : ∀ d ∈ tables_1, d.before a0 Z = true) : (Jvm.Cond.selects "com/example/earnest_reactor/earnestreactor/cli/LatencyHistogram" ({ cls := "com/example/earnest_reactor/earnestreactor/cli/LatencyHistogram", name := "record", desc := "(J)V" } : Jvm.MethodName) ({ cls := "com/example/earnest_reactor/earnestreactor/cli/LatencyHistogram", name := "record", desc := "(J)V" } : Jvm.MethodName)).before a0 Z = true := hw _ (List.mem_of_getElem? (i := 44) rfl)
theorem wd_45 {a0 : Array Value} {Z : State} (hw : ∀ d ∈ tables_1, d.before a0 Z = true) : (Jvm.Cond.code ({ cls := "com/example/earnest_reactor/earnestreactor/cli/LatencyHistogram", name := "record", desc := "(J)V" } : Jvm.MethodName) prog_2_method_2_code (3 : Nat) (Option.none : Option Jvm.ClassFile.FieldType)).before a0 Z = true := hw _ (List.mem_of_getElem? (i := 45) rfl)
theorem wd_46 {a0 : Array Value} {Z : State} (hw : ∀ d ∈ tables_1, d.before a0 Z = true) : (Jvm.Cond.constantDouble "com/example/earnest_reactor/earnestreactor/cli/LatencyHistogram" (25 : Nat) (4636737291354636288 : UInt64)).before a0 Z = true := hw _ (List.mem_of_getElem? (i := 46) rfl)
theorem wd_47 {a0 : Array Value} {Z : State} (hw : ∀ d ∈ tables_1, d.before a0 Z = true) : (Jvm.Cond.methodLink "com/example/earnest_reactor/earnestreactor/cli/LatencyHistogram" (27 : Nat) ({ cls := "java/lang/Math", name := "ceil", desc := "(D)D" } : Jvm.MethodName)).before a0 Z = true := hw _ (List.mem_of_getElem? (i := 47) rfl)
theorem wd_48 {a0 : Array Value} {Z : State} (hw : ∀ d ∈ tables_1, d.before a0 Z = true) : (Jvm.Cond.static ({ cls := "java/lang/Math", name := "ceil", desc := "(D)D" } : Jvm.MethodName)).before a0 Z = true := hw _ (List.mem_of_getElem? (i := 48) rfl)
theorem wd_49 {a0 : Array Value} {Z : State} (hw : ∀ d ∈ tables_1, d.before a0 Z = true) : (Jvm.Cond.initialized "java/lang/Math").before a0 Z = true := hw _ (List.mem_of_getElem? (i := 49) rfl)
theorem wd_50 {a0 : Array Value} {Z : State} (hw : ∀ d ∈ tables_1, d.before a0 Z = true) : (Jvm.Cond.code ({ cls := "java/lang/Math", name := "ceil", desc := "(D)D" } : Jvm.MethodName) jdk_29_method_16_code (2 : Nat) (Option.some Jvm.ClassFile.FieldType.double)).before a0 Z = true := hw _ (List.mem_of_getElem? (i := 50) rfl)
theorem wd_53 {a0 : Array Value} {Z : State} (hw : ∀ d ∈ tables_1, d.before a0 Z = true) : (Jvm.Cond.initialized "java/lang/StrictMath").before a0 Z = true := hw _ (List.mem_of_getElem? (i := 53) rfl)
theorem wd_54 {a0 : Array Value} {Z : State} (hw : ∀ d ∈ tables_1, d.before a0 Z = true) : (Jvm.Cond.code ({ cls := "java/lang/StrictMath", name := "ceil", desc := "(D)D" } : Jvm.MethodName) jdk_128_method_16_code (2 : Nat) (Option.some Jvm.ClassFile.FieldType.double)).before a0 Z = true := hw _ (List.mem_of_getElem? (i := 54) rfl)
theorem wd_55 {a0 : Array Value} {Z : State} (hw : ∀ d ∈ tables_1, d.before a0 Z = true) : (Jvm.Cond.constantDouble "java/lang/StrictMath" (58 : Nat) (9223372036854775808 : UInt64)).before a0 Z = true := hw _ (List.mem_of_getElem? (i := 55) rfl)
theorem wd_56 {a0 : Array Value} {Z : State} (hw : ∀ d ∈ tables_1, d.before a0 Z = true) : (Jvm.Cond.methodLink "java/lang/StrictMath" (60 : Nat) ({ cls := "java/lang/StrictMath", name := "floorOrCeil", desc := "(DDDD)D" } : Jvm.MethodName)).before a0 Z = true := hw _ (List.mem_of_getElem? (i := 56) rfl)
theorem wd_57 {a0 : Array Value} {Z : State} (hw : ∀ d ∈ tables_1, d.before a0 Z = true) : (Jvm.Cond.static ({ cls := "java/lang/StrictMath", name := "floorOrCeil", desc := "(DDDD)D" } : Jvm.MethodName)).before a0 Z = true := hw _ (List.mem_of_getElem? (i := 57) rfl)
theorem wd_58 {a0 : Array Value} {Z : State} (hw : ∀ d ∈ tables_1, d.before a0 Z = true) : (Jvm.Cond.code ({ cls := "java/lang/StrictMath", name := "floorOrCeil", desc := "(DDDD)D" } : Jvm.MethodName) jdk_128_method_18_code (15 : Nat) (Option.some Jvm.ClassFile.FieldType.double)).before a0 Z = true := hw _ (List.mem_of_getElem? (i := 58) rfl)
theorem wd_59 {a0 : Array Value} {Z : State} (hw : ∀ d ∈ tables_1, d.before a0 Z = true) : (Jvm.Cond.methodLink "java/lang/StrictMath" (66 : Nat) ({ cls := "java/lang/Math", name := "getExponent", desc := "(D)I" } : Jvm.MethodName)).before a0 Z = true := hw _ (List.mem_of_getElem? (i := 59) rfl)
theorem wd_60 {a0 : Array Value} {Z : State} (hw : ∀ d ∈ tables_1, d.before a0 Z = true) : (Jvm.Cond.static ({ cls := "java/lang/Math", name := "getExponent", desc := "(D)I" } : Jvm.MethodName)).before a0 Z = true := hw _ (List.mem_of_getElem? (i := 60) rfl)
theorem wd_61 {a0 : Array Value} {Z : State} (hw : ∀ d ∈ tables_1, d.before a0 Z = true) : (Jvm.Cond.code ({ cls := "java/lang/Math", name := "getExponent", desc := "(D)I" } : Jvm.MethodName) jdk_29_method_92_code (2 : Nat) (Option.some Jvm.ClassFile.FieldType.int)).before a0 Z = true := hw _ (List.mem_of_getElem? (i := 61) rfl)
theorem wd_62 {a0 : Array Value} {Z : State} (hw : ∀ d ∈ tables_1, d.before a0 Z = true) : (Jvm.Cond.methodLink "java/lang/Math" (79 : Nat) ({ cls := "java/lang/Double", name := "doubleToRawLongBits", desc := "(D)J" } : Jvm.MethodName)).before a0 Z = true := hw _ (List.mem_of_getElem? (i := 62) rfl)
theorem wd_63 {a0 : Array Value} {Z : State} (hw : ∀ d ∈ tables_1, d.before a0 Z = true) : (Jvm.Cond.static ({ cls := "java/lang/Double", name := "doubleToRawLongBits", desc := "(D)J" } : Jvm.MethodName)).before a0 Z = true := hw _ (List.mem_of_getElem? (i := 63) rfl)
theorem wd_64 {a0 : Array Value} {Z : State} (hw : ∀ d ∈ tables_1, d.before a0 Z = true) : (Jvm.Cond.initialized "java/lang/Double").before a0 Z = true := hw _ (List.mem_of_getElem? (i := 64) rfl)
theorem wd_65 {a0 : Array Value} {Z : State} (hw : ∀ d ∈ tables_1, d.before a0 Z = true) : (Jvm.Cond.native ({ cls := "java/lang/Double", name := "doubleToRawLongBits", desc := "(D)J" } : Jvm.MethodName)).before a0 Z = true := hw _ (List.mem_of_getElem? (i := 65) rfl)
theorem wd_66 {a0 : Array Value} {Z : State} (hw : ∀ d ∈ tables_1, d.before a0 Z = true) : (Jvm.Cond.constantLong "java/lang/Math" (87 : Nat) (9218868437227405312 : Int64)).before a0 Z = true := hw _ (List.mem_of_getElem? (i := 66) rfl)
theorem wd_67 {a0 : Array Value} {Z : State} (hw : ∀ d ∈ tables_1, d.before a0 Z = true) : (Jvm.Cond.constantLong "java/lang/Math" (322 : Nat) (1023 : Int64)).before a0 Z = true := hw _ (List.mem_of_getElem? (i := 67) rfl)
theorem wd_68 {a0 : Array Value} {Z : State} (hw : ∀ d ∈ tables_1, d.before a0 Z = true) : (Jvm.Cond.fieldLink "java/lang/StrictMath" (70 : Nat) "java/lang/StrictMath" "$assertionsDisabled" "Z").before a0 Z = true := hw _ (List.mem_of_getElem? (i := 68) rfl)
theorem wd_69 {a0 : Array Value} {Z : State} (hw : ∀ d ∈ tables_1, d.before a0 Z = true) : (Jvm.Cond.methodLink "java/lang/StrictMath" (77 : Nat) ({ cls := "java/lang/Double", name := "doubleToRawLongBits", desc := "(D)J" } : Jvm.MethodName)).before a0 Z = true := hw _ (List.mem_of_getElem? (i := 69) rfl)
theorem wd_70 {a0 : Array Value} {Z : State} (hw : ∀ d ∈ tables_1, d.before a0 Z = true) : (Jvm.Cond.constantLong "java/lang/StrictMath" (85 : Nat) (4503599627370495 : Int64)).before a0 Z = true := hw _ (List.mem_of_getElem? (i := 70) rfl)
theorem wd_71 {a0 : Array Value} {Z : State} (hw : ∀ d ∈ tables_1, d.before a0 Z = true) : (Jvm.Cond.methodLink "com/example/earnest_reactor/earnestreactor/cli/LatencyHistogram" (33 : Nat) ({ cls := "java/lang/Math", name := "max", desc := "(JJ)J" } : Jvm.MethodName)).before a0 Z = true := hw _ (List.mem_of_getElem? (i := 71) rfl)
theorem wd_72 {a0 : Array Value} {Z : State} (hw : ∀ d ∈ tables_1, d.before a0 Z = true) : (Jvm.Cond.static ({ cls := "java/lang/Math", name := "max", desc := "(JJ)J" } : Jvm.MethodName)).before a0 Z = true := hw _ (List.mem_of_getElem? (i := 72) rfl)
theorem wd_73 {a0 : Array Value} {Z : State} (hw : ∀ d ∈ tables_1, d.before a0 Z = true) : (Jvm.Cond.code ({ cls := "java/lang/Math", name := "max", desc := "(JJ)J" } : Jvm.MethodName) jdk_29_method_66_code (4 : Nat) (Option.some Jvm.ClassFile.FieldType.long)).before a0 Z = true := hw _ (List.mem_of_getElem? (i := 73) rfl)
theorem wd_74 {a0 : Array Value} {Z : State} (hw : ∀ d ∈ tables_1, d.before a0 Z = true) : (Jvm.Cond.methodLink "com/example/earnest_reactor/earnestreactor/cli/LatencyHistogram" (37 : Nat) ({ cls := "com/example/earnest_reactor/earnestreactor/cli/LatencyHistogram", name := "lowest", desc := "(I)J" } : Jvm.MethodName)).before a0 Z = true := hw _ (List.mem_of_getElem? (i := 74) rfl)
theorem wd_75 {a0 : Array Value} {Z : State} (hw : ∀ d ∈ tables_1, d.before a0 Z = true) : (Jvm.Cond.static ({ cls := "com/example/earnest_reactor/earnestreactor/cli/LatencyHistogram", name := "lowest", desc := "(I)J" } : Jvm.MethodName)).before a0 Z = true := hw _ (List.mem_of_getElem? (i := 75) rfl)
theorem wd_76 {a0 : Array Value} {Z : State} (hw : ∀ d ∈ tables_1, d.before a0 Z = true) : (Jvm.Cond.code ({ cls := "com/example/earnest_reactor/earnestreactor/cli/LatencyHistogram", name := "lowest", desc := "(I)J" } : Jvm.MethodName) prog_2_method_6_code (4 : Nat) (Option.some Jvm.ClassFile.FieldType.long)).before a0 Z = true := hw _ (List.mem_of_getElem? (i := 76) rfl)
theorem wd_77 {a0 : Array Value} {Z : State} (hw : ∀ d ∈ tables_1, d.before a0 Z = true) : (Jvm.Cond.methodLink "com/example/earnest_reactor/earnestreactor/cli/LatencyHistogramAddPinLaw" (28 : Nat) ({ cls := "java/lang/Math", name := "min", desc := "(JJ)J" } : Jvm.MethodName)).before a0 Z = true := hw _ (List.mem_of_getElem? (i := 77) rfl)
theorem wd_78 {a0 : Array Value} {Z : State} (hw : ∀ d ∈ tables_1, d.before a0 Z = true) : (Jvm.Cond.static ({ cls := "java/lang/Math", name := "min", desc := "(JJ)J" } : Jvm.MethodName)).before a0 Z = true := hw _ (List.mem_of_getElem? (i := 78) rfl)
theorem wd_79 {a0 : Array Value} {Z : State} (hw : ∀ d ∈ tables_1, d.before a0 Z = true) : (Jvm.Cond.code ({ cls := "java/lang/Math", name := "min", desc := "(JJ)J" } : Jvm.MethodName) jdk_29_method_70_code (4 : Nat) (Option.some Jvm.ClassFile.FieldType.long)).before a0 Z = true := hw _ (List.mem_of_getElem? (i := 79) rfl)
theorem wd_80 {a0 : Array Value} {Z : State} (hw : ∀ d ∈ tables_1, d.before a0 Z = true) : (Jvm.Cond.methodLink "com/example/earnest_reactor/earnestreactor/cli/LatencyHistogramAddPinLaw" (34 : Nat) ({ cls := "java/lang/Math", name := "max", desc := "(JJ)J" } : Jvm.MethodName)).before a0 Z = true := hw _ (List.mem_of_getElem? (i := 80) rfl)
theorem d1_0 : decode prog_2_method_1_code 0 = .ok (.aload_n 0, 1) := by decide +kernel
theorem d1_1 : decode prog_2_method_1_code 1 = .ok (.invokespecial 3, 3) := by decide +kernel
theorem d1_4 : decode prog_2_method_1_code 4 = .ok (.aload_n 0, 1) := by decide +kernel
theorem d1_5 : decode prog_2_method_1_code 5 = .ok (.ldc2_w 11, 3) := by decide +kernel
theorem d1_8 : decode prog_2_method_1_code 8 = .ok (.invokestatic 13, 3) := by decide +kernel
theorem d1_11 : decode prog_2_method_1_code 11 = .ok (.iconst 1, 1) := by decide +kernel
theorem d1_12 : decode prog_2_method_1_code 12 = .ok (.iadd, 1) := by decide +kernel
theorem d1_13 : decode prog_2_method_1_code 13 = .ok (.newarray .long, 2) := by decide +kernel
theorem d1_15 : decode prog_2_method_1_code 15 = .ok (.putfield 17, 3) := by decide +kernel
theorem d1_18 : decode prog_2_method_1_code 18 = .ok (.return_, 1) := by decide +kernel
theorem d3_0 : decode prog_2_method_5_code 0 = .ok (.lload_n 0, 1) := by decide +kernel
theorem d3_1 : decode prog_2_method_5_code 1 = .ok (.ldc2_w 41, 3) := by decide +kernel
theorem d3_4 : decode prog_2_method_5_code 4 = .ok (.lcmp, 1) := by decide +kernel
theorem d3_5 : decode prog_2_method_5_code 5 = .ok (.ifCond .ge 9, 3) := by decide +kernel
theorem d3_8 : decode prog_2_method_5_code 8 = .ok (.lload_n 0, 1) := by decide +kernel
theorem d3_9 : decode prog_2_method_5_code 9 = .ok (.l2i, 1) := by decide +kernel
theorem d3_10 : decode prog_2_method_5_code 10 = .ok (.istore_n 2, 1) := by decide +kernel
theorem d3_11 : decode prog_2_method_5_code 11 = .ok (.goto 25, 3) := by decide +kernel
theorem d3_14 : decode prog_2_method_5_code 14 = .ok (.bipush 63, 2) := by decide +kernel
theorem d3_16 : decode prog_2_method_5_code 16 = .ok (.lload_n 0, 1) := by decide +kernel
theorem d3_17 : decode prog_2_method_5_code 17 = .ok (.invokestatic 43, 3) := by decide +kernel
theorem d3_20 : decode prog_2_method_5_code 20 = .ok (.isub, 1) := by decide +kernel
theorem d3_21 : decode prog_2_method_5_code 21 = .ok (.bipush 10, 2) := by decide +kernel
theorem d3_23 : decode prog_2_method_5_code 23 = .ok (.isub, 1) := by decide +kernel
theorem d3_24 : decode prog_2_method_5_code 24 = .ok (.istore_n 3, 1) := by decide +kernel
theorem d3_25 : decode prog_2_method_5_code 25 = .ok (.iload_n 3, 1) := by decide +kernel
theorem d3_26 : decode prog_2_method_5_code 26 = .ok (.sipush 1024, 3) := by decide +kernel
theorem d3_29 : decode prog_2_method_5_code 29 = .ok (.imul, 1) := by decide +kernel
theorem d3_30 : decode prog_2_method_5_code 30 = .ok (.lload_n 0, 1) := by decide +kernel
theorem d3_31 : decode prog_2_method_5_code 31 = .ok (.iload_n 3, 1) := by decide +kernel
theorem d3_32 : decode prog_2_method_5_code 32 = .ok (.lushr, 1) := by decide +kernel
theorem d3_33 : decode prog_2_method_5_code 33 = .ok (.l2i, 1) := by decide +kernel
theorem d3_34 : decode prog_2_method_5_code 34 = .ok (.iadd, 1) := by decide +kernel
theorem d3_35 : decode prog_2_method_5_code 35 = .ok (.istore_n 2, 1) := by decide +kernel
theorem d3_36 : decode prog_2_method_5_code 36 = .ok (.iload_n 2, 1) := by decide +kernel
theorem d3_37 : decode prog_2_method_5_code 37 = .ok (.ireturn, 1) := by decide +kernel
theorem d4_0 : decode jdk_35_method_48_code 0 = .ok (.lload_n 0, 1) := by decide +kernel
theorem d4_1 : decode jdk_35_method_48_code 1 = .ok (.bipush 32, 2) := by decide +kernel
theorem d4_3 : decode jdk_35_method_48_code 3 = .ok (.lushr, 1) := by decide +kernel
theorem d4_4 : decode jdk_35_method_48_code 4 = .ok (.l2i, 1) := by decide +kernel
theorem d4_5 : decode jdk_35_method_48_code 5 = .ok (.istore_n 2, 1) := by decide +kernel
theorem d4_6 : decode jdk_35_method_48_code 6 = .ok (.iload_n 2, 1) := by decide +kernel
theorem d4_7 : decode jdk_35_method_48_code 7 = .ok (.ifCond .ne 14, 3) := by decide +kernel
theorem d4_10 : decode jdk_35_method_48_code 10 = .ok (.bipush 32, 2) := by decide +kernel
theorem d4_12 : decode jdk_35_method_48_code 12 = .ok (.lload_n 0, 1) := by decide +kernel
theorem d4_13 : decode jdk_35_method_48_code 13 = .ok (.l2i, 1) := by decide +kernel
theorem d4_14 : decode jdk_35_method_48_code 14 = .ok (.invokestatic 308, 3) := by decide +kernel
theorem d4_17 : decode jdk_35_method_48_code 17 = .ok (.iadd, 1) := by decide +kernel
theorem d4_18 : decode jdk_35_method_48_code 18 = .ok (.goto 7, 3) := by decide +kernel
theorem d4_21 : decode jdk_35_method_48_code 21 = .ok (.iload_n 2, 1) := by decide +kernel
theorem d4_22 : decode jdk_35_method_48_code 22 = .ok (.invokestatic 308, 3) := by decide +kernel
theorem d4_25 : decode jdk_35_method_48_code 25 = .ok (.ireturn, 1) := by decide +kernel
theorem d5_0 : decode jdk_33_method_47_code 0 = .ok (.iload_n 0, 1) := by decide +kernel
theorem d5_1 : decode jdk_33_method_47_code 1 = .ok (.ifCond .gt 14, 3) := by decide +kernel
theorem d5_4 : decode jdk_33_method_47_code 4 = .ok (.iload_n 0, 1) := by decide +kernel
theorem d5_5 : decode jdk_33_method_47_code 5 = .ok (.ifCond .ne 8, 3) := by decide +kernel
theorem d5_13 : decode jdk_33_method_47_code 13 = .ok (.iconst 0, 1) := by decide +kernel
theorem d5_14 : decode jdk_33_method_47_code 14 = .ok (.ireturn, 1) := by decide +kernel
theorem d5_15 : decode jdk_33_method_47_code 15 = .ok (.bipush 31, 2) := by decide +kernel
theorem d5_17 : decode jdk_33_method_47_code 17 = .ok (.istore_n 1, 1) := by decide +kernel
theorem d5_18 : decode jdk_33_method_47_code 18 = .ok (.iload_n 0, 1) := by decide +kernel
theorem d5_19 : decode jdk_33_method_47_code 19 = .ok (.ldc_w 264, 3) := by decide +kernel
theorem d5_22 : decode jdk_33_method_47_code 22 = .ok (.if_icmp .lt 11, 3) := by decide +kernel
theorem d5_25 : decode jdk_33_method_47_code 25 = .ok (.iinc 1 (-16), 3) := by decide +kernel
theorem d5_28 : decode jdk_33_method_47_code 28 = .ok (.iload_n 0, 1) := by decide +kernel
theorem d5_29 : decode jdk_33_method_47_code 29 = .ok (.bipush 16, 2) := by decide +kernel
theorem d5_31 : decode jdk_33_method_47_code 31 = .ok (.iushr, 1) := by decide +kernel
theorem d5_32 : decode jdk_33_method_47_code 32 = .ok (.istore_n 0, 1) := by decide +kernel
theorem d5_33 : decode jdk_33_method_47_code 33 = .ok (.iload_n 0, 1) := by decide +kernel
theorem d5_34 : decode jdk_33_method_47_code 34 = .ok (.sipush 256, 3) := by decide +kernel
theorem d5_37 : decode jdk_33_method_47_code 37 = .ok (.if_icmp .lt 11, 3) := by decide +kernel
theorem d5_40 : decode jdk_33_method_47_code 40 = .ok (.iinc 1 (-8), 3) := by decide +kernel
theorem d5_43 : decode jdk_33_method_47_code 43 = .ok (.iload_n 0, 1) := by decide +kernel
theorem d5_44 : decode jdk_33_method_47_code 44 = .ok (.bipush 8, 2) := by decide +kernel
theorem d5_46 : decode jdk_33_method_47_code 46 = .ok (.iushr, 1) := by decide +kernel
theorem d5_47 : decode jdk_33_method_47_code 47 = .ok (.istore_n 0, 1) := by decide +kernel
theorem d5_48 : decode jdk_33_method_47_code 48 = .ok (.iload_n 0, 1) := by decide +kernel
theorem d5_49 : decode jdk_33_method_47_code 49 = .ok (.bipush 16, 2) := by decide +kernel
theorem d5_51 : decode jdk_33_method_47_code 51 = .ok (.if_icmp .lt 10, 3) := by decide +kernel
theorem d5_54 : decode jdk_33_method_47_code 54 = .ok (.iinc 1 (-4), 3) := by decide +kernel
theorem d5_57 : decode jdk_33_method_47_code 57 = .ok (.iload_n 0, 1) := by decide +kernel
theorem d5_58 : decode jdk_33_method_47_code 58 = .ok (.iconst 4, 1) := by decide +kernel
theorem d5_59 : decode jdk_33_method_47_code 59 = .ok (.iushr, 1) := by decide +kernel
theorem d5_60 : decode jdk_33_method_47_code 60 = .ok (.istore_n 0, 1) := by decide +kernel
theorem d5_61 : decode jdk_33_method_47_code 61 = .ok (.iload_n 0, 1) := by decide +kernel
theorem d5_62 : decode jdk_33_method_47_code 62 = .ok (.iconst 4, 1) := by decide +kernel
theorem d5_63 : decode jdk_33_method_47_code 63 = .ok (.if_icmp .lt 10, 3) := by decide +kernel
theorem d5_66 : decode jdk_33_method_47_code 66 = .ok (.iinc 1 (-2), 3) := by decide +kernel
theorem d5_69 : decode jdk_33_method_47_code 69 = .ok (.iload_n 0, 1) := by decide +kernel
theorem d5_70 : decode jdk_33_method_47_code 70 = .ok (.iconst 2, 1) := by decide +kernel
theorem d5_71 : decode jdk_33_method_47_code 71 = .ok (.iushr, 1) := by decide +kernel
theorem d5_72 : decode jdk_33_method_47_code 72 = .ok (.istore_n 0, 1) := by decide +kernel
theorem d5_73 : decode jdk_33_method_47_code 73 = .ok (.iload_n 1, 1) := by decide +kernel
theorem d5_74 : decode jdk_33_method_47_code 74 = .ok (.iload_n 0, 1) := by decide +kernel
theorem d5_75 : decode jdk_33_method_47_code 75 = .ok (.iconst 1, 1) := by decide +kernel
theorem d5_76 : decode jdk_33_method_47_code 76 = .ok (.iushr, 1) := by decide +kernel
theorem d5_77 : decode jdk_33_method_47_code 77 = .ok (.isub, 1) := by decide +kernel
theorem d5_78 : decode jdk_33_method_47_code 78 = .ok (.ireturn, 1) := by decide +kernel
theorem d6_0 : decode prog_2_method_4_code 0 = .ok (.aload_n 0, 1) := by decide +kernel
theorem d6_1 : decode prog_2_method_4_code 1 = .ok (.getfield 21, 3) := by decide +kernel
theorem d6_4 : decode prog_2_method_4_code 4 = .ok (.lconst 0, 1) := by decide +kernel
theorem d6_5 : decode prog_2_method_4_code 5 = .ok (.lcmp, 1) := by decide +kernel
theorem d6_6 : decode prog_2_method_4_code 6 = .ok (.ifCond .ne 5, 3) := by decide +kernel
theorem d6_9 : decode prog_2_method_4_code 9 = .ok (.lconst 0, 1) := by decide +kernel
theorem d6_10 : decode prog_2_method_4_code 10 = .ok (.lreturn, 1) := by decide +kernel
theorem d6_11 : decode prog_2_method_4_code 11 = .ok (.lconst 1, 1) := by decide +kernel
theorem d6_12 : decode prog_2_method_4_code 12 = .ok (.aload_n 0, 1) := by decide +kernel
theorem d6_13 : decode prog_2_method_4_code 13 = .ok (.getfield 21, 3) := by decide +kernel
theorem d6_16 : decode prog_2_method_4_code 16 = .ok (.l2d, 1) := by decide +kernel
theorem d6_17 : decode prog_2_method_4_code 17 = .ok (.dload_n 1, 1) := by decide +kernel
theorem d6_18 : decode prog_2_method_4_code 18 = .ok (.dmul, 1) := by decide +kernel
theorem d6_19 : decode prog_2_method_4_code 19 = .ok (.ldc2_w 25, 3) := by decide +kernel
theorem d6_22 : decode prog_2_method_4_code 22 = .ok (.ddiv, 1) := by decide +kernel
theorem d6_23 : decode prog_2_method_4_code 23 = .ok (.invokestatic 27, 3) := by decide +kernel
theorem d6_26 : decode prog_2_method_4_code 26 = .ok (.d2l, 1) := by decide +kernel
theorem d6_27 : decode prog_2_method_4_code 27 = .ok (.invokestatic 33, 3) := by decide +kernel
theorem d6_30 : decode prog_2_method_4_code 30 = .ok (.lstore_n 3, 1) := by decide +kernel
theorem d6_31 : decode prog_2_method_4_code 31 = .ok (.iconst 0, 1) := by decide +kernel
theorem d6_32 : decode prog_2_method_4_code 32 = .ok (.istore 5, 2) := by decide +kernel
theorem d6_34 : decode prog_2_method_4_code 34 = .ok (.aload_n 0, 1) := by decide +kernel
theorem d6_35 : decode prog_2_method_4_code 35 = .ok (.getfield 17, 3) := by decide +kernel
theorem d6_38 : decode prog_2_method_4_code 38 = .ok (.iconst 0, 1) := by decide +kernel
theorem d6_39 : decode prog_2_method_4_code 39 = .ok (.laload, 1) := by decide +kernel
theorem d6_40 : decode prog_2_method_4_code 40 = .ok (.lstore 6, 2) := by decide +kernel
theorem d6_42 : decode prog_2_method_4_code 42 = .ok (.lload 6, 2) := by decide +kernel
theorem d6_44 : decode prog_2_method_4_code 44 = .ok (.lload_n 3, 1) := by decide +kernel
theorem d6_45 : decode prog_2_method_4_code 45 = .ok (.lcmp, 1) := by decide +kernel
theorem d6_46 : decode prog_2_method_4_code 46 = .ok (.ifCond .ge 21, 3) := by decide +kernel
theorem d6_49 : decode prog_2_method_4_code 49 = .ok (.iinc 5 1, 3) := by decide +kernel
theorem d6_52 : decode prog_2_method_4_code 52 = .ok (.lload 6, 2) := by decide +kernel
theorem d6_54 : decode prog_2_method_4_code 54 = .ok (.aload_n 0, 1) := by decide +kernel
theorem d6_55 : decode prog_2_method_4_code 55 = .ok (.getfield 17, 3) := by decide +kernel
theorem d6_58 : decode prog_2_method_4_code 58 = .ok (.iload 5, 2) := by decide +kernel
theorem d6_60 : decode prog_2_method_4_code 60 = .ok (.laload, 1) := by decide +kernel
theorem d6_61 : decode prog_2_method_4_code 61 = .ok (.ladd, 1) := by decide +kernel
theorem d6_62 : decode prog_2_method_4_code 62 = .ok (.lstore 6, 2) := by decide +kernel
theorem d6_64 : decode prog_2_method_4_code 64 = .ok (.goto (-22), 3) := by decide +kernel
theorem d6_67 : decode prog_2_method_4_code 67 = .ok (.iload 5, 2) := by decide +kernel
theorem d6_69 : decode prog_2_method_4_code 69 = .ok (.invokestatic 37, 3) := by decide +kernel
theorem d6_72 : decode prog_2_method_4_code 72 = .ok (.lreturn, 1) := by decide +kernel
theorem d7_0 : decode prog_2_method_3_code 0 = .ok (.iconst 0, 1) := by decide +kernel
theorem d7_1 : decode prog_2_method_3_code 1 = .ok (.istore_n 2, 1) := by decide +kernel
theorem d7_2 : decode prog_2_method_3_code 2 = .ok (.iload_n 2, 1) := by decide +kernel
theorem d7_3 : decode prog_2_method_3_code 3 = .ok (.aload_n 0, 1) := by decide +kernel
theorem d7_4 : decode prog_2_method_3_code 4 = .ok (.getfield 17, 3) := by decide +kernel
theorem d7_7 : decode prog_2_method_3_code 7 = .ok (.arraylength, 1) := by decide +kernel
theorem d7_8 : decode prog_2_method_3_code 8 = .ok (.if_icmp .ge 24, 3) := by decide +kernel
theorem d7_11 : decode prog_2_method_3_code 11 = .ok (.aload_n 0, 1) := by decide +kernel
theorem d7_12 : decode prog_2_method_3_code 12 = .ok (.getfield 17, 3) := by decide +kernel
theorem d7_15 : decode prog_2_method_3_code 15 = .ok (.iload_n 2, 1) := by decide +kernel
theorem d7_16 : decode prog_2_method_3_code 16 = .ok (.dup2, 1) := by decide +kernel
theorem d7_17 : decode prog_2_method_3_code 17 = .ok (.laload, 1) := by decide +kernel
theorem d7_18 : decode prog_2_method_3_code 18 = .ok (.aload_n 1, 1) := by decide +kernel
theorem d7_19 : decode prog_2_method_3_code 19 = .ok (.getfield 17, 3) := by decide +kernel
theorem d7_22 : decode prog_2_method_3_code 22 = .ok (.iload_n 2, 1) := by decide +kernel
theorem d7_23 : decode prog_2_method_3_code 23 = .ok (.laload, 1) := by decide +kernel
theorem d7_24 : decode prog_2_method_3_code 24 = .ok (.ladd, 1) := by decide +kernel
theorem d7_25 : decode prog_2_method_3_code 25 = .ok (.lastore, 1) := by decide +kernel
theorem d7_26 : decode prog_2_method_3_code 26 = .ok (.iinc 2 1, 3) := by decide +kernel
theorem d7_29 : decode prog_2_method_3_code 29 = .ok (.goto (-27), 3) := by decide +kernel
theorem d7_32 : decode prog_2_method_3_code 32 = .ok (.aload_n 0, 1) := by decide +kernel
theorem d7_33 : decode prog_2_method_3_code 33 = .ok (.dup, 1) := by decide +kernel
theorem d7_34 : decode prog_2_method_3_code 34 = .ok (.getfield 21, 3) := by decide +kernel
theorem d7_37 : decode prog_2_method_3_code 37 = .ok (.aload_n 1, 1) := by decide +kernel
theorem d7_38 : decode prog_2_method_3_code 38 = .ok (.getfield 21, 3) := by decide +kernel
theorem d7_41 : decode prog_2_method_3_code 41 = .ok (.ladd, 1) := by decide +kernel
theorem d7_42 : decode prog_2_method_3_code 42 = .ok (.putfield 21, 3) := by decide +kernel
theorem d7_45 : decode prog_2_method_3_code 45 = .ok (.return_, 1) := by decide +kernel
theorem d8_0 : decode prog_2_method_2_code 0 = .ok (.aload_n 0, 1) := by decide +kernel
theorem d8_1 : decode prog_2_method_2_code 1 = .ok (.getfield 17, 3) := by decide +kernel
theorem d8_4 : decode prog_2_method_2_code 4 = .ok (.lload_n 1, 1) := by decide +kernel
theorem d8_5 : decode prog_2_method_2_code 5 = .ok (.invokestatic 13, 3) := by decide +kernel
theorem d8_8 : decode prog_2_method_2_code 8 = .ok (.dup2, 1) := by decide +kernel
theorem d8_9 : decode prog_2_method_2_code 9 = .ok (.laload, 1) := by decide +kernel
theorem d8_10 : decode prog_2_method_2_code 10 = .ok (.lconst 1, 1) := by decide +kernel
theorem d8_11 : decode prog_2_method_2_code 11 = .ok (.ladd, 1) := by decide +kernel
theorem d8_12 : decode prog_2_method_2_code 12 = .ok (.lastore, 1) := by decide +kernel
theorem d8_13 : decode prog_2_method_2_code 13 = .ok (.aload_n 0, 1) := by decide +kernel
theorem d8_14 : decode prog_2_method_2_code 14 = .ok (.dup, 1) := by decide +kernel
theorem d8_15 : decode prog_2_method_2_code 15 = .ok (.getfield 21, 3) := by decide +kernel
theorem d8_18 : decode prog_2_method_2_code 18 = .ok (.lconst 1, 1) := by decide +kernel
theorem d8_19 : decode prog_2_method_2_code 19 = .ok (.ladd, 1) := by decide +kernel
theorem d8_20 : decode prog_2_method_2_code 20 = .ok (.putfield 21, 3) := by decide +kernel
theorem d8_23 : decode prog_2_method_2_code 23 = .ok (.return_, 1) := by decide +kernel
theorem d10_0 : decode jdk_128_method_16_code 0 = .ok (.dload_n 0, 1) := by decide +kernel
theorem d10_1 : decode jdk_128_method_16_code 1 = .ok (.ldc2_w 58, 3) := by decide +kernel
theorem d10_4 : decode jdk_128_method_16_code 4 = .ok (.dconst 1, 1) := by decide +kernel
theorem d10_5 : decode jdk_128_method_16_code 5 = .ok (.dconst 1, 1) := by decide +kernel
theorem d10_6 : decode jdk_128_method_16_code 6 = .ok (.invokestatic 60, 3) := by decide +kernel
theorem d10_9 : decode jdk_128_method_16_code 9 = .ok (.dreturn, 1) := by decide +kernel
theorem d11_0 : decode jdk_128_method_18_code 0 = .ok (.dload_n 0, 1) := by decide +kernel
theorem d11_1 : decode jdk_128_method_18_code 1 = .ok (.invokestatic 66, 3) := by decide +kernel
theorem d11_4 : decode jdk_128_method_18_code 4 = .ok (.istore 8, 2) := by decide +kernel
theorem d11_6 : decode jdk_128_method_18_code 6 = .ok (.iload 8, 2) := by decide +kernel
theorem d11_8 : decode jdk_128_method_18_code 8 = .ok (.ifCond .ge 26, 3) := by decide +kernel
theorem d11_11 : decode jdk_128_method_18_code 11 = .ok (.dload_n 0, 1) := by decide +kernel
theorem d11_12 : decode jdk_128_method_18_code 12 = .ok (.dconst 0, 1) := by decide +kernel
theorem d11_13 : decode jdk_128_method_18_code 13 = .ok (.dcmp .l, 1) := by decide +kernel
theorem d11_14 : decode jdk_128_method_18_code 14 = .ok (.ifCond .ne 7, 3) := by decide +kernel
theorem d11_21 : decode jdk_128_method_18_code 21 = .ok (.dload_n 0, 1) := by decide +kernel
theorem d11_22 : decode jdk_128_method_18_code 22 = .ok (.dconst 0, 1) := by decide +kernel
theorem d11_23 : decode jdk_128_method_18_code 23 = .ok (.dcmp .g, 1) := by decide +kernel
theorem d11_24 : decode jdk_128_method_18_code 24 = .ok (.ifCond .ge 7, 3) := by decide +kernel
theorem d11_31 : decode jdk_128_method_18_code 31 = .ok (.dload 4, 2) := by decide +kernel
theorem d11_33 : decode jdk_128_method_18_code 33 = .ok (.dreturn, 1) := by decide +kernel
theorem d11_34 : decode jdk_128_method_18_code 34 = .ok (.iload 8, 2) := by decide +kernel
theorem d11_36 : decode jdk_128_method_18_code 36 = .ok (.bipush 52, 2) := by decide +kernel
theorem d11_38 : decode jdk_128_method_18_code 38 = .ok (.if_icmp .lt 5, 3) := by decide +kernel
theorem d11_43 : decode jdk_128_method_18_code 43 = .ok (.getstatic 70, 3) := by decide +kernel
theorem d11_46 : decode jdk_128_method_18_code 46 = .ok (.ifCond .ne 23, 3) := by decide +kernel
theorem d11_69 : decode jdk_128_method_18_code 69 = .ok (.dload_n 0, 1) := by decide +kernel
theorem d11_70 : decode jdk_128_method_18_code 70 = .ok (.invokestatic 77, 3) := by decide +kernel
theorem d11_73 : decode jdk_128_method_18_code 73 = .ok (.lstore 9, 2) := by decide +kernel
theorem d11_75 : decode jdk_128_method_18_code 75 = .ok (.ldc2_w 85, 3) := by decide +kernel
theorem d11_78 : decode jdk_128_method_18_code 78 = .ok (.iload 8, 2) := by decide +kernel
theorem d11_80 : decode jdk_128_method_18_code 80 = .ok (.lshr, 1) := by decide +kernel
theorem d11_81 : decode jdk_128_method_18_code 81 = .ok (.lstore 11, 2) := by decide +kernel
theorem d11_83 : decode jdk_128_method_18_code 83 = .ok (.lload 11, 2) := by decide +kernel
theorem d11_85 : decode jdk_128_method_18_code 85 = .ok (.lload 9, 2) := by decide +kernel
theorem d11_87 : decode jdk_128_method_18_code 87 = .ok (.land, 1) := by decide +kernel
theorem d11_88 : decode jdk_128_method_18_code 88 = .ok (.lconst 0, 1) := by decide +kernel
theorem d11_89 : decode jdk_128_method_18_code 89 = .ok (.lcmp, 1) := by decide +kernel
theorem d11_90 : decode jdk_128_method_18_code 90 = .ok (.ifCond .ne 5, 3) := by decide +kernel
theorem d11_93 : decode jdk_128_method_18_code 93 = .ok (.dload_n 0, 1) := by decide +kernel
theorem d11_94 : decode jdk_128_method_18_code 94 = .ok (.dreturn, 1) := by decide +kernel
theorem d12_0 : decode jdk_29_method_92_code 0 = .ok (.dload_n 0, 1) := by decide +kernel
theorem d12_1 : decode jdk_29_method_92_code 1 = .ok (.invokestatic 79, 3) := by decide +kernel
theorem d12_4 : decode jdk_29_method_92_code 4 = .ok (.ldc2_w 87, 3) := by decide +kernel
theorem d12_7 : decode jdk_29_method_92_code 7 = .ok (.land, 1) := by decide +kernel
theorem d12_8 : decode jdk_29_method_92_code 8 = .ok (.bipush 52, 2) := by decide +kernel
theorem d12_10 : decode jdk_29_method_92_code 10 = .ok (.lshr, 1) := by decide +kernel
theorem d12_11 : decode jdk_29_method_92_code 11 = .ok (.ldc2_w 322, 3) := by decide +kernel
theorem d12_14 : decode jdk_29_method_92_code 14 = .ok (.lsub, 1) := by decide +kernel
theorem d12_15 : decode jdk_29_method_92_code 15 = .ok (.l2i, 1) := by decide +kernel
theorem d12_16 : decode jdk_29_method_92_code 16 = .ok (.ireturn, 1) := by decide +kernel
theorem d13_0 : decode jdk_29_method_66_code 0 = .ok (.lload_n 0, 1) := by decide +kernel
theorem d13_1 : decode jdk_29_method_66_code 1 = .ok (.lload_n 2, 1) := by decide +kernel
theorem d13_2 : decode jdk_29_method_66_code 2 = .ok (.lcmp, 1) := by decide +kernel
theorem d13_3 : decode jdk_29_method_66_code 3 = .ok (.ifCond .lt 7, 3) := by decide +kernel
theorem d13_6 : decode jdk_29_method_66_code 6 = .ok (.lload_n 0, 1) := by decide +kernel
theorem d13_7 : decode jdk_29_method_66_code 7 = .ok (.goto 4, 3) := by decide +kernel
theorem d13_10 : decode jdk_29_method_66_code 10 = .ok (.lload_n 2, 1) := by decide +kernel
theorem d13_11 : decode jdk_29_method_66_code 11 = .ok (.lreturn, 1) := by decide +kernel
theorem d14_0 : decode prog_2_method_6_code 0 = .ok (.iload_n 0, 1) := by decide +kernel
theorem d14_1 : decode prog_2_method_6_code 1 = .ok (.sipush 2048, 3) := by decide +kernel
theorem d14_4 : decode prog_2_method_6_code 4 = .ok (.if_icmp .ge 9, 3) := by decide +kernel
theorem d14_7 : decode prog_2_method_6_code 7 = .ok (.iload_n 0, 1) := by decide +kernel
theorem d14_8 : decode prog_2_method_6_code 8 = .ok (.i2l, 1) := by decide +kernel
theorem d14_9 : decode prog_2_method_6_code 9 = .ok (.lstore_n 1, 1) := by decide +kernel
theorem d14_10 : decode prog_2_method_6_code 10 = .ok (.goto 22, 3) := by decide +kernel
theorem d14_13 : decode prog_2_method_6_code 13 = .ok (.iload_n 0, 1) := by decide +kernel
theorem d14_14 : decode prog_2_method_6_code 14 = .ok (.sipush 1024, 3) := by decide +kernel
theorem d14_17 : decode prog_2_method_6_code 17 = .ok (.idiv, 1) := by decide +kernel
theorem d14_18 : decode prog_2_method_6_code 18 = .ok (.iconst 1, 1) := by decide +kernel
theorem d14_19 : decode prog_2_method_6_code 19 = .ok (.isub, 1) := by decide +kernel
theorem d14_20 : decode prog_2_method_6_code 20 = .ok (.istore_n 3, 1) := by decide +kernel
theorem d14_21 : decode prog_2_method_6_code 21 = .ok (.iload_n 0, 1) := by decide +kernel
theorem d14_22 : decode prog_2_method_6_code 22 = .ok (.iload_n 3, 1) := by decide +kernel
theorem d14_23 : decode prog_2_method_6_code 23 = .ok (.sipush 1024, 3) := by decide +kernel
theorem d14_26 : decode prog_2_method_6_code 26 = .ok (.imul, 1) := by decide +kernel
theorem d14_27 : decode prog_2_method_6_code 27 = .ok (.isub, 1) := by decide +kernel
theorem d14_28 : decode prog_2_method_6_code 28 = .ok (.i2l, 1) := by decide +kernel
theorem d14_29 : decode prog_2_method_6_code 29 = .ok (.iload_n 3, 1) := by decide +kernel
theorem d14_30 : decode prog_2_method_6_code 30 = .ok (.lshl, 1) := by decide +kernel
theorem d14_31 : decode prog_2_method_6_code 31 = .ok (.lstore_n 1, 1) := by decide +kernel
theorem d14_32 : decode prog_2_method_6_code 32 = .ok (.lload_n 1, 1) := by decide +kernel
theorem d14_33 : decode prog_2_method_6_code 33 = .ok (.lreturn, 1) := by decide +kernel
theorem d15_0 : decode jdk_29_method_70_code 0 = .ok (.lload_n 0, 1) := by decide +kernel
theorem d15_1 : decode jdk_29_method_70_code 1 = .ok (.lload_n 2, 1) := by decide +kernel
theorem d15_2 : decode jdk_29_method_70_code 2 = .ok (.lcmp, 1) := by decide +kernel
theorem d15_3 : decode jdk_29_method_70_code 3 = .ok (.ifCond .gt 7, 3) := by decide +kernel
theorem d15_6 : decode jdk_29_method_70_code 6 = .ok (.lload_n 0, 1) := by decide +kernel
theorem d15_7 : decode jdk_29_method_70_code 7 = .ok (.goto 4, 3) := by decide +kernel
theorem d15_10 : decode jdk_29_method_70_code 10 = .ok (.lload_n 2, 1) := by decide +kernel
theorem d15_11 : decode jdk_29_method_70_code 11 = .ok (.lreturn, 1) := by decide +kernel
theorem own_pn0 : plainName "java/lang/Integer" = true := by first | (simp [plainName, overriddenIn]; done) | decide +kernel
theorem own_pd1 : parseMethodDescriptor "(I)I" = some ⟨[.int], some .int⟩ := by decide +kernel
theorem own_pn2 : plainName "java/lang/Long" = true := by first | (simp [plainName, overriddenIn]; done) | decide +kernel
theorem own_pd3 : parseMethodDescriptor "(J)I" = some ⟨[.long], some .int⟩ := by decide +kernel
theorem own_pn4 : plainName "com/example/earnest_reactor/earnestreactor/cli/LatencyHistogram" = true := by first | (simp [plainName, overriddenIn]; done) | decide +kernel
theorem own_pd5 : parseMethodDescriptor "(D)I" = some ⟨[.double], some .int⟩ := by decide +kernel
theorem own_pd6 : parseMethodDescriptor "(I)J" = some ⟨[.int], some .long⟩ := by decide +kernel
theorem own_pd7 : parseMethodDescriptor "(JJ)J" = some ⟨[.long, .long], some .long⟩ := by decide +kernel
theorem own_pd8 : parseMethodDescriptor "()V" = some ⟨[], none⟩ := by decide +kernel
theorem own_pd9 : parseMethodDescriptor "(D)J" = some ⟨[.double], some .long⟩ := by decide +kernel
theorem own_pd10 : parseMethodDescriptor "(Lcom/example/earnest_reactor/earnestreactor/cli/LatencyHistogram;)V" = some ⟨[(.object "com/example/earnest_reactor/earnestreactor/cli/LatencyHistogram")], none⟩ := by decide +kernel
theorem own_pd11 : parseMethodDescriptor "(J)V" = some ⟨[.long], none⟩ := by decide +kernel
theorem own_pn12 : plainName "com/example/earnest_reactor/earnestreactor/cli/LatencyHistogramAddPinLaw" = true := by first | (simp [plainName, overriddenIn]; done) | decide +kernel
set_option maxRecDepth 65536 in
theorem own_lk0 {p : Program} {l : Launch} {e : Env} {R : Room} {s : State} {m : MethodId} {args : Array Value} {below : List Frame} {meth : Method} {c : Code} {T : State} {locs : List Loc} {cells slots : Nat} {F : Option Value → State → Prop} {bs : ByteArray} {pc pc' : Nat} {Ls : Array Slot} {Z : State} {a0 : Array Value} {h : Heap} {x0 : Value} {rest : List Value} {W : Nat} {rm : Room} {Q : Option Value → Heap → List Loc → Prop} (hw : ∀ d ∈ tables_1, d.before a0 Z = true) (X : Stand p l e R s m args below meth c T locs cells slots) (hx : p.tables.exec = Jvm.exec) (hZ : Z.Warmed39 s.vm) (hby : c.code = bs) (hsz : Ls.size = c.maxLocals) (hown : s.vm.findClass "java/lang/Long" = some m.cls) (hd : decode bs pc = .ok (.invokestatic 308, 3)) (hp : pc + 3 = pc') (eT : T.heap = h) (hW : (rest.map fun v => v.category).sum ≤ W)
    (hM : MetFree l (⟨"java/lang/Integer", "numberOfLeadingZeros", "(I)I"⟩ : MethodName) (head1 [(Cond.code (⟨"java/lang/Integer", "numberOfLeadingZeros", "(I)I"⟩ : MethodName) jdk_33_method_47_code 2 (some .int))] rm) (fun aa U => aa = #[x0] ∧ Z.Warmed39 U.vm ∧ U.heap = h) (fun _ _ _ _ _ => True) (fun _ U o U' => ∃ v L, o = .returned v ∧ Q v U'.heap L ∧ FrameEnd U o U' L rm.cells rm.slots)) (hf : rm.frames + 1 ≤ R.frames) (hl : W + (2 + 11) + rm.locals ≤ R.locals) (hc : cells + rm.cells ≤ R.cells) (hs : slots + rm.slots ≤ R.slots)
    (k : ∀ v T' L', Stand p l e R s m args below meth c T' (locs ++ L') (cells + rm.cells) (slots + rm.slots) → Q v T'.heap L' → own_End p e below F (T'.setTop (mkF m pc' Ls (v.toList ++ rest)))) : own_End p e below F (T.setTop (mkF m pc Ls (x0 :: rest))) := by
  subst hp
  obtain ⟨v, _, ⟨T', L0, k0, n0⟩, -, X', ⟨L', hQ, e1, e2, e3⟩, stp⟩ := Jvm.LawKit.callS X hx (y := (⟨"java/lang/Integer", "numberOfLeadingZeros", "(I)I"⟩ : MethodName)) hown (mvT hZ (wd_19 hw)) (mvT hZ (wd_20 hw)) (mvT hZ (wd_21 hw)) (mvT hZ (wd_22 hw)) (by decide) (backOf (W := W) hM hZ (wd_22 hw) (wd_21 hw) hf hl) (g := mkF m pc Ls (x0 :: rest)) rfl hsz (argsL := [x0]) (rest := rest) (lenOf own_pd1 rfl) rfl (by show 2 * 0 + _ ≤ _; omega) (hb hby hd) (fun _ _ => ⟨rfl, eT, hc, hs⟩)
  dsimp only [Pt.U, Pt.locs, Pt.cells, Pt.slots] at X' e1 e2 e3 stp hQ
  subst e1 e2 e3
  exact own_step stp (k v T' L' X' hQ)
set_option maxRecDepth 65536 in
theorem own_lk1 {p : Program} {l : Launch} {e : Env} {R : Room} {s : State} {m : MethodId} {args : Array Value} {below : List Frame} {meth : Method} {c : Code} {T : State} {locs : List Loc} {cells slots : Nat} {F : Option Value → State → Prop} {bs : ByteArray} {pc pc' : Nat} {Ls : Array Slot} {Z : State} {a0 : Array Value} {h : Heap} {x0 : Value} {rest : List Value} {W : Nat} {rm : Room} {Q : Option Value → Heap → List Loc → Prop} (hw : ∀ d ∈ tables_1, d.before a0 Z = true) (X : Stand p l e R s m args below meth c T locs cells slots) (hx : p.tables.exec = Jvm.exec) (hZ : Z.Warmed39 s.vm) (hby : c.code = bs) (hsz : Ls.size = c.maxLocals) (hown : s.vm.findClass "com/example/earnest_reactor/earnestreactor/cli/LatencyHistogram" = some m.cls) (hd : decode bs pc = .ok (.invokestatic 43, 3)) (hp : pc + 3 = pc') (eT : T.heap = h) (hW : (rest.map fun v => v.category).sum ≤ W)
    (hM : MetFree l (⟨"java/lang/Long", "numberOfLeadingZeros", "(J)I"⟩ : MethodName) (head1 [(Cond.code (⟨"java/lang/Long", "numberOfLeadingZeros", "(J)I"⟩ : MethodName) jdk_35_method_48_code 3 (some .int))] rm) (fun aa U => aa = #[x0] ∧ Z.Warmed39 U.vm ∧ U.heap = h) (fun _ _ _ _ _ => True) (fun _ U o U' => ∃ v L, o = .returned v ∧ Q v U'.heap L ∧ FrameEnd U o U' L rm.cells rm.slots)) (hf : rm.frames + 1 ≤ R.frames) (hl : W + (3 + 11) + rm.locals ≤ R.locals) (hc : cells + rm.cells ≤ R.cells) (hs : slots + rm.slots ≤ R.slots)
    (k : ∀ v T' L', Stand p l e R s m args below meth c T' (locs ++ L') (cells + rm.cells) (slots + rm.slots) → Q v T'.heap L' → own_End p e below F (T'.setTop (mkF m pc' Ls (v.toList ++ rest)))) : own_End p e below F (T.setTop (mkF m pc Ls (x0 :: rest))) := by
  subst hp
  obtain ⟨v, _, ⟨T', L0, k0, n0⟩, -, X', ⟨L', hQ, e1, e2, e3⟩, stp⟩ := Jvm.LawKit.callS X hx (y := (⟨"java/lang/Long", "numberOfLeadingZeros", "(J)I"⟩ : MethodName)) hown (mvT hZ (wd_15 hw)) (mvT hZ (wd_16 hw)) (mvT hZ (wd_17 hw)) (mvT hZ (wd_18 hw)) (by decide) (backOf (W := W) hM hZ (wd_18 hw) (wd_17 hw) hf hl) (g := mkF m pc Ls (x0 :: rest)) rfl hsz (argsL := [x0]) (rest := rest) (lenOf own_pd3 rfl) rfl (by show 2 * 0 + _ ≤ _; omega) (hb hby hd) (fun _ _ => ⟨rfl, eT, hc, hs⟩)
  dsimp only [Pt.U, Pt.locs, Pt.cells, Pt.slots] at X' e1 e2 e3 stp hQ
  subst e1 e2 e3
  exact own_step stp (k v T' L' X' hQ)
set_option maxRecDepth 65536 in
theorem own_lk2 {p : Program} {l : Launch} {e : Env} {R : Room} {s : State} {m : MethodId} {args : Array Value} {below : List Frame} {meth : Method} {c : Code} {T : State} {locs : List Loc} {cells slots : Nat} {F : Option Value → State → Prop} {bs : ByteArray} {pc pc' : Nat} {Ls : Array Slot} {Z : State} {a0 : Array Value} {h : Heap} {x0 : Value} {rest : List Value} {W : Nat} {rm : Room} {Q : Option Value → Heap → List Loc → Prop} (hw : ∀ d ∈ tables_1, d.before a0 Z = true) (X : Stand p l e R s m args below meth c T locs cells slots) (hx : p.tables.exec = Jvm.exec) (hZ : Z.Warmed39 s.vm) (hby : c.code = bs) (hsz : Ls.size = c.maxLocals) (hown : s.vm.findClass "com/example/earnest_reactor/earnestreactor/cli/LatencyHistogram" = some m.cls) (hd : decode bs pc = .ok (.invokestatic 37, 3)) (hp : pc + 3 = pc') (eT : T.heap = h) (hW : (rest.map fun v => v.category).sum ≤ W)
    (hM : MetFree l (⟨"com/example/earnest_reactor/earnestreactor/cli/LatencyHistogram", "lowest", "(I)J"⟩ : MethodName) (head1 [(Cond.code (⟨"com/example/earnest_reactor/earnestreactor/cli/LatencyHistogram", "lowest", "(I)J"⟩ : MethodName) prog_2_method_6_code 4 (some .long))] rm) (fun aa U => aa = #[x0] ∧ Z.Warmed39 U.vm ∧ U.heap = h) (fun _ _ _ _ _ => True) (fun _ U o U' => ∃ v L, o = .returned v ∧ Q v U'.heap L ∧ FrameEnd U o U' L rm.cells rm.slots)) (hf : rm.frames + 1 ≤ R.frames) (hl : W + (4 + 11) + rm.locals ≤ R.locals) (hc : cells + rm.cells ≤ R.cells) (hs : slots + rm.slots ≤ R.slots)
    (k : ∀ v T' L', Stand p l e R s m args below meth c T' (locs ++ L') (cells + rm.cells) (slots + rm.slots) → Q v T'.heap L' → own_End p e below F (T'.setTop (mkF m pc' Ls (v.toList ++ rest)))) : own_End p e below F (T.setTop (mkF m pc Ls (x0 :: rest))) := by
  subst hp
  obtain ⟨v, _, ⟨T', L0, k0, n0⟩, -, X', ⟨L', hQ, e1, e2, e3⟩, stp⟩ := Jvm.LawKit.callS X hx (y := (⟨"com/example/earnest_reactor/earnestreactor/cli/LatencyHistogram", "lowest", "(I)J"⟩ : MethodName)) hown (mvT hZ (wd_74 hw)) (mvT hZ (wd_75 hw)) (mvT hZ (wd_3 hw)) (mvT hZ (wd_76 hw)) (by decide) (backOf (W := W) hM hZ (wd_76 hw) (wd_3 hw) hf hl) (g := mkF m pc Ls (x0 :: rest)) rfl hsz (argsL := [x0]) (rest := rest) (lenOf own_pd6 rfl) rfl (by show 2 * 0 + _ ≤ _; omega) (hb hby hd) (fun _ _ => ⟨rfl, eT, hc, hs⟩)
  dsimp only [Pt.U, Pt.locs, Pt.cells, Pt.slots] at X' e1 e2 e3 stp hQ
  subst e1 e2 e3
  exact own_step stp (k v T' L' X' hQ)
set_option maxRecDepth 65536 in
theorem own_lk3 {p : Program} {l : Launch} {e : Env} {R : Room} {s : State} {m : MethodId} {args : Array Value} {below : List Frame} {meth : Method} {c : Code} {T : State} {locs : List Loc} {cells slots : Nat} {F : Option Value → State → Prop} {bs : ByteArray} {pc pc' : Nat} {Ls : Array Slot} {Z : State} {a0 : Array Value} {h : Heap} {x0 : Value} {x1 : Value} {rest : List Value} {W : Nat} {rm : Room} {Q : Option Value → Heap → List Loc → Prop} (hw : ∀ d ∈ tables_1, d.before a0 Z = true) (X : Stand p l e R s m args below meth c T locs cells slots) (hx : p.tables.exec = Jvm.exec) (hZ : Z.Warmed39 s.vm) (hby : c.code = bs) (hsz : Ls.size = c.maxLocals) (hown : s.vm.findClass "com/example/earnest_reactor/earnestreactor/cli/LatencyHistogram" = some m.cls) (hd : decode bs pc = .ok (.invokestatic 33, 3)) (hp : pc + 3 = pc') (eT : T.heap = h) (hW : (rest.map fun v => v.category).sum ≤ W)
    (hM : MetFree l (⟨"java/lang/Math", "max", "(JJ)J"⟩ : MethodName) (head1 [(Cond.code (⟨"java/lang/Math", "max", "(JJ)J"⟩ : MethodName) jdk_29_method_66_code 4 (some .long))] rm) (fun aa U => aa = #[x0, x1] ∧ Z.Warmed39 U.vm ∧ U.heap = h) (fun _ _ _ _ _ => True) (fun _ U o U' => ∃ v L, o = .returned v ∧ Q v U'.heap L ∧ FrameEnd U o U' L rm.cells rm.slots)) (hf : rm.frames + 1 ≤ R.frames) (hl : W + (4 + 11) + rm.locals ≤ R.locals) (hc : cells + rm.cells ≤ R.cells) (hs : slots + rm.slots ≤ R.slots)
    (k : ∀ v T' L', Stand p l e R s m args below meth c T' (locs ++ L') (cells + rm.cells) (slots + rm.slots) → Q v T'.heap L' → own_End p e below F (T'.setTop (mkF m pc' Ls (v.toList ++ rest)))) : own_End p e below F (T.setTop (mkF m pc Ls (x1 :: x0 :: rest))) := by
  subst hp
  obtain ⟨v, _, ⟨T', L0, k0, n0⟩, -, X', ⟨L', hQ, e1, e2, e3⟩, stp⟩ := Jvm.LawKit.callS X hx (y := (⟨"java/lang/Math", "max", "(JJ)J"⟩ : MethodName)) hown (mvT hZ (wd_71 hw)) (mvT hZ (wd_72 hw)) (mvT hZ (wd_49 hw)) (mvT hZ (wd_73 hw)) (by decide) (backOf (W := W) hM hZ (wd_73 hw) (wd_49 hw) hf hl) (g := mkF m pc Ls (x1 :: x0 :: rest)) rfl hsz (argsL := [x0, x1]) (rest := rest) (lenOf own_pd7 rfl) rfl (by show 2 * 0 + _ ≤ _; omega) (hb hby hd) (fun _ _ => ⟨rfl, eT, hc, hs⟩)
  dsimp only [Pt.U, Pt.locs, Pt.cells, Pt.slots] at X' e1 e2 e3 stp hQ
  subst e1 e2 e3
  exact own_step stp (k v T' L' X' hQ)
set_option maxRecDepth 65536 in
theorem own_lk4 {p : Program} {l : Launch} {e : Env} {R : Room} {s : State} {m : MethodId} {args : Array Value} {below : List Frame} {meth : Method} {c : Code} {T : State} {locs : List Loc} {cells slots : Nat} {F : Option Value → State → Prop} {bs : ByteArray} {pc pc' : Nat} {Ls : Array Slot} {Z : State} {a0 : Array Value} {h : Heap} {x0 : Value} {rest : List Value} {W : Nat} {rm : Room} {Q : Option Value → Heap → List Loc → Prop} (hw : ∀ d ∈ tables_1, d.before a0 Z = true) (X : Stand p l e R s m args below meth c T locs cells slots) (hx : p.tables.exec = Jvm.exec) (hZ : Z.Warmed39 s.vm) (hby : c.code = bs) (hsz : Ls.size = c.maxLocals) (hown : s.vm.findClass "com/example/earnest_reactor/earnestreactor/cli/LatencyHistogram" = some m.cls) (hd : decode bs pc = .ok (.invokestatic 13, 3)) (hp : pc + 3 = pc') (eT : T.heap = h) (hW : (rest.map fun v => v.category).sum ≤ W)
    (hM : MetFree l (⟨"com/example/earnest_reactor/earnestreactor/cli/LatencyHistogram", "bucket", "(J)I"⟩ : MethodName) (head1 [(Cond.code (⟨"com/example/earnest_reactor/earnestreactor/cli/LatencyHistogram", "bucket", "(J)I"⟩ : MethodName) prog_2_method_5_code 4 (some .int))] rm) (fun aa U => aa = #[x0] ∧ Z.Warmed39 U.vm ∧ U.heap = h) (fun _ _ _ _ _ => True) (fun _ U o U' => ∃ v L, o = .returned v ∧ Q v U'.heap L ∧ FrameEnd U o U' L rm.cells rm.slots)) (hf : rm.frames + 1 ≤ R.frames) (hl : W + (4 + 11) + rm.locals ≤ R.locals) (hc : cells + rm.cells ≤ R.cells) (hs : slots + rm.slots ≤ R.slots)
    (k : ∀ v T' L', Stand p l e R s m args below meth c T' (locs ++ L') (cells + rm.cells) (slots + rm.slots) → Q v T'.heap L' → own_End p e below F (T'.setTop (mkF m pc' Ls (v.toList ++ rest)))) : own_End p e below F (T.setTop (mkF m pc Ls (x0 :: rest))) := by
  subst hp
  obtain ⟨v, _, ⟨T', L0, k0, n0⟩, -, X', ⟨L', hQ, e1, e2, e3⟩, stp⟩ := Jvm.LawKit.callS X hx (y := (⟨"com/example/earnest_reactor/earnestreactor/cli/LatencyHistogram", "bucket", "(J)I"⟩ : MethodName)) hown (mvT hZ (wd_11 hw)) (mvT hZ (wd_12 hw)) (mvT hZ (wd_3 hw)) (mvT hZ (wd_13 hw)) (by decide) (backOf (W := W) hM hZ (wd_13 hw) (wd_3 hw) hf hl) (g := mkF m pc Ls (x0 :: rest)) rfl hsz (argsL := [x0]) (rest := rest) (lenOf own_pd3 rfl) rfl (by show 2 * 0 + _ ≤ _; omega) (hb hby hd) (fun _ _ => ⟨rfl, eT, hc, hs⟩)
  dsimp only [Pt.U, Pt.locs, Pt.cells, Pt.slots] at X' e1 e2 e3 stp hQ
  subst e1 e2 e3
  exact own_step stp (k v T' L' X' hQ)
set_option maxRecDepth 65536 in
theorem own_lk5 {p : Program} {l : Launch} {e : Env} {R : Room} {s : State} {m : MethodId} {args : Array Value} {below : List Frame} {meth : Method} {c : Code} {T : State} {locs : List Loc} {cells slots : Nat} {F : Option Value → State → Prop} {bs : ByteArray} {pc pc' : Nat} {Ls : Array Slot} {Z : State} {a0 : Array Value} {h : Heap} {b : Addr} {rest : List Value} {W : Nat} {rm : Room} {Q : Option Value → Heap → List Loc → Prop} (hw : ∀ d ∈ tables_1, d.before a0 Z = true) (X : Stand p l e R s m args below meth c T locs cells slots) (hx : p.tables.exec = Jvm.exec) (hZ : Z.Warmed39 s.vm) (hby : c.code = bs) (hsz : Ls.size = c.maxLocals) (hown : s.vm.findClass "com/example/earnest_reactor/earnestreactor/cli/LatencyHistogramAddPinLaw" = some m.cls) (hd : decode bs pc = .ok (.invokespecial 13, 3)) (hp : pc + 3 = pc') (eT : T.heap = h) (hW : (rest.map fun v => v.category).sum ≤ W)
    (hM : MetFree l (⟨"com/example/earnest_reactor/earnestreactor/cli/LatencyHistogram", "<init>", "()V"⟩ : MethodName) (head1 [(Cond.code (⟨"com/example/earnest_reactor/earnestreactor/cli/LatencyHistogram", "<init>", "()V"⟩ : MethodName) prog_2_method_1_code 1 none)] rm) (fun aa U => aa = #[.ref b] ∧ Z.Warmed39 U.vm ∧ U.heap = h) (fun _ _ _ _ _ => True) (fun _ U o U' => ∃ v L, o = .returned v ∧ Q v U'.heap L ∧ FrameEnd U o U' L rm.cells rm.slots)) (hf : rm.frames + 1 ≤ R.frames) (hl : W + (1 + 11) + rm.locals ≤ R.locals) (hc : cells + rm.cells ≤ R.cells) (hs : slots + rm.slots ≤ R.slots)
    (k : ∀ v T' L', Stand p l e R s m args below meth c T' (locs ++ L') (cells + rm.cells) (slots + rm.slots) → Q v T'.heap L' → own_End p e below F (T'.setTop (mkF m pc' Ls (v.toList ++ rest)))) : own_End p e below F (T.setTop (mkF m pc Ls (.ref b :: rest))) := by
  subst hp
  obtain ⟨v, _, ⟨T', L0, k0, n0⟩, -, X', ⟨L', hQ, e1, e2, e3⟩, stp⟩ := X.specialBack hx (y := (⟨"com/example/earnest_reactor/earnestreactor/cli/LatencyHistogram", "<init>", "()V"⟩ : MethodName)) rfl hown (mvT hZ (wd_4 hw)) (mvT hZ (wd_5 hw)) (mvT hZ (wd_6 hw)) (by decide) (backOf (W := W) hM hZ (wd_6 hw) (wd_3 hw) hf hl) (g := mkF m pc Ls (.ref b :: rest)) rfl hsz (Steps.refl _) (a := b) (argsL := []) (rest := rest) (lenOf own_pd8 rfl) rfl (by show 2 * 0 + _ ≤ _; omega) (hb hby hd) (fun _ _ => ⟨rfl, eT, hc, hs⟩)
  dsimp only [Pt.U, Pt.locs, Pt.cells, Pt.slots] at X' e1 e2 e3 stp hQ
  subst e1 e2 e3
  exact own_trans stp (k v T' L' X' hQ)
set_option maxRecDepth 65536 in
theorem own_lk6 {p : Program} {l : Launch} {e : Env} {R : Room} {s : State} {m : MethodId} {args : Array Value} {below : List Frame} {meth : Method} {c : Code} {T : State} {locs : List Loc} {cells slots : Nat} {F : Option Value → State → Prop} {bs : ByteArray} {pc pc' : Nat} {Ls : Array Slot} {Z : State} {a0 : Array Value} {h : Heap} {x0 : Value} {b : Addr} {rest : List Value} {W : Nat} {rm : Room} {Q : Option Value → Heap → List Loc → Prop} (hw : ∀ d ∈ tables_1, d.before a0 Z = true) (X : Stand p l e R s m args below meth c T locs cells slots) (hx : p.tables.exec = Jvm.exec) (hZ : Z.Warmed39 s.vm) (hby : c.code = bs) (hsz : Ls.size = c.maxLocals) (hown : s.vm.findClass "com/example/earnest_reactor/earnestreactor/cli/LatencyHistogramAddPinLaw" = some m.cls) (hd : decode bs pc = .ok (.invokevirtual 20, 3)) (hp : pc + 3 = pc') (eT : T.heap = h) (E : Exa Z h b "com/example/earnest_reactor/earnestreactor/cli/LatencyHistogram") (hW : (rest.map fun v => v.category).sum ≤ W)
    (hM : MetFree l (⟨"com/example/earnest_reactor/earnestreactor/cli/LatencyHistogram", "percentile", "(D)J"⟩ : MethodName) (head1 [(Cond.code (⟨"com/example/earnest_reactor/earnestreactor/cli/LatencyHistogram", "percentile", "(D)J"⟩ : MethodName) prog_2_method_4_code 8 (some .long))] rm) (fun aa U => aa = #[.ref b, x0] ∧ Z.Warmed39 U.vm ∧ U.heap = h) (fun _ _ _ _ _ => True) (fun _ U o U' => ∃ v L, o = .returned v ∧ Q v U'.heap L ∧ FrameEnd U o U' L rm.cells rm.slots)) (hf : rm.frames + 1 ≤ R.frames) (hl : W + (8 + 11) + rm.locals ≤ R.locals) (hc : cells + rm.cells ≤ R.cells) (hs : slots + rm.slots ≤ R.slots)
    (k : ∀ v T' L', Stand p l e R s m args below meth c T' (locs ++ L') (cells + rm.cells) (slots + rm.slots) → Q v T'.heap L' → own_End p e below F (T'.setTop (mkF m pc' Ls (v.toList ++ rest)))) : own_End p e below F (T.setTop (mkF m pc Ls (x0 :: .ref b :: rest))) := by
  subst hp
  obtain ⟨cq, kq, q1, q2, q3⟩ := isOf hZ eT E
  obtain ⟨v, _, ⟨T', L0, k0, n0⟩, -, X', ⟨L', hQ, e1, e2, e3⟩, stp⟩ := X.virtualBack hx (y := (⟨"com/example/earnest_reactor/earnestreactor/cli/LatencyHistogram", "percentile", "(D)J"⟩ : MethodName)) (z := (⟨"com/example/earnest_reactor/earnestreactor/cli/LatencyHistogram", "percentile", "(D)J"⟩ : MethodName)) hown (mvT hZ (wd_28 hw)) (mvT hZ (wd_29 hw)) (notFace_of_selects (args := #[]) (mvT hZ (wd_31 hw))) (mvT hZ (wd_31 hw)) (mvT hZ (wd_30 hw)) (by decide) (backOf (W := W) hM hZ (wd_32 hw) (wd_3 hw) hf hl) q1 q3 (g := mkF m pc Ls (x0 :: .ref b :: rest)) rfl hsz (Steps.refl _) (argsL := [x0]) (rest := rest) (lenOf own_pd9 rfl) rfl (by show 2 * 0 + _ ≤ _; omega) (hb hby hd) (fun _ _ => ⟨rfl, eT, hc, hs⟩)
  dsimp only [Pt.U, Pt.locs, Pt.cells, Pt.slots] at X' e1 e2 e3 stp hQ
  subst e1 e2 e3
  exact own_trans stp (k v T' L' X' hQ)
set_option maxRecDepth 65536 in
theorem own_lk7 {p : Program} {l : Launch} {e : Env} {R : Room} {s : State} {m : MethodId} {args : Array Value} {below : List Frame} {meth : Method} {c : Code} {T : State} {locs : List Loc} {cells slots : Nat} {F : Option Value → State → Prop} {bs : ByteArray} {pc pc' : Nat} {Ls : Array Slot} {Z : State} {a0 : Array Value} {h : Heap} {x0 : Value} {b : Addr} {rest : List Value} {W : Nat} {rm : Room} {Q : Option Value → Heap → List Loc → Prop} (hw : ∀ d ∈ tables_1, d.before a0 Z = true) (X : Stand p l e R s m args below meth c T locs cells slots) (hx : p.tables.exec = Jvm.exec) (hZ : Z.Warmed39 s.vm) (hby : c.code = bs) (hsz : Ls.size = c.maxLocals) (hown : s.vm.findClass "com/example/earnest_reactor/earnestreactor/cli/LatencyHistogramAddPinLaw" = some m.cls) (hd : decode bs pc = .ok (.invokevirtual 24, 3)) (hp : pc + 3 = pc') (eT : T.heap = h) (E : Exa Z h b "com/example/earnest_reactor/earnestreactor/cli/LatencyHistogram") (hW : (rest.map fun v => v.category).sum ≤ W)
    (hM : MetFree l (⟨"com/example/earnest_reactor/earnestreactor/cli/LatencyHistogram", "add", "(Lcom/example/earnest_reactor/earnestreactor/cli/LatencyHistogram;)V"⟩ : MethodName) (head1 [(Cond.code (⟨"com/example/earnest_reactor/earnestreactor/cli/LatencyHistogram", "add", "(Lcom/example/earnest_reactor/earnestreactor/cli/LatencyHistogram;)V"⟩ : MethodName) prog_2_method_3_code 3 none)] rm) (fun aa U => aa = #[.ref b, x0] ∧ Z.Warmed39 U.vm ∧ U.heap = h) (fun _ _ _ _ _ => True) (fun _ U o U' => ∃ v L, o = .returned v ∧ Q v U'.heap L ∧ FrameEnd U o U' L rm.cells rm.slots)) (hf : rm.frames + 1 ≤ R.frames) (hl : W + (3 + 11) + rm.locals ≤ R.locals) (hc : cells + rm.cells ≤ R.cells) (hs : slots + rm.slots ≤ R.slots)
    (k : ∀ v T' L', Stand p l e R s m args below meth c T' (locs ++ L') (cells + rm.cells) (slots + rm.slots) → Q v T'.heap L' → own_End p e below F (T'.setTop (mkF m pc' Ls (v.toList ++ rest)))) : own_End p e below F (T.setTop (mkF m pc Ls (x0 :: .ref b :: rest))) := by
  subst hp
  obtain ⟨cq, kq, q1, q2, q3⟩ := isOf hZ eT E
  obtain ⟨v, _, ⟨T', L0, k0, n0⟩, -, X', ⟨L', hQ, e1, e2, e3⟩, stp⟩ := X.virtualBack hx (y := (⟨"com/example/earnest_reactor/earnestreactor/cli/LatencyHistogram", "add", "(Lcom/example/earnest_reactor/earnestreactor/cli/LatencyHistogram;)V"⟩ : MethodName)) (z := (⟨"com/example/earnest_reactor/earnestreactor/cli/LatencyHistogram", "add", "(Lcom/example/earnest_reactor/earnestreactor/cli/LatencyHistogram;)V"⟩ : MethodName)) hown (mvT hZ (wd_35 hw)) (mvT hZ (wd_36 hw)) (notFace_of_selects (args := #[]) (mvT hZ (wd_38 hw))) (mvT hZ (wd_38 hw)) (mvT hZ (wd_37 hw)) (by decide) (backOf (W := W) hM hZ (wd_39 hw) (wd_3 hw) hf hl) q1 q3 (g := mkF m pc Ls (x0 :: .ref b :: rest)) rfl hsz (Steps.refl _) (argsL := [x0]) (rest := rest) (lenOf own_pd10 rfl) rfl (by show 2 * 0 + _ ≤ _; omega) (hb hby hd) (fun _ _ => ⟨rfl, eT, hc, hs⟩)
  dsimp only [Pt.U, Pt.locs, Pt.cells, Pt.slots] at X' e1 e2 e3 stp hQ
  subst e1 e2 e3
  exact own_trans stp (k v T' L' X' hQ)
set_option maxRecDepth 65536 in
theorem own_lk8 {p : Program} {l : Launch} {e : Env} {R : Room} {s : State} {m : MethodId} {args : Array Value} {below : List Frame} {meth : Method} {c : Code} {T : State} {locs : List Loc} {cells slots : Nat} {F : Option Value → State → Prop} {bs : ByteArray} {pc pc' : Nat} {Ls : Array Slot} {Z : State} {a0 : Array Value} {h : Heap} {x0 : Value} {b : Addr} {rest : List Value} {W : Nat} {rm : Room} {Q : Option Value → Heap → List Loc → Prop} (hw : ∀ d ∈ tables_1, d.before a0 Z = true) (X : Stand p l e R s m args below meth c T locs cells slots) (hx : p.tables.exec = Jvm.exec) (hZ : Z.Warmed39 s.vm) (hby : c.code = bs) (hsz : Ls.size = c.maxLocals) (hown : s.vm.findClass "com/example/earnest_reactor/earnestreactor/cli/LatencyHistogramAddPinLaw" = some m.cls) (hd : decode bs pc = .ok (.invokevirtual 14, 3)) (hp : pc + 3 = pc') (eT : T.heap = h) (E : Exa Z h b "com/example/earnest_reactor/earnestreactor/cli/LatencyHistogram") (hW : (rest.map fun v => v.category).sum ≤ W)
    (hM : MetFree l (⟨"com/example/earnest_reactor/earnestreactor/cli/LatencyHistogram", "record", "(J)V"⟩ : MethodName) (head1 [(Cond.code (⟨"com/example/earnest_reactor/earnestreactor/cli/LatencyHistogram", "record", "(J)V"⟩ : MethodName) prog_2_method_2_code 3 none)] rm) (fun aa U => aa = #[.ref b, x0] ∧ Z.Warmed39 U.vm ∧ U.heap = h) (fun _ _ _ _ _ => True) (fun _ U o U' => ∃ v L, o = .returned v ∧ Q v U'.heap L ∧ FrameEnd U o U' L rm.cells rm.slots)) (hf : rm.frames + 1 ≤ R.frames) (hl : W + (3 + 11) + rm.locals ≤ R.locals) (hc : cells + rm.cells ≤ R.cells) (hs : slots + rm.slots ≤ R.slots)
    (k : ∀ v T' L', Stand p l e R s m args below meth c T' (locs ++ L') (cells + rm.cells) (slots + rm.slots) → Q v T'.heap L' → own_End p e below F (T'.setTop (mkF m pc' Ls (v.toList ++ rest)))) : own_End p e below F (T.setTop (mkF m pc Ls (x0 :: .ref b :: rest))) := by
  subst hp
  obtain ⟨cq, kq, q1, q2, q3⟩ := isOf hZ eT E
  obtain ⟨v, _, ⟨T', L0, k0, n0⟩, -, X', ⟨L', hQ, e1, e2, e3⟩, stp⟩ := X.virtualBack hx (y := (⟨"com/example/earnest_reactor/earnestreactor/cli/LatencyHistogram", "record", "(J)V"⟩ : MethodName)) (z := (⟨"com/example/earnest_reactor/earnestreactor/cli/LatencyHistogram", "record", "(J)V"⟩ : MethodName)) hown (mvT hZ (wd_41 hw)) (mvT hZ (wd_42 hw)) (notFace_of_selects (args := #[]) (mvT hZ (wd_44 hw))) (mvT hZ (wd_44 hw)) (mvT hZ (wd_43 hw)) (by decide) (backOf (W := W) hM hZ (wd_45 hw) (wd_3 hw) hf hl) q1 q3 (g := mkF m pc Ls (x0 :: .ref b :: rest)) rfl hsz (Steps.refl _) (argsL := [x0]) (rest := rest) (lenOf own_pd11 rfl) rfl (by show 2 * 0 + _ ≤ _; omega) (hb hby hd) (fun _ _ => ⟨rfl, eT, hc, hs⟩)
  dsimp only [Pt.U, Pt.locs, Pt.cells, Pt.slots] at X' e1 e2 e3 stp hQ
  subst e1 e2 e3
  exact own_trans stp (k v T' L' X' hQ)
set_option maxRecDepth 65536 in
theorem own_lk9 {p : Program} {l : Launch} {e : Env} {R : Room} {s : State} {m : MethodId} {args : Array Value} {below : List Frame} {meth : Method} {c : Code} {T : State} {locs : List Loc} {cells slots : Nat} {F : Option Value → State → Prop} {bs : ByteArray} {pc pc' : Nat} {Ls : Array Slot} {Z : State} {a0 : Array Value} {h : Heap} {x0 : Value} {x1 : Value} {rest : List Value} {W : Nat} {rm : Room} {Q : Option Value → Heap → List Loc → Prop} (hw : ∀ d ∈ tables_1, d.before a0 Z = true) (X : Stand p l e R s m args below meth c T locs cells slots) (hx : p.tables.exec = Jvm.exec) (hZ : Z.Warmed39 s.vm) (hby : c.code = bs) (hsz : Ls.size = c.maxLocals) (hown : s.vm.findClass "com/example/earnest_reactor/earnestreactor/cli/LatencyHistogramAddPinLaw" = some m.cls) (hd : decode bs pc = .ok (.invokestatic 28, 3)) (hp : pc + 3 = pc') (eT : T.heap = h) (hW : (rest.map fun v => v.category).sum ≤ W)
    (hM : MetFree l (⟨"java/lang/Math", "min", "(JJ)J"⟩ : MethodName) (head1 [(Cond.code (⟨"java/lang/Math", "min", "(JJ)J"⟩ : MethodName) jdk_29_method_70_code 4 (some .long))] rm) (fun aa U => aa = #[x0, x1] ∧ Z.Warmed39 U.vm ∧ U.heap = h) (fun _ _ _ _ _ => True) (fun _ U o U' => ∃ v L, o = .returned v ∧ Q v U'.heap L ∧ FrameEnd U o U' L rm.cells rm.slots)) (hf : rm.frames + 1 ≤ R.frames) (hl : W + (4 + 11) + rm.locals ≤ R.locals) (hc : cells + rm.cells ≤ R.cells) (hs : slots + rm.slots ≤ R.slots)
    (k : ∀ v T' L', Stand p l e R s m args below meth c T' (locs ++ L') (cells + rm.cells) (slots + rm.slots) → Q v T'.heap L' → own_End p e below F (T'.setTop (mkF m pc' Ls (v.toList ++ rest)))) : own_End p e below F (T.setTop (mkF m pc Ls (x1 :: x0 :: rest))) := by
  subst hp
  obtain ⟨v, _, ⟨T', L0, k0, n0⟩, -, X', ⟨L', hQ, e1, e2, e3⟩, stp⟩ := Jvm.LawKit.callS X hx (y := (⟨"java/lang/Math", "min", "(JJ)J"⟩ : MethodName)) hown (mvT hZ (wd_77 hw)) (mvT hZ (wd_78 hw)) (mvT hZ (wd_49 hw)) (mvT hZ (wd_79 hw)) (by decide) (backOf (W := W) hM hZ (wd_79 hw) (wd_49 hw) hf hl) (g := mkF m pc Ls (x1 :: x0 :: rest)) rfl hsz (argsL := [x0, x1]) (rest := rest) (lenOf own_pd7 rfl) rfl (by show 2 * 0 + _ ≤ _; omega) (hb hby hd) (fun _ _ => ⟨rfl, eT, hc, hs⟩)
  dsimp only [Pt.U, Pt.locs, Pt.cells, Pt.slots] at X' e1 e2 e3 stp hQ
  subst e1 e2 e3
  exact own_step stp (k v T' L' X' hQ)
set_option maxRecDepth 65536 in
theorem own_lk10 {p : Program} {l : Launch} {e : Env} {R : Room} {s : State} {m : MethodId} {args : Array Value} {below : List Frame} {meth : Method} {c : Code} {T : State} {locs : List Loc} {cells slots : Nat} {F : Option Value → State → Prop} {bs : ByteArray} {pc pc' : Nat} {Ls : Array Slot} {Z : State} {a0 : Array Value} {h : Heap} {x0 : Value} {x1 : Value} {rest : List Value} {W : Nat} {rm : Room} {Q : Option Value → Heap → List Loc → Prop} (hw : ∀ d ∈ tables_1, d.before a0 Z = true) (X : Stand p l e R s m args below meth c T locs cells slots) (hx : p.tables.exec = Jvm.exec) (hZ : Z.Warmed39 s.vm) (hby : c.code = bs) (hsz : Ls.size = c.maxLocals) (hown : s.vm.findClass "com/example/earnest_reactor/earnestreactor/cli/LatencyHistogramAddPinLaw" = some m.cls) (hd : decode bs pc = .ok (.invokestatic 34, 3)) (hp : pc + 3 = pc') (eT : T.heap = h) (hW : (rest.map fun v => v.category).sum ≤ W)
    (hM : MetFree l (⟨"java/lang/Math", "max", "(JJ)J"⟩ : MethodName) (head1 [(Cond.code (⟨"java/lang/Math", "max", "(JJ)J"⟩ : MethodName) jdk_29_method_66_code 4 (some .long))] rm) (fun aa U => aa = #[x0, x1] ∧ Z.Warmed39 U.vm ∧ U.heap = h) (fun _ _ _ _ _ => True) (fun _ U o U' => ∃ v L, o = .returned v ∧ Q v U'.heap L ∧ FrameEnd U o U' L rm.cells rm.slots)) (hf : rm.frames + 1 ≤ R.frames) (hl : W + (4 + 11) + rm.locals ≤ R.locals) (hc : cells + rm.cells ≤ R.cells) (hs : slots + rm.slots ≤ R.slots)
    (k : ∀ v T' L', Stand p l e R s m args below meth c T' (locs ++ L') (cells + rm.cells) (slots + rm.slots) → Q v T'.heap L' → own_End p e below F (T'.setTop (mkF m pc' Ls (v.toList ++ rest)))) : own_End p e below F (T.setTop (mkF m pc Ls (x1 :: x0 :: rest))) := by
  subst hp
  obtain ⟨v, _, ⟨T', L0, k0, n0⟩, -, X', ⟨L', hQ, e1, e2, e3⟩, stp⟩ := Jvm.LawKit.callS X hx (y := (⟨"java/lang/Math", "max", "(JJ)J"⟩ : MethodName)) hown (mvT hZ (wd_80 hw)) (mvT hZ (wd_72 hw)) (mvT hZ (wd_49 hw)) (mvT hZ (wd_73 hw)) (by decide) (backOf (W := W) hM hZ (wd_73 hw) (wd_49 hw) hf hl) (g := mkF m pc Ls (x1 :: x0 :: rest)) rfl hsz (argsL := [x0, x1]) (rest := rest) (lenOf own_pd7 rfl) rfl (by show 2 * 0 + _ ≤ _; omega) (hb hby hd) (fun _ _ => ⟨rfl, eT, hc, hs⟩)
  dsimp only [Pt.U, Pt.locs, Pt.cells, Pt.slots] at X' e1 e2 e3 stp hQ
  subst e1 e2 e3
  exact own_step stp (k v T' L' X' hQ)

theorem own_ush (i : Int32) (k : Nat) (kk : Int32) (hk : kk.toUInt32 = UInt32.ofNat k) (hk' : k < 32) (h : 0 ≤ i.toInt) : ((i.toUInt32 >>> kk.toUInt32).toInt32).toInt = i.toInt / 2 ^ k := by
  have hl := Int32.toInt_lt i
  have h1 : (i.toUInt32.toNat : Int) = i.toInt := by
    have := Int32.toInt_toBitVec i
    rw [← Int32.toInt_toBitVec, BitVec.toInt_eq_toNat_of_msb]
    · rfl
    · rw [BitVec.msb_eq_false_iff_two_mul_lt]
      have e : i.toBitVec.toInt = i.toInt := Int32.toInt_toBitVec i
      rw [BitVec.toInt_eq_toNat_cond] at e
      split at e
      · assumption
      · have := i.toBitVec.isLt; omega
  have hs : (i.toUInt32 >>> kk.toUInt32).toNat = i.toUInt32.toNat / 2 ^ k := by
    rw [hk, UInt32.toNat_shiftRight]
    have : (UInt32.ofNat k).toNat % 32 = k := by simp [UInt32.toNat_ofNat']; omega
    rw [this, Nat.shiftRight_eq_div_pow]
  have hlt : i.toUInt32.toNat < 2 ^ 31 := by omega
  have hle : i.toUInt32.toNat / 2 ^ k ≤ i.toUInt32.toNat := Nat.div_le_self _ _
  have h2 : ((i.toUInt32 >>> kk.toUInt32).toInt32).toInt = ((i.toUInt32 >>> kk.toUInt32).toNat : Int) := by
    rw [← Int32.toInt_toBitVec]
    show (i.toUInt32 >>> kk.toUInt32).toBitVec.toInt = _
    rw [BitVec.toInt_eq_toNat_of_lt]
    · rfl
    · show 2 * (i.toUInt32 >>> kk.toUInt32).toNat < 2 ^ 32
      omega
  rw [h2, hs, ← h1]
  simp
/-- i = the int asked, j and n: what the two variables hold; j < B -/
def own_I (i j n : Int32) (B : Int) : Prop := ∃ s : Nat, s ≤ 30 ∧ j.toInt = i.toInt / 2 ^ s ∧ n.toInt = 31 - s ∧ 1 ≤ j.toInt ∧ j.toInt < B
def own_NL (i z : Int32) : Prop := ∃ k : Nat, k ≤ 30 ∧ z.toInt = 31 - k ∧ 2 ^ k ≤ i.toInt ∧ i.toInt < 2 ^ (k + 1)
theorem own_I0 (i : Int32) (h : (0 : Int32) < i) : own_I i i 31 2147483648 := by
  rw [Int32.lt_iff_toInt_lt] at h
  have h0 : (0 : Int32).toInt = 0 := rfl
  have hl := Int32.toInt_lt i
  exact ⟨0, by omega, by simp, rfl, by omega, by omega⟩
theorem own_Iy {i j n : Int32} {B C : Int} (h : own_I i j n B) (L : Int32) (hL : L.toInt = C) (q : j < L) : own_I i j n C := by
  obtain ⟨s, h1, h2, h3, h4, h5⟩ := h
  rw [Int32.lt_iff_toInt_lt] at q
  exact ⟨s, h1, h2, h3, h4, by omega⟩
theorem own_div (i j : Int) (s : Nat) (h : j = i / 2 ^ s) : j * 2 ^ s ≤ i ∧ i < (j + 1) * 2 ^ s := by
  have hp : (0 : Int) < 2 ^ s := Int.pow_pos (by decide)
  subst h
  exact ⟨Int.ediv_mul_le _ (by omega), Int.lt_ediv_add_one_mul_self _ hp⟩
theorem own_pw (a b : Nat) (h : (2 : Int) ^ a < 2 ^ b) : a < b := by
  have : (2 : Nat) ^ a < 2 ^ b := by exact_mod_cast h
  exact (Nat.pow_lt_pow_iff_right (by decide)).mp this
theorem own_In {i j n : Int32} {B C : Int} (h : own_I i j n B) (L : Int32) (k : Nat) (kk kn : Int32) (hk : kk.toUInt32 = UInt32.ofNat k) (hk' : k < 32) (hkn : kn.toInt = -(k : Int)) (hL : L.toInt = 2 ^ k) (hB : B ≤ C * 2 ^ k) (q : ¬ j < L) : own_I i ((j.toUInt32 >>> kk.toUInt32).toInt32) (n + kn) C := by
  obtain ⟨s, h1, h2, h3, h4, h5⟩ := h
  rw [Int32.lt_iff_toInt_lt] at q
  have hu := own_ush j k kk hk hk' (by omega)
  have hi := Int32.toInt_lt i
  obtain ⟨d1, d2⟩ := own_div _ _ _ h2
  have hp : (0 : Int) < 2 ^ s := Int.pow_pos (by decide)
  have hpk : (0 : Int) < 2 ^ k := Int.pow_pos (by decide)
  have e1 : (2 : Int) ^ (s + k) = 2 ^ k * 2 ^ s := by rw [Int.pow_add, Int.mul_comm]
  have e2 : (2 : Int) ^ k * 2 ^ s ≤ j.toInt * 2 ^ s := Int.mul_le_mul_of_nonneg_right (by omega) (by omega)
  have hs : s + k ≤ 30 := by
    have := own_pw (s + k) 31 (by rw [e1]; omega)
    omega
  have g1 : 1 ≤ j.toInt / 2 ^ k := (Int.le_ediv_iff_mul_le hpk).mpr (by omega)
  have g2 : j.toInt / 2 ^ k < C := Int.ediv_lt_of_lt_mul hpk (by omega)
  refine ⟨s + k, hs, ?_, ?_, by rw [hu]; exact g1, by rw [hu]; exact g2⟩
  · rw [hu, h2, Int.ediv_ediv_of_nonneg (by omega), Int.pow_add]
  · rw [Int32.toInt_add, h3, hkn]
    have : (31 : Int) - (s : Int) + -(k : Int) = 31 - ((s + k : Nat) : Int) := by omega
    rw [this]
    exact Int.bmod_eq_of_le (by omega) (by omega)
theorem own_Ifin {i j n : Int32} (h : own_I i j n 4) (one : Int32) (ho : one.toUInt32 = UInt32.ofNat 1) : own_NL i (n - ((j.toUInt32 >>> one.toUInt32).toInt32)) := by
  obtain ⟨s, h1, h2, h3, h4, h5⟩ := h
  have hu := own_ush j 1 one ho (by decide) (by omega)
  obtain ⟨d1, d2⟩ := own_div _ _ _ h2
  have hi := Int32.toInt_lt i
  have hp : (0 : Int) < 2 ^ s := Int.pow_pos (by decide)
  have hz : (n - ((j.toUInt32 >>> one.toUInt32).toInt32)).toInt = 31 - s - j.toInt / 2 := by
    rw [Int32.toInt_sub, hu, h3, show (2 : Int) ^ 1 = 2 from rfl]
    exact Int.bmod_eq_of_le (by omega) (by omega)
  have e1 : (2 : Int) ^ (s + 1) = 2 * 2 ^ s := by rw [Int.pow_add, Int.mul_comm]; rfl
  have e2 : (2 : Int) ^ (s + 1 + 1) = 4 * 2 ^ s := by rw [Int.pow_add, Int.pow_add, Int.mul_comm, Int.mul_comm (2 ^ s)]; rw [← Int.mul_assoc]; rfl
  have hj : j.toInt = 1 ∨ j.toInt = 2 ∨ j.toInt = 3 := by omega
  rcases hj with q | q | q
  · rw [q] at d1 d2
    exact ⟨s, h1, by rw [hz, q]; omega, by omega, by rw [e1]; omega⟩
  · rw [q] at d1 d2
    have : s + 1 ≤ 30 := by have := own_pw (s + 1) 31 (by rw [e1]; omega); omega
    exact ⟨s + 1, this, by rw [hz, q]; omega, by rw [e1]; omega, by rw [e2]; omega⟩
  · rw [q] at d1 d2
    have : s + 1 ≤ 30 := by have := own_pw (s + 1) 31 (by rw [e1]; omega); omega
    exact ⟨s + 1, this, by rw [hz, q]; omega, by rw [e1]; omega, by rw [e2]; omega⟩
def own_NL64 (x : Int64) (z : Int32) : Prop := ∃ k : Nat, k ≤ 62 ∧ z.toInt = 63 - k ∧ 2 ^ k ≤ x.toInt ∧ x.toInt < 2 ^ (k + 1)
theorem own_sh (n : Fin 64) : ((Int32.ofNat n.val) &&& 0x3f).toInt64.toUInt64 = UInt64.ofNat n.val := by
  revert n
  decide
theorem own_e64 (e : Int32) (n : Nat) (he : e.toInt = n) (hn : n < 64) : (e &&& 0x3f).toInt64.toUInt64 = UInt64.ofNat n := by
  have : e = Int32.ofNat n := by
    apply Int32.toInt_inj.mp
    rw [he, Int32.toInt_ofNat_of_lt (by omega)]
  rw [this]
  exact own_sh ⟨n, hn⟩
theorem own_nat64 (x : Int64) (h : 0 ≤ x.toInt) : (x.toUInt64.toNat : Int) = x.toInt := by
  rw [← Int64.toInt_toBitVec, BitVec.toInt_eq_toNat_of_msb]
  · rfl
  · rw [BitVec.msb_eq_false_iff_two_mul_lt]
    have e : x.toBitVec.toInt = x.toInt := Int64.toInt_toBitVec x
    rw [BitVec.toInt_eq_toNat_cond] at e
    split at e
    · assumption
    · have := x.toBitVec.isLt; omega
theorem own_ush64 (x : Int64) (e : Int32) (n : Nat) (he : e.toInt = n) (hn : n < 64) (h : 0 ≤ x.toInt) : ((x.toUInt64 >>> (e &&& 0x3f).toInt64.toUInt64).toInt64).toInt = x.toInt / 2 ^ n := by
  rw [own_e64 e n he hn]
  have h1 := own_nat64 x h
  have hl := Int64.toInt_lt x
  have hs : (x.toUInt64 >>> UInt64.ofNat n).toNat = x.toUInt64.toNat / 2 ^ n := by
    rw [UInt64.toNat_shiftRight]
    have : (UInt64.ofNat n).toNat % 64 = n := by simp [UInt64.toNat_ofNat']; omega
    rw [this, Nat.shiftRight_eq_div_pow]
  have hle : x.toUInt64.toNat / 2 ^ n ≤ x.toUInt64.toNat := Nat.div_le_self _ _
  have h2 : ((x.toUInt64 >>> UInt64.ofNat n).toInt64).toInt = ((x.toUInt64 >>> UInt64.ofNat n).toNat : Int) := by
    rw [← Int64.toInt_toBitVec]
    show (x.toUInt64 >>> UInt64.ofNat n).toBitVec.toInt = _
    rw [BitVec.toInt_eq_toNat_of_lt]
    · rfl
    · show 2 * (x.toUInt64 >>> UInt64.ofNat n).toNat < 2 ^ 64
      omega
  rw [h2, hs, ← h1]
  simp
theorem own_l2iv (x : Int64) (h1 : 0 ≤ x.toInt) (h2 : x.toInt < 2 ^ 31) : x.toInt32.toInt = x.toInt := by
  rw [Int64.toInt_toInt32]
  exact Int.bmod_eq_of_le (by omega) (by omega)
theorem own_hi (x : Int64) (h : 0 ≤ x.toInt) : (((x.toUInt64 >>> ((32 : Int32) &&& 0x3f).toInt64.toUInt64).toInt64).toInt32).toInt = x.toInt / 2 ^ 32 := by
  have hu := own_ush64 x 32 32 rfl (by decide) h
  have hl := Int64.toInt_lt x
  have d1 : 0 ≤ x.toInt / 2 ^ 32 := Int.ediv_nonneg h (by decide)
  have d2 : x.toInt / 2 ^ 32 < 2 ^ 31 := Int.ediv_lt_of_lt_mul (by decide) (by omega)
  rw [own_l2iv _ (by rw [hu]; exact d1) (by rw [hu]; exact d2), hu]
def own_up (x : Int64) : Int32 := ((x.toUInt64 >>> ((32 : Int32) &&& 0x3f).toInt64.toUInt64).toInt64).toInt32
theorem own_up0 (x : Int64) (h : 0 < x.toInt) (q : ¬ own_up x = (0 : Int32)) : (0 : Int32) < own_up x := by
  have hu : (own_up x).toInt = _ := own_hi x (by omega)
  rw [Int32.lt_iff_toInt_lt]
  have d1 : 0 ≤ x.toInt / 2 ^ 32 := Int.ediv_nonneg (by omega) (by decide)
  have h0 : (0 : Int32).toInt = 0 := rfl
  have : (own_up x).toInt ≠ 0 := fun z => q (Int32.toInt_inj.mp (by rw [z]; rfl))
  omega
theorem own_L1 {x : Int64} {z : Int32} (h : 0 < x.toInt) (N : own_NL (own_up x) z) : own_NL64 x z := by
  obtain ⟨k, k1, k2, k3, k4⟩ := N
  have hu : (own_up x).toInt = _ := own_hi x (by omega)
  rw [hu] at k3 k4
  refine ⟨k + 32, by omega, by rw [k2]; omega, ?_, ?_⟩
  · rw [Int.pow_add]; exact (Int.le_ediv_iff_mul_le (by decide)).mp k3
  · rw [show k + 32 + 1 = (k + 1) + 32 from by omega, Int.pow_add]; exact (Int.ediv_lt_iff_lt_mul (by decide)).mp k4
theorem own_lo {x : Int64} (h : 0 < x.toInt) (q : own_up x = (0 : Int32)) : x.toInt < 2 ^ 32 := by
  have hu : (own_up x).toInt = _ := own_hi x (by omega)
  rw [q] at hu
  have h0 : (0 : Int32).toInt = 0 := rfl
  rw [h0] at hu
  omega
theorem own_L2 {x : Int64} {z : Int32} (h : 0 < x.toInt) (q : own_up x = (0 : Int32)) (p : (0 : Int32) < x.toInt32) (N : own_NL x.toInt32 z) : own_NL64 x ((32 : Int32) + z) := by
  have hl := own_lo h q
  rw [Int32.lt_iff_toInt_lt] at p
  have e : x.toInt32.toInt = x.toInt := by
    have h0 : (0 : Int32).toInt = 0 := rfl
    rw [h0, Int64.toInt_toInt32] at p
    rw [Int64.toInt_toInt32]
    by_cases c : x.toInt < 2 ^ 31
    · exact Int.bmod_eq_of_le (by omega) (by omega)
    · exfalso
      have : x.toInt.bmod (2 ^ 32) = x.toInt - 2 ^ 32 := by
        rw [Int.bmod_def]; omega
      omega
  obtain ⟨k, k1, k2, k3, k4⟩ := N
  rw [e] at k3 k4
  refine ⟨k, by omega, ?_, k3, k4⟩
  rw [Int32.toInt_add, k2, show (32 : Int32).toInt = 32 from rfl]
  rw [Int.bmod_eq_of_le (by omega) (by omega)]
  omega
theorem own_L3 {x : Int64} (h : 0 < x.toInt) (q : own_up x = (0 : Int32)) (p : ¬ (0 : Int32) < x.toInt32) : ¬ x.toInt32 = (0 : Int32) ∧ own_NL64 x ((32 : Int32) + (0 : Int32)) := by
  have hl := own_lo h q
  rw [Int32.lt_iff_toInt_lt] at p
  have h0 : (0 : Int32).toInt = 0 := rfl
  rw [h0, Int64.toInt_toInt32] at p
  have c : 2 ^ 31 ≤ x.toInt := by
    apply Int.not_lt.mp
    intro c
    rw [Int.bmod_eq_of_le (by omega) (by omega)] at p
    omega
  refine ⟨fun z => ?_, 31, by decide, rfl, c, hl⟩
  have z' := congrArg Int32.toInt z
  rw [h0, Int64.toInt_toInt32, Int.bmod_def] at z'
  omega
def own_e (z : Int32) : Int32 := (((63 : Int32) - z) - (10 : Int32))
def own_bk (x : Int64) (z : Int32) : Int32 := ((own_e z * (1024 : Int32)) + ((x.toUInt64 >>> (own_e z &&& 0x3f).toInt64.toUInt64).toInt64).toInt32)
theorem own_bkt {x : Int64} {z : Int32} (hx : ¬ x < (2048 : Int64)) (N : own_NL64 x z) : 0 ≤ (own_bk x z).toInt ∧ (own_bk x z).toInt < 55296 ∧ (x = (9223372036854775807 : Int64) → own_bk x z = (55295 : Int32)) := by
  rw [Int64.lt_iff_toInt_lt] at hx
  have h8 : (2048 : Int64).toInt = 2048 := rfl
  obtain ⟨k, k1, k2, k3, k4⟩ := N
  have hk : 11 ≤ k := by
    have : 11 < k + 1 := own_pw 11 (k + 1) (by have : (2 : Int) ^ 11 = 2048 := rfl; omega)
    omega
  have he : (own_e z).toInt = ((k - 10 : Nat) : Int) := by
    unfold own_e
    rw [Int32.toInt_sub, Int32.toInt_sub, k2, show (63 : Int32).toInt = 63 from rfl, show (10 : Int32).toInt = 10 from rfl]
    rw [Int.bmod_eq_of_le (n := 63 - (63 - (k : Int))) (by omega) (by omega), Int.bmod_eq_of_le (by omega) (by omega)]
    omega
  have hu := own_ush64 x (own_e z) (k - 10) he (by omega) (by omega)
  have hp : (0 : Int) < 2 ^ (k - 10) := Int.pow_pos (by decide)
  have p1 : (2 : Int) ^ k = 1024 * 2 ^ (k - 10) := by rw [show k = 10 + (k - 10) from by omega, Int.pow_add]; simp
  have p2 : (2 : Int) ^ (k + 1) = 2048 * 2 ^ (k - 10) := by rw [show k + 1 = 11 + (k - 10) from by omega, Int.pow_add]; rfl
  have g1 : 1024 ≤ x.toInt / 2 ^ (k - 10) := (Int.le_ediv_iff_mul_le hp).mpr (by omega)
  have g2 : x.toInt / 2 ^ (k - 10) < 2048 := Int.ediv_lt_of_lt_mul hp (by omega)
  have hb : (own_bk x z).toInt = ((k - 10 : Nat) : Int) * 1024 + x.toInt / 2 ^ (k - 10) := by
    unfold own_bk
    rw [Int32.toInt_add, Int32.toInt_mul, he, own_l2iv _ (by rw [hu]; omega) (by rw [hu]; omega), hu, show (1024 : Int32).toInt = 1024 from rfl]
    rw [Int.bmod_eq_of_le (n := ((k - 10 : Nat) : Int) * 1024) (by omega) (by omega), Int.bmod_eq_of_le (by omega) (by omega)]
  refine ⟨by omega, by omega, fun q => ?_⟩
  have hm : x.toInt = 9223372036854775807 := by rw [q]; rfl
  have hk2 : k = 62 := by
    have : 62 < k + 1 := own_pw 62 (k + 1) (by have : (2 : Int) ^ 62 = 4611686018427387904 := rfl; omega)
    omega
  apply Int32.toInt_inj.mp
  rw [hb, hk2, hm]
  decide
theorem own_bks {x : Int64} (h0 : 0 ≤ x.toInt) (hx : x < (2048 : Int64)) : 0 ≤ x.toInt32.toInt ∧ x.toInt32.toInt < 55296 ∧ (x = (9223372036854775807 : Int64) → x.toInt32 = (55295 : Int32)) := by
  rw [Int64.lt_iff_toInt_lt] at hx
  have h8 : (2048 : Int64).toInt = 2048 := rfl
  rw [own_l2iv x h0 (by omega)]
  exact ⟨h0, by omega, fun q => by rw [q] at hx; exact absurd hx (by decide)⟩
/-- what 'lowest' computes -/
def own_q (i : Int32) : Int32 := (i / (1024 : Int32)) - (1 : Int32)
def own_low (i : Int32) : Int64 := if i < (2048 : Int32) then i.toInt64 else (i - own_q i * (1024 : Int32)).toInt64 <<< (own_q i &&& 0x3f).toInt64
def own_V (i : Int) : Int := if i < 2048 then i else (i % 1024 + 1024) * 2 ^ (i / 1024 - 1).toNat
theorem own_shl (n : Fin 64) : ((Int32.ofNat n.val) &&& 0x3f).toInt64 = Int64.ofNat n.val := by
  revert n
  decide
theorem own_smod (n : Fin 64) : (Int64.ofNat n.val).toBitVec.smod 64 = BitVec.ofNat 64 n.val := by
  revert n
  decide
theorem own_shlv (a : Int64) (n m : Nat) (hn : n < 64) (ha : a.toInt = m) (hm : m * 2 ^ n < 2 ^ 63) : (a <<< Int64.ofNat n).toInt = m * 2 ^ n := by
  have h1 := own_nat64 a (by omega)
  have h2 : a.toBitVec.toNat = m := by
    have : a.toUInt64.toNat = a.toBitVec.toNat := rfl
    omega
  have h3 : (a <<< Int64.ofNat n).toBitVec.toNat = m * 2 ^ n := by
    rw [Int64.toBitVec_shiftLeft, own_smod ⟨n, hn⟩, BitVec.shiftLeft_eq', BitVec.toNat_shiftLeft, h2, BitVec.toNat_ofNat, Nat.mod_eq_of_lt (show n < 2 ^ 64 by omega), Nat.shiftLeft_eq, Nat.mod_eq_of_lt (by omega)]
  rw [← Int64.toInt_toBitVec, BitVec.toInt_eq_toNat_of_lt (by omega), h3]
  simp
theorem own_lowV (i : Int32) (h0 : 0 ≤ i.toInt) (h1 : i.toInt < 55296) : (own_low i).toInt = own_V i.toInt := by
  unfold own_low own_V
  have e8 : (2048 : Int32).toInt = 2048 := rfl
  by_cases c : i < (2048 : Int32)
  · have c' := Int32.lt_iff_toInt_lt.mp c
    rw [if_pos c, if_pos (by omega), Int32.toInt_toInt64]
  · have c' : ¬ i.toInt < 2048 := fun q => c (Int32.lt_iff_toInt_lt.mpr (by omega))
    rw [if_neg c, if_neg c']
    have hd : (i / (1024 : Int32)).toInt = i.toInt / 1024 := by
      rw [Int32.toInt_div, show (1024 : Int32).toInt = 1024 from rfl, Int.tdiv_eq_ediv_of_nonneg h0]
      exact Int.bmod_eq_of_le (by omega) (by omega)
    have hq : (own_q i).toInt = i.toInt / 1024 - 1 := by
      unfold own_q
      rw [Int32.toInt_sub, hd, show (1 : Int32).toInt = 1 from rfl]
      exact Int.bmod_eq_of_le (by omega) (by omega)
    have hm : (i - own_q i * (1024 : Int32)).toInt = i.toInt % 1024 + 1024 := by
      rw [Int32.toInt_sub, Int32.toInt_mul, hq, show (1024 : Int32).toInt = 1024 from rfl]
      rw [Int.bmod_eq_of_le (n := (i.toInt / 1024 - 1) * 1024) (by omega) (by omega)]
      rw [Int.bmod_eq_of_le (by omega) (by omega)]
      omega
    have hn : (i.toInt / 1024 - 1).toNat < 53 := by omega
    have hqe : own_q i = Int32.ofNat (i.toInt / 1024 - 1).toNat := by
      apply Int32.toInt_inj.mp
      rw [hq, Int32.toInt_ofNat_of_lt (by omega)]
      omega
    have hp : 2 ^ (i.toInt / 1024 - 1).toNat ≤ 2 ^ 52 := Nat.pow_le_pow_right (by decide) (by omega)
    have hs := own_shlv (i - own_q i * (1024 : Int32)).toInt64 (i.toInt / 1024 - 1).toNat (i.toInt % 1024 + 1024).toNat (by omega) (by rw [Int32.toInt_toInt64, hm]; omega) (by
      have : (i.toInt % 1024 + 1024).toNat * 2 ^ (i.toInt / 1024 - 1).toNat ≤ 2047 * 2 ^ 52 := Nat.mul_le_mul (by omega) hp
      omega)
    rw [hqe] at hs ⊢
    rw [own_shl ⟨(i.toInt / 1024 - 1).toNat, by omega⟩, hs]
    rw [Int.toNat_of_nonneg (by omega)]
theorem own_pwle (a b : Nat) (h : a ≤ b) : (2 : Int) ^ a ≤ 2 ^ b := by
  have := Nat.pow_le_pow_right (by decide : 2 > 0) h
  exact_mod_cast this
theorem own_Vmono (i j : Int) (h0 : 0 ≤ i) (h : i ≤ j) : own_V i ≤ own_V j := by
  unfold own_V
  by_cases c : j < 2048
  · rw [if_pos (by omega), if_pos c]; exact h
  · rw [if_neg c]
    have hpj : (0 : Int) < 2 ^ (j / 1024 - 1).toNat := Int.pow_pos (by decide)
    by_cases d : i < 2048
    · rw [if_pos d]
      have : (2 : Int) ^ 1 ≤ 2 ^ (j / 1024 - 1).toNat := own_pwle _ _ (by omega)
      have e : (1024 : Int) * 2 ^ 1 ≤ (j % 1024 + 1024) * 2 ^ (j / 1024 - 1).toNat := Int.mul_le_mul (by omega) this (by decide) (by omega)
      omega
    · rw [if_neg d]
      have hpi : (0 : Int) < 2 ^ (i / 1024 - 1).toNat := Int.pow_pos (by decide)
      by_cases s : i / 1024 = j / 1024
      · rw [s]
        exact Int.mul_le_mul_of_nonneg_right (by omega) (by omega)
      · have hlt : (i / 1024 - 1).toNat + 1 ≤ (j / 1024 - 1).toNat := by omega
        have e1 : (2 : Int) ^ ((i / 1024 - 1).toNat + 1) ≤ 2 ^ (j / 1024 - 1).toNat := own_pwle _ _ hlt
        have e2 : (2 : Int) ^ ((i / 1024 - 1).toNat + 1) = 2 * 2 ^ (i / 1024 - 1).toNat := by rw [Int.pow_succ]; omega
        have e3 : (i % 1024 + 1024) * 2 ^ (i / 1024 - 1).toNat ≤ 2048 * 2 ^ (i / 1024 - 1).toNat := Int.mul_le_mul_of_nonneg_right (by omega) (by omega)
        have e4 : 1024 * 2 ^ (j / 1024 - 1).toNat ≤ (j % 1024 + 1024) * 2 ^ (j / 1024 - 1).toNat := Int.mul_le_mul_of_nonneg_right (by omega) (by omega)
        omega
theorem own_lowmono (i j : Int32) (h0 : 0 ≤ i.toInt) (h : i.toInt ≤ j.toInt) (h1 : j.toInt < 55296) : (own_low i).toInt ≤ (own_low j).toInt := by
  rw [own_lowV i h0 (by omega), own_lowV j (by omega) h1]
  exact own_Vmono _ _ h0 h
theorem own_ef_rm5p (m : MethodId) (i : Int32)  : entryFrame m #[(.int i)] 2 = mkF m 0 #[.val (.int i), .unset] [] := by first | (simp [entryFrame, mkF, argsToLocals, Value.category]; done) | rfl
def Q5p (Z : State) (i : Int32) (h0 : Heap) (n0 : Nat) (v : Option Value) (h : Heap) (L : List Loc) : Prop := ∃ z : Int32, v = some (.int z) ∧ Fr n0 L ∧ h = h0 ∧ own_NL i z
set_option maxRecDepth 65536 in
set_option maxHeartbeats 40000000 in
theorem own_n73 {p : Program} {l : Launch} {e : Env} {s : State} {m : MethodId} {below : List Frame} {meth : Method} {c : Code} {T0 : State} {locs : List Loc} (Z : State) (a0 : Array Value) (hw : ∀ d ∈ tables_1, d.before a0 Z = true) (i : Int32) (j : Int32) (n : Int32) (h0 : Heap) (n0 : Nat) (h1 : Heap)
    (X0 : Stand p l e ({ frames := 0, cells := 0, slots := 0, locals := 0 } : Room) s m #[(.int i)] below meth c T0 locs 0 0) (hx : p.tables.exec = Jvm.exec) (hby : c.code = jdk_33_method_47_code) (hlk : meth.locks = false) (hml : c.maxLocals = 2) (hown : s.vm.findClass "java/lang/Integer" = some m.cls) (hret : meth.sig.returnType = some .int) (hZ : Z.Warmed39 s.vm) (e1 : T0.heap = h1) (N0 : Fr n0 locs) (Z1 : n0 ≤ h1.size) (hI : own_I i j n 4) (hq : h1 = h0) :
    own_End p e below (own_F s (Q5p Z i h0 n0) ({ frames := 0, cells := 0, slots := 0, locals := 0 } : Room).cells ({ frames := 0, cells := 0, slots := 0, locals := 0 } : Room).slots) (T0.setTop (mkF m 73 #[.val (.int j), .val (.int n)] [])) := by
  refine own_iloadN X0 hx hby d5_73 (pc' := 74) rfl rfl ?_
  refine own_iloadN X0 hx hby d5_74 (pc' := 75) rfl rfl ?_
  refine own_iconst X0 hx hby d5_75 (pc' := 76) rfl (n := (1 : Int32)) (by decide) ?_
  refine own_iushr X0 hx hby d5_76 (pc' := 77) rfl ?_
  refine own_isub X0 hx hby d5_77 (pc' := 78) rfl ?_
  refine own_ireturn X0 hx hlk hby hret d5_78 (own_lv ?_ (by decide) (by decide))
  show Q5p Z i  h0 n0 (some (.int (n - ((j.toUInt32 >>> ((1 : Int32) &&& 31).toUInt32).toInt32)))) T0.heap _
  rw [e1]
  exact ⟨_, rfl, N0, hq, own_Ifin hI 1 rfl⟩
set_option maxRecDepth 65536 in
set_option maxHeartbeats 40000000 in
theorem own_n61 {p : Program} {l : Launch} {e : Env} {s : State} {m : MethodId} {below : List Frame} {meth : Method} {c : Code} {T0 : State} {locs : List Loc} (Z : State) (a0 : Array Value) (hw : ∀ d ∈ tables_1, d.before a0 Z = true) (i : Int32) (j : Int32) (n : Int32) (h0 : Heap) (n0 : Nat) (h1 : Heap)
    (X0 : Stand p l e ({ frames := 0, cells := 0, slots := 0, locals := 0 } : Room) s m #[(.int i)] below meth c T0 locs 0 0) (hx : p.tables.exec = Jvm.exec) (hby : c.code = jdk_33_method_47_code) (hlk : meth.locks = false) (hml : c.maxLocals = 2) (hown : s.vm.findClass "java/lang/Integer" = some m.cls) (hret : meth.sig.returnType = some .int) (hZ : Z.Warmed39 s.vm) (e1 : T0.heap = h1) (N0 : Fr n0 locs) (Z1 : n0 ≤ h1.size) (hI : own_I i j n 16) (hq : h1 = h0) :
    own_End p e below (own_F s (Q5p Z i h0 n0) ({ frames := 0, cells := 0, slots := 0, locals := 0 } : Room).cells ({ frames := 0, cells := 0, slots := 0, locals := 0 } : Room).slots) (T0.setTop (mkF m 61 #[.val (.int j), .val (.int n)] [])) := by
  refine own_iloadN X0 hx hby d5_61 (pc' := 62) rfl rfl ?_
  refine own_iconst X0 hx hby d5_62 (pc' := 63) rfl (n := (4 : Int32)) (by decide) ?_
  refine own_ic2 X0 hx hby d5_63 (pc1 := 73) (by decide) (by decide) (pc2 := 66) rfl (fun (hc63 : j < (4 : Int32)) => ?_) (fun (hc63 : ¬ j < (4 : Int32)) => ?_)
  · exact own_n73 Z a0 hw i j n  h0 n0 h1 (own_mono X0 (by decide) (by decide)) hx hby hlk hml hown hret hZ e1 N0 Z1  (own_Iy hI (4 : Int32) rfl hc63) hq
  · refine own_iinc X0 hx hby d5_66 (pc' := 69) rfl rfl (y := (n + (-2 : Int32))) rfl (l' := #[.val (.int j), .val (.int (n + (-2 : Int32)))]) rfl ?_
    refine own_iloadN X0 hx hby d5_69 (pc' := 70) rfl rfl ?_
    refine own_iconst X0 hx hby d5_70 (pc' := 71) rfl (n := (2 : Int32)) (by decide) ?_
    refine own_iushr X0 hx hby d5_71 (pc' := 72) rfl ?_
    refine own_istoreN X0 hx hby d5_72 (pc' := 73) rfl (l' := #[.val (.int ((j.toUInt32 >>> ((2 : Int32) &&& 31).toUInt32).toInt32)), .val (.int (n + (-2 : Int32)))]) rfl ?_
    exact own_n73 Z a0 hw i ((j.toUInt32 >>> ((2 : Int32) &&& 31).toUInt32).toInt32) (n + (-2 : Int32))  h0 n0 h1 (own_mono X0 (by decide) (by decide)) hx hby hlk hml hown hret hZ e1 N0 Z1  (own_In hI (4 : Int32) 2 (2 &&& 31) (-2) rfl (by decide) rfl rfl (by decide) hc63) hq
set_option maxRecDepth 65536 in
set_option maxHeartbeats 40000000 in
theorem own_n48 {p : Program} {l : Launch} {e : Env} {s : State} {m : MethodId} {below : List Frame} {meth : Method} {c : Code} {T0 : State} {locs : List Loc} (Z : State) (a0 : Array Value) (hw : ∀ d ∈ tables_1, d.before a0 Z = true) (i : Int32) (j : Int32) (n : Int32) (h0 : Heap) (n0 : Nat) (h1 : Heap)
    (X0 : Stand p l e ({ frames := 0, cells := 0, slots := 0, locals := 0 } : Room) s m #[(.int i)] below meth c T0 locs 0 0) (hx : p.tables.exec = Jvm.exec) (hby : c.code = jdk_33_method_47_code) (hlk : meth.locks = false) (hml : c.maxLocals = 2) (hown : s.vm.findClass "java/lang/Integer" = some m.cls) (hret : meth.sig.returnType = some .int) (hZ : Z.Warmed39 s.vm) (e1 : T0.heap = h1) (N0 : Fr n0 locs) (Z1 : n0 ≤ h1.size) (hI : own_I i j n 256) (hq : h1 = h0) :
    own_End p e below (own_F s (Q5p Z i h0 n0) ({ frames := 0, cells := 0, slots := 0, locals := 0 } : Room).cells ({ frames := 0, cells := 0, slots := 0, locals := 0 } : Room).slots) (T0.setTop (mkF m 48 #[.val (.int j), .val (.int n)] [])) := by
  refine own_iloadN X0 hx hby d5_48 (pc' := 49) rfl rfl ?_
  refine own_bipush X0 hx hby d5_49 (pc' := 51) rfl (n := (16 : Int32)) (by decide) ?_
  refine own_ic2 X0 hx hby d5_51 (pc1 := 61) (by decide) (by decide) (pc2 := 54) rfl (fun (hc51 : j < (16 : Int32)) => ?_) (fun (hc51 : ¬ j < (16 : Int32)) => ?_)
  · exact own_n61 Z a0 hw i j n  h0 n0 h1 (own_mono X0 (by decide) (by decide)) hx hby hlk hml hown hret hZ e1 N0 Z1  (own_Iy hI (16 : Int32) rfl hc51) hq
  · refine own_iinc X0 hx hby d5_54 (pc' := 57) rfl rfl (y := (n + (-4 : Int32))) rfl (l' := #[.val (.int j), .val (.int (n + (-4 : Int32)))]) rfl ?_
    refine own_iloadN X0 hx hby d5_57 (pc' := 58) rfl rfl ?_
    refine own_iconst X0 hx hby d5_58 (pc' := 59) rfl (n := (4 : Int32)) (by decide) ?_
    refine own_iushr X0 hx hby d5_59 (pc' := 60) rfl ?_
    refine own_istoreN X0 hx hby d5_60 (pc' := 61) rfl (l' := #[.val (.int ((j.toUInt32 >>> ((4 : Int32) &&& 31).toUInt32).toInt32)), .val (.int (n + (-4 : Int32)))]) rfl ?_
    exact own_n61 Z a0 hw i ((j.toUInt32 >>> ((4 : Int32) &&& 31).toUInt32).toInt32) (n + (-4 : Int32))  h0 n0 h1 (own_mono X0 (by decide) (by decide)) hx hby hlk hml hown hret hZ e1 N0 Z1  (own_In hI (16 : Int32) 4 (4 &&& 31) (-4) rfl (by decide) rfl rfl (by decide) hc51) hq
set_option maxRecDepth 65536 in
set_option maxHeartbeats 40000000 in
theorem own_n33 {p : Program} {l : Launch} {e : Env} {s : State} {m : MethodId} {below : List Frame} {meth : Method} {c : Code} {T0 : State} {locs : List Loc} (Z : State) (a0 : Array Value) (hw : ∀ d ∈ tables_1, d.before a0 Z = true) (i : Int32) (j : Int32) (n : Int32) (h0 : Heap) (n0 : Nat) (h1 : Heap)
    (X0 : Stand p l e ({ frames := 0, cells := 0, slots := 0, locals := 0 } : Room) s m #[(.int i)] below meth c T0 locs 0 0) (hx : p.tables.exec = Jvm.exec) (hby : c.code = jdk_33_method_47_code) (hlk : meth.locks = false) (hml : c.maxLocals = 2) (hown : s.vm.findClass "java/lang/Integer" = some m.cls) (hret : meth.sig.returnType = some .int) (hZ : Z.Warmed39 s.vm) (e1 : T0.heap = h1) (N0 : Fr n0 locs) (Z1 : n0 ≤ h1.size) (hI : own_I i j n 65536) (hq : h1 = h0) :
    own_End p e below (own_F s (Q5p Z i h0 n0) ({ frames := 0, cells := 0, slots := 0, locals := 0 } : Room).cells ({ frames := 0, cells := 0, slots := 0, locals := 0 } : Room).slots) (T0.setTop (mkF m 33 #[.val (.int j), .val (.int n)] [])) := by
  refine own_iloadN X0 hx hby d5_33 (pc' := 34) rfl rfl ?_
  refine own_sipush X0 hx hby d5_34 (pc' := 37) rfl (n := (256 : Int32)) (by decide) ?_
  refine own_ic2 X0 hx hby d5_37 (pc1 := 48) (by decide) (by decide) (pc2 := 40) rfl (fun (hc37 : j < (256 : Int32)) => ?_) (fun (hc37 : ¬ j < (256 : Int32)) => ?_)
  · exact own_n48 Z a0 hw i j n  h0 n0 h1 (own_mono X0 (by decide) (by decide)) hx hby hlk hml hown hret hZ e1 N0 Z1  (own_Iy hI (256 : Int32) rfl hc37) hq
  · refine own_iinc X0 hx hby d5_40 (pc' := 43) rfl rfl (y := (n + (-8 : Int32))) rfl (l' := #[.val (.int j), .val (.int (n + (-8 : Int32)))]) rfl ?_
    refine own_iloadN X0 hx hby d5_43 (pc' := 44) rfl rfl ?_
    refine own_bipush X0 hx hby d5_44 (pc' := 46) rfl (n := (8 : Int32)) (by decide) ?_
    refine own_iushr X0 hx hby d5_46 (pc' := 47) rfl ?_
    refine own_istoreN X0 hx hby d5_47 (pc' := 48) rfl (l' := #[.val (.int ((j.toUInt32 >>> ((8 : Int32) &&& 31).toUInt32).toInt32)), .val (.int (n + (-8 : Int32)))]) rfl ?_
    exact own_n48 Z a0 hw i ((j.toUInt32 >>> ((8 : Int32) &&& 31).toUInt32).toInt32) (n + (-8 : Int32))  h0 n0 h1 (own_mono X0 (by decide) (by decide)) hx hby hlk hml hown hret hZ e1 N0 Z1  (own_In hI (256 : Int32) 8 (8 &&& 31) (-8) rfl (by decide) rfl rfl (by decide) hc37) hq
set_option maxRecDepth 65536 in
set_option maxHeartbeats 40000000 in
theorem rm5p (l : Launch) (Z : State) (a0 : Array Value) (hw : ∀ d ∈ tables_1, d.before a0 Z = true) (ws : List Jvm.Cond) (i : Int32) (h0 : Heap) (n0 : Nat) (Z0 : n0 ≤ h0.size) (hi : (0 : Int32) < i) :
    MetFree l (⟨"java/lang/Integer", "numberOfLeadingZeros", "(I)I"⟩ : MethodName) (head1 (Jvm.Cond.code (⟨"java/lang/Integer", "numberOfLeadingZeros", "(I)I"⟩ : MethodName) jdk_33_method_47_code 2 (some .int) :: ws) ({ frames := 0, cells := 0, slots := 0, locals := 0 } : Room)) (fun aa U => aa = #[(.int i)] ∧ Z.Warmed39 U.vm ∧ U.heap = h0) (fun _ _ _ _ _ => True) (fun _ U oc U' => ∃ v L, oc = .returned v ∧ Q5p Z i h0 n0 v U'.heap L ∧ FrameEnd U oc U' L ({ frames := 0, cells := 0, slots := 0, locals := 0 } : Room).cells ({ frames := 0, cells := 0, slots := 0, locals := 0 } : Room).slots) := by
  refine MetFree.of_bodySF (plainFor_of_name own_pn0) hisR ?_
  intro p e s m args below meth c s₁ Bd hml0 hP hK
  obtain ⟨rfl, hZ, hh⟩ := hP
  have hx := Bd.exec
  have hby := Bd.bytes
  have hlk := Bd.notSynchronized
  have hret := Bd.returns
  have hml : c.maxLocals = 2 := hml0
  have hown : s.vm.findClass "java/lang/Integer" = some m.cls := findClass_of_methodNamed Bd.named
  have hnm := (name_of_methodNamed Bd.named Bd.method).1
  have X0 : Stand p l e ({ frames := 0, cells := 0, slots := 0, locals := 0 } : Room) s m #[(.int i)] below meth c s₁ [] 0 0 := Stand.of_body Bd
  have e0 : s₁.heap = h0 := by rw [← hh, Bd.state]; rfl
  have N0 := Fr.nil n0
  refine own_body (Q := Q5p Z i h0 n0) (KC := ({ frames := 0, cells := 0, slots := 0, locals := 0 } : Room).cells) (KS := ({ frames := 0, cells := 0, slots := 0, locals := 0 } : Room).slots) ?_
  rw [own_ef_rm5p m i]
  refine own_iloadN X0 hx hby d5_0 (pc' := 1) rfl rfl ?_
  refine own_ifY X0 hx hby d5_1 (pc' := 15) (by decide) (by decide) (show (0 : Int32) < i from hi) ?_
  refine own_bipush X0 hx hby d5_15 (pc' := 17) rfl (n := (31 : Int32)) (by decide) ?_
  refine own_istoreN X0 hx hby d5_17 (pc' := 18) rfl (l' := #[.val (.int i), .val (.int (31 : Int32))]) rfl ?_
  refine own_iloadN X0 hx hby d5_18 (pc' := 19) rfl rfl ?_
  refine own_ldcwInt X0 hx hZ hby hown (wd_23 hw) d5_19 (pc' := 22) rfl ?_
  refine own_ic2 X0 hx hby d5_22 (pc1 := 33) (by decide) (by decide) (pc2 := 25) rfl (fun (hc22 : i < (65536 : Int32)) => ?_) (fun (hc22 : ¬ i < (65536 : Int32)) => ?_)
  · exact own_n33 Z a0 hw i i (31 : Int32)  h0 n0 h0 (own_mono X0 (by decide) (by decide)) hx hby hlk hml hown hret hZ e0 N0 Z0  (own_Iy (own_I0 i hi) (65536 : Int32) rfl hc22) rfl
  · refine own_iinc X0 hx hby d5_25 (pc' := 28) rfl rfl (y := (15 : Int32)) (by decide) (l' := #[.val (.int i), .val (.int (15 : Int32))]) rfl ?_
    refine own_iloadN X0 hx hby d5_28 (pc' := 29) rfl rfl ?_
    refine own_bipush X0 hx hby d5_29 (pc' := 31) rfl (n := (16 : Int32)) (by decide) ?_
    refine own_iushr X0 hx hby d5_31 (pc' := 32) rfl ?_
    refine own_istoreN X0 hx hby d5_32 (pc' := 33) rfl (l' := #[.val (.int ((i.toUInt32 >>> ((16 : Int32) &&& 31).toUInt32).toInt32)), .val (.int (15 : Int32))]) rfl ?_
    exact own_n33 Z a0 hw i ((i.toUInt32 >>> ((16 : Int32) &&& 31).toUInt32).toInt32) (15 : Int32)  h0 n0 h0 (own_mono X0 (by decide) (by decide)) hx hby hlk hml hown hret hZ e0 N0 Z0  (own_In (own_I0 i hi) (65536 : Int32) 16 (16 &&& 31) (-16) rfl (by decide) rfl rfl (by decide) hc22) rfl
theorem own_ef_rm5n (m : MethodId) (i : Int32)  : entryFrame m #[(.int i)] 2 = mkF m 0 #[.val (.int i), .unset] [] := by first | (simp [entryFrame, mkF, argsToLocals, Value.category]; done) | rfl
def Q5n (Z : State) (i : Int32) (h0 : Heap) (n0 : Nat) (v : Option Value) (h : Heap) (L : List Loc) : Prop := v = some (.int 0) ∧ Fr n0 L ∧ h = h0
set_option maxRecDepth 65536 in
set_option maxHeartbeats 40000000 in
theorem rm5n (l : Launch) (Z : State) (a0 : Array Value) (hw : ∀ d ∈ tables_1, d.before a0 Z = true) (ws : List Jvm.Cond) (i : Int32) (h0 : Heap) (n0 : Nat) (Z0 : n0 ≤ h0.size) (hi : ¬ (0 : Int32) < i) (hi2 : ¬ i = (0 : Int32)) :
    MetFree l (⟨"java/lang/Integer", "numberOfLeadingZeros", "(I)I"⟩ : MethodName) (head1 (Jvm.Cond.code (⟨"java/lang/Integer", "numberOfLeadingZeros", "(I)I"⟩ : MethodName) jdk_33_method_47_code 2 (some .int) :: ws) ({ frames := 0, cells := 0, slots := 0, locals := 0 } : Room)) (fun aa U => aa = #[(.int i)] ∧ Z.Warmed39 U.vm ∧ U.heap = h0) (fun _ _ _ _ _ => True) (fun _ U oc U' => ∃ v L, oc = .returned v ∧ Q5n Z i h0 n0 v U'.heap L ∧ FrameEnd U oc U' L ({ frames := 0, cells := 0, slots := 0, locals := 0 } : Room).cells ({ frames := 0, cells := 0, slots := 0, locals := 0 } : Room).slots) := by
  refine MetFree.of_bodySF (plainFor_of_name own_pn0) hisR ?_
  intro p e s m args below meth c s₁ Bd hml0 hP hK
  obtain ⟨rfl, hZ, hh⟩ := hP
  have hx := Bd.exec
  have hby := Bd.bytes
  have hlk := Bd.notSynchronized
  have hret := Bd.returns
  have hml : c.maxLocals = 2 := hml0
  have hown : s.vm.findClass "java/lang/Integer" = some m.cls := findClass_of_methodNamed Bd.named
  have hnm := (name_of_methodNamed Bd.named Bd.method).1
  have X0 : Stand p l e ({ frames := 0, cells := 0, slots := 0, locals := 0 } : Room) s m #[(.int i)] below meth c s₁ [] 0 0 := Stand.of_body Bd
  have e0 : s₁.heap = h0 := by rw [← hh, Bd.state]; rfl
  have N0 := Fr.nil n0
  refine own_body (Q := Q5n Z i h0 n0) (KC := ({ frames := 0, cells := 0, slots := 0, locals := 0 } : Room).cells) (KS := ({ frames := 0, cells := 0, slots := 0, locals := 0 } : Room).slots) ?_
  rw [own_ef_rm5n m i]
  refine own_iloadN X0 hx hby d5_0 (pc' := 1) rfl rfl ?_
  refine own_ifN X0 hx hby d5_1 (pc' := 4) rfl (show ¬ (0 : Int32) < i from hi) ?_
  refine own_iloadN X0 hx hby d5_4 (pc' := 5) rfl rfl ?_
  refine own_ifY X0 hx hby d5_5 (pc' := 13) (by decide) (by decide) (show ¬ i = (0 : Int32) from hi2) ?_
  refine own_iconst X0 hx hby d5_13 (pc' := 14) rfl (n := (0 : Int32)) (by decide) ?_
  refine own_ireturn X0 hx hlk hby hret d5_14 (own_lv ?_ (by decide) (by decide))
  show Q5n Z i  h0 n0 (some (.int (0 : Int32))) s₁.heap _
  rw [e0]
  exact ⟨rfl, N0, rfl⟩
theorem own_ef_rm4 (m : MethodId) (x : Int64)  : entryFrame m #[(.long x)] 3 = mkF m 0 #[.val (.long x), .second, .unset] [] := by first | (simp [entryFrame, mkF, argsToLocals, Value.category]; done) | rfl
def Q4 (Z : State) (x : Int64) (h0 : Heap) (n0 : Nat) (v : Option Value) (h : Heap) (L : List Loc) : Prop := ∃ z : Int32, v = some (.int z) ∧ Fr n0 L ∧ h = h0 ∧ own_NL64 x z
set_option maxRecDepth 65536 in
set_option maxHeartbeats 40000000 in
theorem rm4 (l : Launch) (Z : State) (a0 : Array Value) (hw : ∀ d ∈ tables_1, d.before a0 Z = true) (ws : List Jvm.Cond) (x : Int64) (h0 : Heap) (n0 : Nat) (Z0 : n0 ≤ h0.size) (hx0 : 0 < x.toInt) :
    MetFree l (⟨"java/lang/Long", "numberOfLeadingZeros", "(J)I"⟩ : MethodName) (head1 (Jvm.Cond.code (⟨"java/lang/Long", "numberOfLeadingZeros", "(J)I"⟩ : MethodName) jdk_35_method_48_code 3 (some .int) :: ws) ({ frames := 1, cells := 0, slots := 0, locals := 14 } : Room)) (fun aa U => aa = #[(.long x)] ∧ Z.Warmed39 U.vm ∧ U.heap = h0) (fun _ _ _ _ _ => True) (fun _ U oc U' => ∃ v L, oc = .returned v ∧ Q4 Z x h0 n0 v U'.heap L ∧ FrameEnd U oc U' L ({ frames := 1, cells := 0, slots := 0, locals := 14 } : Room).cells ({ frames := 1, cells := 0, slots := 0, locals := 14 } : Room).slots) := by
  refine MetFree.of_bodySF (plainFor_of_name own_pn2) hisR ?_
  intro p e s m args below meth c s₁ Bd hml0 hP hK
  obtain ⟨rfl, hZ, hh⟩ := hP
  have hx := Bd.exec
  have hby := Bd.bytes
  have hlk := Bd.notSynchronized
  have hret := Bd.returns
  have hml : c.maxLocals = 3 := hml0
  have hown : s.vm.findClass "java/lang/Long" = some m.cls := findClass_of_methodNamed Bd.named
  have hnm := (name_of_methodNamed Bd.named Bd.method).1
  have X0 : Stand p l e ({ frames := 1, cells := 0, slots := 0, locals := 14 } : Room) s m #[(.long x)] below meth c s₁ [] 0 0 := Stand.of_body Bd
  have e0 : s₁.heap = h0 := by rw [← hh, Bd.state]; rfl
  have N0 := Fr.nil n0
  refine own_body (Q := Q4 Z x h0 n0) (KC := ({ frames := 1, cells := 0, slots := 0, locals := 14 } : Room).cells) (KS := ({ frames := 1, cells := 0, slots := 0, locals := 14 } : Room).slots) ?_
  rw [own_ef_rm4 m x]
  refine own_lloadN X0 hx hby d4_0 (pc' := 1) rfl rfl ?_
  refine own_bipush X0 hx hby d4_1 (pc' := 3) rfl (n := (32 : Int32)) (by decide) ?_
  refine own_lushr X0 hx hby d4_3 (pc' := 4) rfl ?_
  refine own_l2i X0 hx hby d4_4 (pc' := 5) rfl ?_
  refine own_istoreN X0 hx hby d4_5 (pc' := 6) rfl (l' := #[.val (.long x), .second, .val (.int (((x.toUInt64 >>> ((32 : Int32) &&& 0x3f).toInt64.toUInt64).toInt64).toInt32))]) rfl ?_
  show own_End p e below _ (s₁.setTop (mkF m 6 #[.val (.long x), .second, .val (.int (own_up x))] []))
  refine own_iloadN X0 hx hby d4_6 (pc' := 7) rfl rfl ?_
  show own_End p e below _ (s₁.setTop (mkF m 7 #[.val (.long x), .second, .val (.int (own_up x))] [(.int (own_up x))]))
  rcases Decidable.em ((own_up x) = (0 : Int32)) with hu | hu
  · show own_End p e below _ (s₁.setTop (mkF m 7 #[.val (.long x), .second, .val (.int (own_up x))] [(.int (own_up x))]))
    refine own_ifN X0 hx hby d4_7 (pc' := 10) rfl (show (own_up x) = (0 : Int32) from hu) ?_
    refine own_bipush X0 hx hby d4_10 (pc' := 12) rfl (n := (32 : Int32)) (by decide) ?_
    refine own_lloadN X0 hx hby d4_12 (pc' := 13) rfl rfl ?_
    rcases Decidable.em ((0 : Int32) < (x.toInt32)) with hp5 | hp5
    · show own_End p e below _ (s₁.setTop (mkF m 13 #[.val (.long x), .second, .val (.int (own_up x))] [(.long x), (.int (32 : Int32))]))
      refine own_l2i X0 hx hby d4_13 (pc' := 14) rfl ?_
      refine own_lk0 hw X0 hx hZ hby (by rw [hml]; rfl) hown d4_14 (pc' := 17) rfl e0 (W := 1) (Nat.le_of_eq rfl) (rm5p l Z a0 hw [] (x.toInt32) h0 n0 Z0 hp5) (by decide) (by decide) (by decide) (by decide) (fun v4 T4 L4 X4 hQ4 => ?_)
      obtain ⟨z3, rfl, Nq4, e4, NLz3⟩ := hQ4
      have N4 := Fr.app N0 Nq4
      show own_End p e below _ (T4.setTop (mkF m 17 _ [(.int z3), (.int (32 : Int32))]))
      refine own_iadd X4 hx hby d4_17 (pc' := 18) rfl ?_
      refine own_goto X4 hx hby d4_18 (pc' := 25) (by decide) (by decide) ?_
      refine own_ireturn X4 hx hlk hby hret d4_25 (own_lv ?_ (by decide) (by decide))
      show Q4 Z x  h0 n0 (some (.int ((32 : Int32) + z3))) T4.heap _
      rw [e4]
      exact ⟨_, rfl, N4, rfl, own_L2 hx0 hu hp5 NLz3⟩
    · show own_End p e below _ (s₁.setTop (mkF m 13 #[.val (.long x), .second, .val (.int (own_up x))] [(.long x), (.int (32 : Int32))]))
      refine own_l2i X0 hx hby d4_13 (pc' := 14) rfl ?_
      refine own_lk0 hw X0 hx hZ hby (by rw [hml]; rfl) hown d4_14 (pc' := 17) rfl e0 (W := 1) (Nat.le_of_eq rfl) (rm5n l Z a0 hw [] (x.toInt32) h0 n0 Z0 hp5 (own_L3 hx0 hu hp5).1) (by decide) (by decide) (by decide) (by decide) (fun v5 T5 L5 X5 hQ5 => ?_)
      obtain ⟨rfl, Nq5, e5⟩ := hQ5
      have N5 := Fr.app N0 Nq5
      show own_End p e below _ (T5.setTop (mkF m 17 _ [(.int (0 : Int32)), (.int (32 : Int32))]))
      refine own_iadd X5 hx hby d4_17 (pc' := 18) rfl ?_
      refine own_goto X5 hx hby d4_18 (pc' := 25) (by decide) (by decide) ?_
      refine own_ireturn X5 hx hlk hby hret d4_25 (own_lv ?_ (by decide) (by decide))
      show Q4 Z x  h0 n0 (some (.int ((32 : Int32) + (0 : Int32)))) T5.heap _
      rw [e5]
      exact ⟨_, rfl, N5, rfl, (own_L3 hx0 hu hp5).2⟩
  · show own_End p e below _ (s₁.setTop (mkF m 7 #[.val (.long x), .second, .val (.int (own_up x))] [(.int (own_up x))]))
    refine own_ifY X0 hx hby d4_7 (pc' := 21) (by decide) (by decide) (show ¬ (own_up x) = (0 : Int32) from hu) ?_
    refine own_iloadN X0 hx hby d4_21 (pc' := 22) rfl rfl ?_
    refine own_lk0 hw X0 hx hZ hby (by rw [hml]; rfl) hown d4_22 (pc' := 25) rfl e0 (W := 0) (Nat.le_of_eq rfl) (rm5p l Z a0 hw [] (own_up x) h0 n0 Z0 (own_up0 x hx0 hu)) (by decide) (by decide) (by decide) (by decide) (fun v7 T7 L7 X7 hQ7 => ?_)
    obtain ⟨z6, rfl, Nq7, e7, NLz6⟩ := hQ7
    have N7 := Fr.app N0 Nq7
    show own_End p e below _ (T7.setTop (mkF m 25 _ [(.int z6)]))
    refine own_ireturn X7 hx hlk hby hret d4_25 (own_lv ?_ (by decide) (by decide))
    show Q4 Z x  h0 n0 (some (.int z6)) T7.heap _
    rw [e7]
    exact ⟨_, rfl, N7, rfl, own_L1 hx0 NLz6⟩
theorem own_pos64 (x : Int64) (h : ¬ x < (2048 : Int64)) : 0 < x.toInt := by
  rw [Int64.lt_iff_toInt_lt] at h
  have h8 : (2048 : Int64).toInt = 2048 := rfl
  omega
theorem own_ef_rm3 (m : MethodId) (x : Int64)  : entryFrame m #[(.long x)] 4 = mkF m 0 #[.val (.long x), .second, .unset, .unset] [] := by first | (simp [entryFrame, mkF, argsToLocals, Value.category]; done) | rfl
def Q3 (Z : State) (x : Int64) (h0 : Heap) (n0 : Nat) (v : Option Value) (h : Heap) (L : List Loc) : Prop := ∃ z : Int32, v = some (.int z) ∧ Fr n0 L ∧ h = h0 ∧ 0 ≤ z.toInt ∧ z.toInt < 55296 ∧ (x = (9223372036854775807 : Int64) → z = (55295 : Int32))
set_option maxRecDepth 65536 in
set_option maxHeartbeats 40000000 in
theorem rm3 (l : Launch) (Z : State) (a0 : Array Value) (hw : ∀ d ∈ tables_1, d.before a0 Z = true) (ws : List Jvm.Cond) (x : Int64) (h0 : Heap) (n0 : Nat) (Z0 : n0 ≤ h0.size) (hx0 : 0 ≤ x.toInt) :
    MetFree l (⟨"com/example/earnest_reactor/earnestreactor/cli/LatencyHistogram", "bucket", "(J)I"⟩ : MethodName) (head1 (Jvm.Cond.code (⟨"com/example/earnest_reactor/earnestreactor/cli/LatencyHistogram", "bucket", "(J)I"⟩ : MethodName) prog_2_method_5_code 4 (some .int) :: ws) ({ frames := 2, cells := 0, slots := 0, locals := 29 } : Room)) (fun aa U => aa = #[(.long x)] ∧ Z.Warmed39 U.vm ∧ U.heap = h0) (fun _ _ _ _ _ => True) (fun _ U oc U' => ∃ v L, oc = .returned v ∧ Q3 Z x h0 n0 v U'.heap L ∧ FrameEnd U oc U' L ({ frames := 2, cells := 0, slots := 0, locals := 29 } : Room).cells ({ frames := 2, cells := 0, slots := 0, locals := 29 } : Room).slots) := by
  refine MetFree.of_bodySF (plainFor_of_name own_pn4) hisR ?_
  intro p e s m args below meth c s₁ Bd hml0 hP hK
  obtain ⟨rfl, hZ, hh⟩ := hP
  have hx := Bd.exec
  have hby := Bd.bytes
  have hlk := Bd.notSynchronized
  have hret := Bd.returns
  have hml : c.maxLocals = 4 := hml0
  have hown : s.vm.findClass "com/example/earnest_reactor/earnestreactor/cli/LatencyHistogram" = some m.cls := findClass_of_methodNamed Bd.named
  have hnm := (name_of_methodNamed Bd.named Bd.method).1
  have X0 : Stand p l e ({ frames := 2, cells := 0, slots := 0, locals := 29 } : Room) s m #[(.long x)] below meth c s₁ [] 0 0 := Stand.of_body Bd
  have e0 : s₁.heap = h0 := by rw [← hh, Bd.state]; rfl
  have N0 := Fr.nil n0
  refine own_body (Q := Q3 Z x h0 n0) (KC := ({ frames := 2, cells := 0, slots := 0, locals := 29 } : Room).cells) (KS := ({ frames := 2, cells := 0, slots := 0, locals := 29 } : Room).slots) ?_
  rw [own_ef_rm3 m x]
  refine own_lloadN X0 hx hby d3_0 (pc' := 1) rfl rfl ?_
  refine own_ldc2Long X0 hx hZ hby hown (wd_14 hw) d3_1 (pc' := 4) rfl ?_
  refine own_lcmp X0 hx hby d3_4 (pc' := 5) rfl ?_
  refine own_ifL2 X0 hx hby d3_5 (pc1 := 14) (by decide) (by decide) (pc2 := 8) rfl (fun (hc5 : ¬ x < (2048 : Int64)) => ?_) (fun (hc5 : x < (2048 : Int64)) => ?_)
  · refine own_bipush X0 hx hby d3_14 (pc' := 16) rfl (n := (63 : Int32)) (by decide) ?_
    refine own_lloadN X0 hx hby d3_16 (pc' := 17) rfl rfl ?_
    refine own_lk1 hw X0 hx hZ hby (by rw [hml]; rfl) hown d3_17 (pc' := 20) rfl e0 (W := 1) (Nat.le_of_eq rfl) (rm4 l Z a0 hw [] x h0 n0 Z0 (own_pos64 x hc5)) (by decide) (by decide) (by decide) (by decide) (fun v2 T2 L2 X2 hQ2 => ?_)
    obtain ⟨z1, rfl, Nq2, e2, NLz1⟩ := hQ2
    have N2 := Fr.app N0 Nq2
    show own_End p e below _ (T2.setTop (mkF m 20 _ [(.int z1), (.int (63 : Int32))]))
    refine own_isub X2 hx hby d3_20 (pc' := 21) rfl ?_
    refine own_bipush X2 hx hby d3_21 (pc' := 23) rfl (n := (10 : Int32)) (by decide) ?_
    refine own_isub X2 hx hby d3_23 (pc' := 24) rfl ?_
    refine own_istoreN X2 hx hby d3_24 (pc' := 25) rfl (l' := #[.val (.long x), .second, .unset, .val (.int (((63 : Int32) - z1) - (10 : Int32)))]) rfl ?_
    refine own_iloadN X2 hx hby d3_25 (pc' := 26) rfl rfl ?_
    refine own_sipush X2 hx hby d3_26 (pc' := 29) rfl (n := (1024 : Int32)) (by decide) ?_
    refine own_imul X2 hx hby d3_29 (pc' := 30) rfl ?_
    refine own_lloadN X2 hx hby d3_30 (pc' := 31) rfl rfl ?_
    refine own_iloadN X2 hx hby d3_31 (pc' := 32) rfl rfl ?_
    refine own_lushr X2 hx hby d3_32 (pc' := 33) rfl ?_
    refine own_l2i X2 hx hby d3_33 (pc' := 34) rfl ?_
    refine own_iadd X2 hx hby d3_34 (pc' := 35) rfl ?_
    refine own_istoreN X2 hx hby d3_35 (pc' := 36) rfl (l' := #[.val (.long x), .second, .val (.int (((((63 : Int32) - z1) - (10 : Int32)) * (1024 : Int32)) + (((x.toUInt64 >>> ((((63 : Int32) - z1) - (10 : Int32)) &&& 0x3f).toInt64.toUInt64).toInt64).toInt32))), .val (.int (((63 : Int32) - z1) - (10 : Int32)))]) rfl ?_
    refine own_iloadN X2 hx hby d3_36 (pc' := 37) rfl rfl ?_
    refine own_ireturn X2 hx hlk hby hret d3_37 (own_lv ?_ (by decide) (by decide))
    show Q3 Z x  h0 n0 (some (.int (((((63 : Int32) - z1) - (10 : Int32)) * (1024 : Int32)) + (((x.toUInt64 >>> ((((63 : Int32) - z1) - (10 : Int32)) &&& 0x3f).toInt64.toUInt64).toInt64).toInt32)))) T2.heap _
    rw [e2]
    exact ⟨_, rfl, N2, rfl, own_bkt hc5 NLz1⟩
  · refine own_lloadN X0 hx hby d3_8 (pc' := 9) rfl rfl ?_
    refine own_l2i X0 hx hby d3_9 (pc' := 10) rfl ?_
    refine own_istoreN X0 hx hby d3_10 (pc' := 11) rfl (l' := #[.val (.long x), .second, .val (.int (x.toInt32)), .unset]) rfl ?_
    refine own_goto X0 hx hby d3_11 (pc' := 36) (by decide) (by decide) ?_
    refine own_iloadN X0 hx hby d3_36 (pc' := 37) rfl rfl ?_
    refine own_ireturn X0 hx hlk hby hret d3_37 (own_lv ?_ (by decide) (by decide))
    show Q3 Z x  h0 n0 (some (.int (x.toInt32))) s₁.heap _
    rw [e0]
    exact ⟨_, rfl, N0, rfl, own_bks hx0 hc5⟩
theorem own_ef_rm14 (m : MethodId) (i : Int32)  : entryFrame m #[(.int i)] 4 = mkF m 0 #[.val (.int i), .unset, .unset, .unset] [] := by first | (simp [entryFrame, mkF, argsToLocals, Value.category]; done) | rfl
def Q14 (Z : State) (i : Int32) (h0 : Heap) (n0 : Nat) (v : Option Value) (h : Heap) (L : List Loc) : Prop := v = some (.long (own_low i)) ∧ Fr n0 L ∧ h = h0
set_option maxRecDepth 65536 in
set_option maxHeartbeats 40000000 in
theorem rm14 (l : Launch) (Z : State) (a0 : Array Value) (hw : ∀ d ∈ tables_1, d.before a0 Z = true) (ws : List Jvm.Cond) (i : Int32) (h0 : Heap) (n0 : Nat) (Z0 : n0 ≤ h0.size)  :
    MetFree l (⟨"com/example/earnest_reactor/earnestreactor/cli/LatencyHistogram", "lowest", "(I)J"⟩ : MethodName) (head1 (Jvm.Cond.code (⟨"com/example/earnest_reactor/earnestreactor/cli/LatencyHistogram", "lowest", "(I)J"⟩ : MethodName) prog_2_method_6_code 4 (some .long) :: ws) ({ frames := 0, cells := 0, slots := 0, locals := 0 } : Room)) (fun aa U => aa = #[(.int i)] ∧ Z.Warmed39 U.vm ∧ U.heap = h0) (fun _ _ _ _ _ => True) (fun _ U oc U' => ∃ v L, oc = .returned v ∧ Q14 Z i h0 n0 v U'.heap L ∧ FrameEnd U oc U' L ({ frames := 0, cells := 0, slots := 0, locals := 0 } : Room).cells ({ frames := 0, cells := 0, slots := 0, locals := 0 } : Room).slots) := by
  refine MetFree.of_bodySF (plainFor_of_name own_pn4) hisR ?_
  intro p e s m args below meth c s₁ Bd hml0 hP hK
  obtain ⟨rfl, hZ, hh⟩ := hP
  have hx := Bd.exec
  have hby := Bd.bytes
  have hlk := Bd.notSynchronized
  have hret := Bd.returns
  have hml : c.maxLocals = 4 := hml0
  have hown : s.vm.findClass "com/example/earnest_reactor/earnestreactor/cli/LatencyHistogram" = some m.cls := findClass_of_methodNamed Bd.named
  have hnm := (name_of_methodNamed Bd.named Bd.method).1
  have X0 : Stand p l e ({ frames := 0, cells := 0, slots := 0, locals := 0 } : Room) s m #[(.int i)] below meth c s₁ [] 0 0 := Stand.of_body Bd
  have e0 : s₁.heap = h0 := by rw [← hh, Bd.state]; rfl
  have N0 := Fr.nil n0
  refine own_body (Q := Q14 Z i h0 n0) (KC := ({ frames := 0, cells := 0, slots := 0, locals := 0 } : Room).cells) (KS := ({ frames := 0, cells := 0, slots := 0, locals := 0 } : Room).slots) ?_
  rw [own_ef_rm14 m i]
  refine own_iloadN X0 hx hby d14_0 (pc' := 1) rfl rfl ?_
  refine own_sipush X0 hx hby d14_1 (pc' := 4) rfl (n := (2048 : Int32)) (by decide) ?_
  refine own_ic2 X0 hx hby d14_4 (pc1 := 13) (by decide) (by decide) (pc2 := 7) rfl (fun (hc4 : ¬ i < (2048 : Int32)) => ?_) (fun (hc4 : i < (2048 : Int32)) => ?_)
  · refine own_iloadN X0 hx hby d14_13 (pc' := 14) rfl rfl ?_
    refine own_sipush X0 hx hby d14_14 (pc' := 17) rfl (n := (1024 : Int32)) (by decide) ?_
    refine own_idiv X0 hx hby d14_17 (pc' := 18) rfl (by decide) ?_
    refine own_iconst X0 hx hby d14_18 (pc' := 19) rfl (n := (1 : Int32)) (by decide) ?_
    refine own_isub X0 hx hby d14_19 (pc' := 20) rfl ?_
    refine own_istoreN X0 hx hby d14_20 (pc' := 21) rfl (l' := #[.val (.int i), .unset, .unset, .val (.int ((i / (1024 : Int32)) - (1 : Int32)))]) rfl ?_
    refine own_iloadN X0 hx hby d14_21 (pc' := 22) rfl rfl ?_
    refine own_iloadN X0 hx hby d14_22 (pc' := 23) rfl rfl ?_
    refine own_sipush X0 hx hby d14_23 (pc' := 26) rfl (n := (1024 : Int32)) (by decide) ?_
    refine own_imul X0 hx hby d14_26 (pc' := 27) rfl ?_
    refine own_isub X0 hx hby d14_27 (pc' := 28) rfl ?_
    refine own_i2l X0 hx hby d14_28 (pc' := 29) rfl ?_
    refine own_iloadN X0 hx hby d14_29 (pc' := 30) rfl rfl ?_
    refine own_lshl X0 hx hby d14_30 (pc' := 31) rfl ?_
    refine own_lstoreN X0 hx hby d14_31 (pc' := 32) rfl (l' := #[.val (.int i), .val (.long (((i - (((i / (1024 : Int32)) - (1 : Int32)) * (1024 : Int32))).toInt64) <<< (((i / (1024 : Int32)) - (1 : Int32)) &&& 0x3f).toInt64)), .second, .val (.int ((i / (1024 : Int32)) - (1 : Int32)))]) rfl ?_
    refine own_lloadN X0 hx hby d14_32 (pc' := 33) rfl rfl ?_
    refine own_lreturn X0 hx hlk hby hret d14_33 (own_lv ?_ (by decide) (by decide))
    show Q14 Z i  h0 n0 (some (.long (((i - (((i / (1024 : Int32)) - (1 : Int32)) * (1024 : Int32))).toInt64) <<< (((i / (1024 : Int32)) - (1 : Int32)) &&& 0x3f).toInt64))) s₁.heap _
    rw [e0]
    exact ⟨by unfold own_low; rw [if_neg hc4]; rfl, N0, rfl⟩
  · refine own_iloadN X0 hx hby d14_7 (pc' := 8) rfl rfl ?_
    refine own_i2l X0 hx hby d14_8 (pc' := 9) rfl ?_
    refine own_lstoreN X0 hx hby d14_9 (pc' := 10) rfl (l' := #[.val (.int i), .val (.long (i.toInt64)), .second, .unset]) rfl ?_
    refine own_goto X0 hx hby d14_10 (pc' := 32) (by decide) (by decide) ?_
    refine own_lloadN X0 hx hby d14_32 (pc' := 33) rfl rfl ?_
    refine own_lreturn X0 hx hlk hby hret d14_33 (own_lv ?_ (by decide) (by decide))
    show Q14 Z i  h0 n0 (some (.long (i.toInt64))) s₁.heap _
    rw [e0]
    exact ⟨by unfold own_low; rw [if_pos hc4], N0, rfl⟩
def own_max (x y : Int64) : Int64 := if x < y then y else x
def own_min (x y : Int64) : Int64 := if y < x then y else x
theorem own_ef_rm13 (m : MethodId) (x : Int64) (y : Int64)  : entryFrame m #[(.long x), (.long y)] 4 = mkF m 0 #[.val (.long x), .second, .val (.long y), .second] [] := by first | (simp [entryFrame, mkF, argsToLocals, Value.category]; done) | rfl
def Q13 (Z : State) (x : Int64) (y : Int64) (h0 : Heap) (n0 : Nat) (v : Option Value) (h : Heap) (L : List Loc) : Prop := v = some (.long (own_max x y)) ∧ Fr n0 L ∧ h = h0
set_option maxRecDepth 65536 in
set_option maxHeartbeats 40000000 in
theorem rm13 (l : Launch) (Z : State) (a0 : Array Value) (hw : ∀ d ∈ tables_1, d.before a0 Z = true) (ws : List Jvm.Cond) (x : Int64) (y : Int64) (h0 : Heap) (n0 : Nat) (Z0 : n0 ≤ h0.size)  :
    MetFree l (⟨"java/lang/Math", "max", "(JJ)J"⟩ : MethodName) (head1 (Jvm.Cond.code (⟨"java/lang/Math", "max", "(JJ)J"⟩ : MethodName) jdk_29_method_66_code 4 (some .long) :: ws) ({ frames := 0, cells := 0, slots := 0, locals := 0 } : Room)) (fun aa U => aa = #[(.long x), (.long y)] ∧ Z.Warmed39 U.vm ∧ U.heap = h0) (fun _ _ _ _ _ => True) (fun _ U oc U' => ∃ v L, oc = .returned v ∧ Q13 Z x y h0 n0 v U'.heap L ∧ FrameEnd U oc U' L ({ frames := 0, cells := 0, slots := 0, locals := 0 } : Room).cells ({ frames := 0, cells := 0, slots := 0, locals := 0 } : Room).slots) := by
  refine MetFree.of_bodySF (Jvm.Free.JP.mathPlain rfl (by decide +kernel)) hisR ?_
  intro p e s m args below meth c s₁ Bd hml0 hP hK
  obtain ⟨rfl, hZ, hh⟩ := hP
  have hx := Bd.exec
  have hby := Bd.bytes
  have hlk := Bd.notSynchronized
  have hret := Bd.returns
  have hml : c.maxLocals = 4 := hml0
  have hown : s.vm.findClass "java/lang/Math" = some m.cls := findClass_of_methodNamed Bd.named
  have hnm := (name_of_methodNamed Bd.named Bd.method).1
  have X0 : Stand p l e ({ frames := 0, cells := 0, slots := 0, locals := 0 } : Room) s m #[(.long x), (.long y)] below meth c s₁ [] 0 0 := Stand.of_body Bd
  have e0 : s₁.heap = h0 := by rw [← hh, Bd.state]; rfl
  have N0 := Fr.nil n0
  refine own_body (Q := Q13 Z x y h0 n0) (KC := ({ frames := 0, cells := 0, slots := 0, locals := 0 } : Room).cells) (KS := ({ frames := 0, cells := 0, slots := 0, locals := 0 } : Room).slots) ?_
  rw [own_ef_rm13 m x y]
  refine own_lloadN X0 hx hby d13_0 (pc' := 1) rfl rfl ?_
  refine own_lloadN X0 hx hby d13_1 (pc' := 2) rfl rfl ?_
  refine own_lcmp X0 hx hby d13_2 (pc' := 3) rfl ?_
  refine own_ifL2 X0 hx hby d13_3 (pc1 := 10) (by decide) (by decide) (pc2 := 6) rfl (fun (hc3 : x < y) => ?_) (fun (hc3 : ¬ x < y) => ?_)
  · refine own_lloadN X0 hx hby d13_10 (pc' := 11) rfl rfl ?_
    refine own_lreturn X0 hx hlk hby hret d13_11 (own_lv ?_ (by decide) (by decide))
    show Q13 Z x y  h0 n0 (some (.long y)) s₁.heap _
    rw [e0]
    exact ⟨by unfold own_max; rw [if_pos hc3], N0, rfl⟩
  · refine own_lloadN X0 hx hby d13_6 (pc' := 7) rfl rfl ?_
    refine own_goto X0 hx hby d13_7 (pc' := 11) (by decide) (by decide) ?_
    refine own_lreturn X0 hx hlk hby hret d13_11 (own_lv ?_ (by decide) (by decide))
    show Q13 Z x y  h0 n0 (some (.long x)) s₁.heap _
    rw [e0]
    exact ⟨by unfold own_max; rw [if_neg hc3], N0, rfl⟩
theorem own_ef_rm15 (m : MethodId) (x : Int64) (y : Int64)  : entryFrame m #[(.long x), (.long y)] 4 = mkF m 0 #[.val (.long x), .second, .val (.long y), .second] [] := by first | (simp [entryFrame, mkF, argsToLocals, Value.category]; done) | rfl
def Q15 (Z : State) (x : Int64) (y : Int64) (h0 : Heap) (n0 : Nat) (v : Option Value) (h : Heap) (L : List Loc) : Prop := v = some (.long (own_min x y)) ∧ Fr n0 L ∧ h = h0
set_option maxRecDepth 65536 in
set_option maxHeartbeats 40000000 in
theorem rm15 (l : Launch) (Z : State) (a0 : Array Value) (hw : ∀ d ∈ tables_1, d.before a0 Z = true) (ws : List Jvm.Cond) (x : Int64) (y : Int64) (h0 : Heap) (n0 : Nat) (Z0 : n0 ≤ h0.size)  :
    MetFree l (⟨"java/lang/Math", "min", "(JJ)J"⟩ : MethodName) (head1 (Jvm.Cond.code (⟨"java/lang/Math", "min", "(JJ)J"⟩ : MethodName) jdk_29_method_70_code 4 (some .long) :: ws) ({ frames := 0, cells := 0, slots := 0, locals := 0 } : Room)) (fun aa U => aa = #[(.long x), (.long y)] ∧ Z.Warmed39 U.vm ∧ U.heap = h0) (fun _ _ _ _ _ => True) (fun _ U oc U' => ∃ v L, oc = .returned v ∧ Q15 Z x y h0 n0 v U'.heap L ∧ FrameEnd U oc U' L ({ frames := 0, cells := 0, slots := 0, locals := 0 } : Room).cells ({ frames := 0, cells := 0, slots := 0, locals := 0 } : Room).slots) := by
  refine MetFree.of_bodySF (Jvm.Free.JP.mathPlain rfl (by decide +kernel)) hisR ?_
  intro p e s m args below meth c s₁ Bd hml0 hP hK
  obtain ⟨rfl, hZ, hh⟩ := hP
  have hx := Bd.exec
  have hby := Bd.bytes
  have hlk := Bd.notSynchronized
  have hret := Bd.returns
  have hml : c.maxLocals = 4 := hml0
  have hown : s.vm.findClass "java/lang/Math" = some m.cls := findClass_of_methodNamed Bd.named
  have hnm := (name_of_methodNamed Bd.named Bd.method).1
  have X0 : Stand p l e ({ frames := 0, cells := 0, slots := 0, locals := 0 } : Room) s m #[(.long x), (.long y)] below meth c s₁ [] 0 0 := Stand.of_body Bd
  have e0 : s₁.heap = h0 := by rw [← hh, Bd.state]; rfl
  have N0 := Fr.nil n0
  refine own_body (Q := Q15 Z x y h0 n0) (KC := ({ frames := 0, cells := 0, slots := 0, locals := 0 } : Room).cells) (KS := ({ frames := 0, cells := 0, slots := 0, locals := 0 } : Room).slots) ?_
  rw [own_ef_rm15 m x y]
  refine own_lloadN X0 hx hby d15_0 (pc' := 1) rfl rfl ?_
  refine own_lloadN X0 hx hby d15_1 (pc' := 2) rfl rfl ?_
  refine own_lcmp X0 hx hby d15_2 (pc' := 3) rfl ?_
  refine own_ifL2 X0 hx hby d15_3 (pc1 := 10) (by decide) (by decide) (pc2 := 6) rfl (fun (hc3 : y < x) => ?_) (fun (hc3 : ¬ y < x) => ?_)
  · refine own_lloadN X0 hx hby d15_10 (pc' := 11) rfl rfl ?_
    refine own_lreturn X0 hx hlk hby hret d15_11 (own_lv ?_ (by decide) (by decide))
    show Q15 Z x y  h0 n0 (some (.long y)) s₁.heap _
    rw [e0]
    exact ⟨by unfold own_min; rw [if_pos hc3], N0, rfl⟩
  · refine own_lloadN X0 hx hby d15_6 (pc' := 7) rfl rfl ?_
    refine own_goto X0 hx hby d15_7 (pc' := 11) (by decide) (by decide) ?_
    refine own_lreturn X0 hx hlk hby hret d15_11 (own_lv ?_ (by decide) (by decide))
    show Q15 Z x y  h0 n0 (some (.long x)) s₁.heap _
    rw [e0]
    exact ⟨by unfold own_min; rw [if_neg hc3], N0, rfl⟩
section Raw
/-- the stack's room above the frames fs, as the machine counts it -/
def own_RM (e : Env) (T : State) (fs : List Frame) (F K : Nat) : Prop := fs.length + F ≤ (e.platform.stackLimits T.me).1 ∧ (stackUse fs).2 + K ≤ (e.platform.stackLimits T.me).2
theorem own_RM.less {e : Env} {T : State} {fs : List Frame} {F K F' K' : Nat} (h : own_RM e T fs F K) (h1 : F' ≤ F) (h2 : K' ≤ K) : own_RM e T fs F' K' := ⟨Nat.le_trans (Nat.add_le_add_left h1 _) h.1, Nat.le_trans (Nat.add_le_add_left h2 _) h.2⟩
theorem own_RM.java {e : Env} {T : State} {fs : List Frame} {F K : Nat} {f : JFrame} {w : Nat} (h : own_RM e T fs (F + 1) (K + w)) (hw : f.locals.size + 11 + 2 * f.monitorRoom + operandWords f.stack ≤ w) : own_RM e T (.java f :: fs) F K := by
  refine ⟨by have := h.1; simp only [List.length_cons]; omega, ?_⟩
  rw [stackUse_java]
  have := h.2
  show (stackUse fs).2 + _ + K ≤ _
  omega
theorem own_RM.native {e : Env} {T : State} {fs : List Frame} {F K : Nat} {f : NFrame} (h : own_RM e T fs (F + 1) K) (hw : (Frame.native f).words = 0) : own_RM e T (.native f :: fs) F K := by
  refine ⟨by have := h.1; simp only [List.length_cons]; omega, ?_⟩
  rw [stackUse_light _ _ (fun _ q => by cases q) hw]
  exact h.2
theorem own_RM.full {e : Env} {T U : State} {fs : List Frame} {F K vars : Nat} (h : own_RM e T fs F K) (hF : U.frames = fs) (hl : e.platform.stackLimits U.me = e.platform.stackLimits T.me) (h1 : 1 ≤ F) (h2 : vars + 11 ≤ K) : e.platform.stackFull ((U.threads[U.cur]?).getD { frames := [] }) U.frames vars = false := by
  rw [hF]
  have a := h.1
  have b := h.2
  exact Platform.stackFull_eq_false (t := U.me) (by rw [hl]; omega) (by rw [hl]; omega)
variable {p : Program} {l : Launch} {e : Env} {s T : State} {m : MethodId} {c : Code} {below : List Frame} {a0 : Array Value}
/-- 'invokestatic' at a bare point of a walk -/
theorem own_rStatic (hadm : l.admits e) (hx : p.tables.exec = Jvm.exec) (A : At T m c below) (hW : s.WarmedH T.vm) {own : String} {index : Nat} {y : MethodName} (hown : s.vm.findClass own = some m.cls) (hlink : (Cond.methodLink own index y).before a0 s = true)
    {m' : MethodId} {meth' : Method} {k' : Class} (hn : s.methodNamed? y = some m') (hm' : s.vm.method? m' = some meth') (hstatic : meth'.isStatic = true) (hk' : s.vm.classes[m'.cls]? = some k') (hinit : k'.init = .initialized)
    (hy : y.cls ≠ "java/lang/invoke/MethodHandle" ∧ y.cls ≠ "java/lang/invoke/VarHandle") {g : JFrame} (hg : g.method = m) {argsL rest : List Value} (hlen : argsL.length = meth'.sig.parameters.length) (hstack : g.stack = argsL.reverse ++ rest) (hdg : decode c.code g.pc = .ok (.invokestatic index, 3)) :
    ∃ vm', s.WarmedH vm' ∧ At (T.setVm vm') m c below ∧ ∀ target, (∀ acts, Steps p.tables e below (doInvoke e ((T.setVm vm').setTop { g with stack := rest }) acts m' argsL.toArray).1 target) → Steps p.tables e below (T.setTop g) target := by
  have q1 : e.platform.magicAccessors = ({} : Platform).magicAccessors := by rw [hadm.platform]
  have q2 : e.platform.polymorphicOnlyByInvokevirtual = true := by rw [hadm.platform]
  obtain ⟨ci, hl, hr⟩ := Cond.methodLink_spec hown hn hlink e.platform q1
  obtain ⟨kx, hkx, hnx⟩ := className_of_methodNamed hn
  cases hk'.symm.trans hkx
  have hE : s.MethodEntry e T.vm m.cls index m' ci := State.methodEntry hW hl hr fun k hk => by
    cases hk'.symm.trans hk
    rw [hnx]; exact hy
  obtain ⟨dk, cfile, nt, mname, mdesc, via, ck, _, hd, hcf, hcp, hnt, -, -, hck, -, hnp, -⟩ := hl.here
  cases hk'.symm.trans hck
  have al := hE.warmed.alike
  obtain ⟨dk₂, hdk₂, ed₂⟩ := al.2.2 _ _ hd
  obtain ⟨k₂, hk₂, e₂⟩ := al.2.2 _ _ hk'
  have n1 : (k'.methods.any fun z => z.name == mname && !z.isStatic && signaturePolymorphic k' z) = false := by simp [hnp]
  have n2 : (k₂.methods.any fun z => z.name == mname && !z.isStatic && signaturePolymorphic k₂ z) = false := by rw [e₂]; exact n1
  refine ⟨T.vm.called m.cls ci index m', hE.warmed, A.setVm (hW.alike.symm.trans al), fun target hrest => ?_⟩
  subst hg
  jvm_step A [hx, hdg, invokestatic.wp_cold (e := e) (s := T) (s₀ := s) (f := g) A.top q2 hW hE hd hcf hcp hnt hk' n1,
    invokestatic.wp_ready (e := e) (s := T.setVm (T.vm.called g.method.cls ci index m')) (k := k₂) (meth := meth') (m := m') (args := argsL) (rest := rest) (f := g)
      A.top ⟨ci, mname, mdesc, via, m'.cls, k₂, memberRef_ask_via (e := e) hdk₂ (by rw [ed₂]; exact hcf) hcp hnt, hE.classReady, hk₂, n2⟩ hE.ready hk₂
      (by show (T.vm.called g.method.cls ci index m').method? m' = some meth'; rw [al.method?]; exact hm') (by rw [e₂]; exact hnp meth') hstatic (by rw [e₂]; exact hinit) hlen hstack]
  exact fun acts => hrest _
/-- the entry of a method of bytes above a java frame g -/
theorem own_rEnter (A : At T m c below) {tl : List Frame} (ht : T.frames.tail = tl) {m' : MethodId} {meth' : Method} {c' : Code} (hm' : T.vm.method? m' = some meth') (hc' : meth'.code = some c') (hl : meth'.locks = false) (hp : T.plainMethod m') {g : JFrame} {F K : Nat} (R : own_RM e T (.java g :: tl) F K) (h1 : 1 ≤ F) (h2 : c'.maxLocals + 11 ≤ K) (acts : List Action) (as : Array Value) :
    (doInvoke e (T.setTop g) acts m' as).1 = (T.setFrames (.java (entryFrame m' as c'.maxLocals) :: .java g :: tl)).setTop (entryFrame m' as c'.maxLocals) ∧ At (T.setFrames (.java (entryFrame m' as c'.maxLocals) :: .java g :: tl)) m' c' below := by
  have hF : (T.setTop g).frames = .java g :: tl := by rw [State.frames_setTop' _ A.top, ht]
  obtain ⟨g0, hg0⟩ := Option.isSome_iff_exists.mp A.top
  obtain ⟨r, hr⟩ := State.topJava?_eq_some.mp hg0
  have hcur : T.cur < T.threads.size := State.cur_lt_of_frames hr
  have hfr : ∀ fs, (T.setFrames fs).frames = fs := fun fs => State.frames_setFrames _ hcur
  have hd := (doInvoke_java (s := T.setTop g) (e := e) (acts := acts) (args := as) (meth := meth') (code := c') (by simpa using hm') hc' hl (R.full hF (State.stackLimits_setTop _ A.top g) h1 h2)).1
  refine ⟨?_, ?_⟩
  · rw [hd, State.pushFrame, hF, State.setTop_of_frames _ hr, State.setFrames_setFrames, State.setTop_of_frames _ (hfr _), State.setFrames_setFrames]
    rfl
  · obtain ⟨mid, hmid⟩ := A.above
    refine ⟨?_, ⟨.java g :: mid, ?_⟩, A.running, ?_, ?_, ?_, hp⟩
    · rw [Option.isSome_iff_exists]; exact ⟨_, State.topJava?_eq_some.mpr ⟨_, hfr _⟩⟩
    · rw [hfr]; show Frame.java g :: tl = _; rw [← ht, hmid]; rfl
    · have := A.runnable; simpa using this
    · have := A.alone; simpa using this
    · rw [State.code?_eq]; show (T.vm.method? m').bind _ = _; rw [hm']; exact hc'
/-- the return of a value from a method of bytes to the java frame g below it -/
theorem own_rRet {U : State} {m' : MethodId} {c' : Code} {meth' : Method} (hx : p.tables.exec = Jvm.exec) (A : At U m' c' below) {g : JFrame} {tl : List Frame} (ht : U.frames.tail = .java g :: tl) (hm : U.vm.method? m' = some meth') (hl : meth'.locks = false) {t : FieldType} {w : Value} {i : Instr} {rest : List Value} {pc : Nat} {Ls : Array Slot} (hret : meth'.sig.returnType = some t)
    (hi : (i = .ireturn ∧ t = .int ∧ ∃ z, w = .int z) ∨ (i = .dreturn ∧ t = .double ∧ ∃ z, w = .double z)) (hd : decode c'.code pc = .ok (i, 1)) {cg : Code} {ig : Instr} {len : Nat} (hcg : U.code? g.method = some cg) (hdg : decode cg.code g.pc = .ok (ig, len)) (target : State)
    (h : Steps p.tables e below (U.setFrames (.java { g with pc := g.pc + len, stack := w :: g.stack } :: tl)) target) : Steps p.tables e below (U.setTop (mkF m' pc Ls (w :: rest))) target := by
  obtain ⟨g0, hg0⟩ := Option.isSome_iff_exists.mp A.top
  obtain ⟨r, hr⟩ := State.topJava?_eq_some.mp hg0
  have key : ∀ f acts, f.method = m' → f.locked = none → f.entered = [] → (doReturn e (U.setTop f) acts (some w)).1 = U.setFrames (.java { g with pc := g.pc + len, stack := w :: g.stack } :: tl) := fun f acts q1 q2 q3 => by
    have hf : (U.setTop f).frames = .java f :: .java g :: tl := by rw [State.frames_setTop' _ A.top, ht]
    rw [(doReturn_java (e := e) (s := U.setTop f) (acts := acts) (v := some w) hf (by rw [q1]; simpa using hm) hl q2 q3 (by simpa using hcg) hdg).1, State.setTop_of_frames _ hr, State.setFrames_setFrames]
    rfl
  rcases hi with ⟨rfl, rfl, z, rfl⟩ | ⟨rfl, rfl, z, rfl⟩
  all_goals
    show Steps p.tables e below (U.setTop { method := m', pc := pc, locals := Ls, stack := _ :: rest, locked := none }) _
    jvm_step A [A.top, hx, hd, hm, hret, narrow]
    first | (intro acts; rw [key _ acts rfl rfl rfl]) | rw [key _ _ rfl rfl rfl]
    exact h
/-- doubleToRawLongBits at a bare point -/
theorem own_rBits (hadm : l.admits e) (hx : p.tables.exec = Jvm.exec) (A : At T m c below) (hW : s.WarmedH T.vm) {tl : List Frame} (ht : T.frames.tail = tl) {own : String} {index : Nat} (hown : s.vm.findClass own = some m.cls) (hlink : (Cond.methodLink own index doubleToRawLongBitsName).before a0 s = true)
    (hnat : (Cond.native doubleToRawLongBitsName).before a0 s = true) (hstat : (Cond.static doubleToRawLongBitsName).before a0 s = true) (hini : (Cond.initialized "java/lang/Double").before a0 s = true) {pc pc' : Nat} {Ls : Array Slot} {rest : List Value} {b : UInt64} (hdg : decode c.code pc = .ok (.invokestatic index, 3)) (hp : pc + 3 = pc')
    {F K : Nat} (R : own_RM e T (.java (mkF m pc Ls rest) :: tl) F K) (h1 : 1 ≤ F) (h2 : 15 ≤ K) :
    ∃ vm', s.WarmedH vm' ∧ At (T.setVm vm') m c below ∧ ∀ target, Steps p.tables e below ((T.setVm vm').setTop (mkF m pc' Ls (.long b.toInt64 :: rest))) target → Steps p.tables e below (T.setTop (mkF m pc Ls (.double b :: rest))) target := by
  subst hp
  obtain ⟨r, kS, methS, hnS, hmS, hkS, N⟩ := NativeOf.of_static hnat hstat (ps := [.double]) (ret := some .long) (by decide +kernel)
  have hi : kS.init = .initialized := Cond.initialized_spec (findClass_of_methodNamed hnS) hkS hini
  obtain ⟨vm', hW', A', step⟩ := own_rStatic hadm hx A hW hown hlink hnS hmS N.static hkS hi (by decide) (g := mkF m pc Ls (.double b :: rest)) rfl (argsL := [.double b]) (rest := rest) (by rw [N.sig]; rfl) rfl hdg
  refine ⟨vm', hW', A', fun target h => step target fun acts => ?_⟩
  obtain ⟨kS', N'⟩ := N.alike hW'.alike
  exact Steps.doubleToRawLongBitsOf (s := T.setVm vm') (g := mkF m pc Ls rest) (ig := .invokestatic index) (len := 3) p A' acts N' b (R.full (by rw [State.frames_setTop' _ A'.top]; exact congrArg _ ht) (State.stackLimits_setTop _ A'.top _) h1 (by show 2 + 2 + 11 ≤ K; exact h2)) hdg h
theorem own_rLong (hx : p.tables.exec = Jvm.exec) (A : At T m c below) (hW : s.WarmedH T.vm) {own : String} {index : Nat} {v : Int64} (hown : s.vm.findClass own = some m.cls) (hc : (Cond.constantLong own index v).before a0 s = true) {pc pc' : Nat} {Ls : Array Slot} {st : List Value} (hdg : decode c.code pc = .ok (.ldc2_w index, 3)) (hp : pc + 3 = pc')
    (target : State) (h : Steps p.tables e below (T.setTop (mkF m pc' Ls (.long v :: st))) target) : Steps p.tables e below (T.setTop (mkF m pc Ls st)) target := by
  subst hp
  obtain ⟨k, cf, bytes, hk, hcf, hcp, hb⟩ := Cond.constantLong_spec hown hc
  obtain ⟨k', hk', he⟩ := hW.alike.2.2 _ _ hk
  show Steps p.tables e below (T.setTop { method := m, pc := pc, locals := Ls, stack := st, locked := none }) target
  jvm_step A [hx, hdg, ldc2_w.wp_long (s := T) (f := { method := m, pc := pc, locals := Ls, stack := st, locked := none }) A.top hk' (by rw [he]; exact hcf) hcp, hb]
  exact h
theorem own_rDouble (hx : p.tables.exec = Jvm.exec) (A : At T m c below) (hW : s.WarmedH T.vm) {own : String} {index : Nat} {v : UInt64} (hown : s.vm.findClass own = some m.cls) (hc : (Cond.constantDouble own index v).before a0 s = true) {pc pc' : Nat} {Ls : Array Slot} {st : List Value} (hdg : decode c.code pc = .ok (.ldc2_w index, 3)) (hp : pc + 3 = pc')
    (target : State) (h : Steps p.tables e below (T.setTop (mkF m pc' Ls (.double v :: st))) target) : Steps p.tables e below (T.setTop (mkF m pc Ls st)) target := by
  subst hp
  obtain ⟨k, cf, hk, hcf, hcp⟩ := Cond.constantDouble_spec hown hc
  obtain ⟨k', hk', he⟩ := hW.alike.2.2 _ _ hk
  show Steps p.tables e below (T.setTop { method := m, pc := pc, locals := Ls, stack := st, locked := none }) target
  jvm_step A [hx, hdg, ldc2_w.wp_double (s := T) (f := { method := m, pc := pc, locals := Ls, stack := st, locked := none }) A.top hk' (by rw [he]; exact hcf) hcp]
  exact h
/-- what is known inside a callee that stands above the java frame g -/
def own_Ctx (s U : State) (m : MethodId) (c : Code) (below : List Frame) (meth : Method) (g : JFrame) (tl : List Frame) : Prop :=
  At U m c below ∧ s.WarmedH U.vm ∧ U.frames.tail = .java g :: tl ∧ s.vm.method? m = some meth ∧ meth.locks = false ∧ ∃ cg ig, s.code? g.method = some cg ∧ decode cg.code g.pc = .ok (ig, 3)
theorem own_Ctx.vm {U : State} {meth : Method} {g : JFrame} {tl : List Frame} {vm' : Vm} (C : own_Ctx s U m c below meth g tl) (hW : s.WarmedH vm') : own_Ctx s (U.setVm vm') m c below meth g tl :=
  ⟨C.1.setVm (C.2.1.alike.symm.trans hW.alike), hW, C.2.2.1, C.2.2.2.1, C.2.2.2.2.1, C.2.2.2.2.2⟩
/-- the callee comes back with w -/
def own_Back (p : Program) (e : Env) (s : State) (below : List Frame) (U : State) (f : JFrame) (g : JFrame) (tl : List Frame) (w : Value) : Prop :=
  ∃ vm2, s.WarmedH vm2 ∧ ∀ target, Steps p.tables e below ((U.setVm vm2).setFrames (.java { g with pc := g.pc + 3, stack := w :: g.stack } :: tl)) target → Steps p.tables e below (U.setTop f) target
theorem own_Back.ret {U : State} {meth : Method} {g : JFrame} {tl : List Frame} (hx : p.tables.exec = Jvm.exec) (C : own_Ctx s U m c below meth g tl) {t : FieldType} {w : Value} {i : Instr} {rest : List Value} {pc : Nat} {Ls : Array Slot} (hret : meth.sig.returnType = some t)
    (hi : (i = .ireturn ∧ t = .int ∧ ∃ z, w = .int z) ∨ (i = .dreturn ∧ t = .double ∧ ∃ z, w = .double z)) (hd : decode c.code pc = .ok (i, 1)) : own_Back p e s below U (mkF m pc Ls (w :: rest)) g tl w := by
  obtain ⟨A, hW, ht, hm, hl, cg, ig, hcg, hdg⟩ := C
  refine ⟨U.vm, hW, fun target h => own_rRet hx A ht (by rw [hW.alike.method?]; exact hm) hl hret hi hd (by rw [State.code?_eq, hW.alike.method?, ← State.code?_eq]; exact hcg) hdg target h⟩
theorem own_Back.step {U : State} {f f' g : JFrame} {tl : List Frame} {w : Value} (h : own_Back p e s below U f' g tl w) (k : ∀ target, Steps p.tables e below (U.setTop f') target → Steps p.tables e below (U.setTop f) target) : own_Back p e s below U f g tl w := by
  obtain ⟨v, h1, h2⟩ := h
  exact ⟨v, h1, fun t q => k t (h2 t q)⟩
theorem own_Back.stepV {U : State} {f f' g : JFrame} {tl : List Frame} {w : Value} {vm' : Vm} (h : own_Back p e s below (U.setVm vm') f' g tl w) (k : ∀ target, Steps p.tables e below ((U.setVm vm').setTop f') target → Steps p.tables e below (U.setTop f) target) : own_Back p e s below U f g tl w := by
  obtain ⟨v, h1, h2⟩ := h
  exact ⟨v, h1, fun t q => k t (h2 t q)⟩
/-- a static call of a method of bytes from a bare point -/
theorem own_rCall (hadm : l.admits e) (hx : p.tables.exec = Jvm.exec) (A : At T m c below) (hW : s.WarmedH T.vm) {tl : List Frame} (ht : T.frames.tail = tl) (hsc : s.code? m = some c) {own : String} {index : Nat} {y : MethodName} {bytes : ByteArray} {maxl : Nat} {ret : Option FieldType} (hown : s.vm.findClass own = some m.cls) (hlink : (Cond.methodLink own index y).before a0 s = true)
    (hcode : (Cond.code y bytes maxl ret).before a0 s = true) (hstat : (Cond.static y).before a0 s = true) (hini : (Cond.initialized y.cls).before a0 s = true) (hy : y.cls ≠ "java/lang/invoke/MethodHandle" ∧ y.cls ≠ "java/lang/invoke/VarHandle") (hpl : plainFor y = true) {ps : List FieldType} (hsig : parseMethodDescriptor y.desc = some ⟨ps, ret⟩)
    {pc pc' : Nat} {Ls : Array Slot} {argsL rest : List Value} (hlen : argsL.length = ps.length) {st : List Value} (hst : st = argsL.reverse ++ rest) (hdg : decode c.code pc = .ok (.invokestatic index, 3)) (hp : pc + 3 = pc') {F K : Nat} (R : own_RM e T (.java (mkF m pc Ls rest) :: tl) F K) (h1 : 1 ≤ F) (h2 : maxl + 11 ≤ K) {w : Value}
    (body : ∀ U m' c' meth', own_Ctx s U m' c' below meth' (mkF m pc Ls rest) tl → s.vm.findClass y.cls = some m'.cls → c'.code = bytes → c'.maxLocals = maxl → meth'.sig.returnType = ret → s.code? m' = some c' → U.heap = T.heap → own_RM e U (.java (mkF m pc Ls rest) :: tl) F K → own_Back p e s below U (entryFrame m' argsL.toArray maxl) (mkF m pc Ls rest) tl w) :
    ∃ vm', s.WarmedH vm' ∧ At (T.setVm vm') m c below ∧ ∀ target, Steps p.tables e below ((T.setVm vm').setTop (mkF m pc' Ls (w :: rest))) target → Steps p.tables e below (T.setTop (mkF m pc Ls st)) target := by
  subst hp hst
  obtain ⟨m', hn⟩ := Cond.code_named hcode
  obtain ⟨meth', c', q1, q2, q3, q4, q5, q6, -, q8⟩ := Cond.code_spec hn hcode
  obtain ⟨k', hk', -⟩ := className_of_methodNamed hn
  have hi : k'.init = .initialized := Cond.initialized_spec (findClass_of_methodNamed hn) hk' hini
  have hps : argsL.length = meth'.sig.parameters.length := by rw [hlen]; rw [hsig] at q8; rw [← Option.some.inj q8]
  obtain ⟨vm1, hW1, A1, step⟩ := own_rStatic hadm hx A hW hown hlink hn q1 (Cond.static_spec hn q1 hstat) hk' hi hy (g := mkF m pc Ls (argsL.reverse ++ rest)) rfl (argsL := argsL) (rest := rest) hps rfl hdg
  have hpm : (T.setVm vm1).plainMethod m' := State.plainMethod.of_named (x := y) (meth := meth') hpl (by rw [← hn]; exact State.methodNamed?_setVm (s := s) (vm' := vm1) hW1.alike y) (by show vm1.method? m' = _; rw [hW1.alike.method?]; exact q1)
  have hm1 : (T.setVm vm1).vm.method? m' = some meth' := by show vm1.method? m' = _; rw [hW1.alike.method?]; exact q1
  have en := fun acts => own_rEnter (e := e) (T := T.setVm vm1) A1 (tl := tl) ht (m' := m') (meth' := meth') (c' := c') hm1 q2 q6 hpm (g := mkF m pc Ls rest) (F := F) (K := K) R h1 (by rw [q4]; exact h2) acts argsL.toArray
  rw [q4] at en
  obtain ⟨g0, hg0⟩ := Option.isSome_iff_exists.mp A.top
  obtain ⟨r, hr⟩ := State.topJava?_eq_some.mp hg0
  have hcur : T.cur < T.threads.size := State.cur_lt_of_frames hr
  have htl : r = tl := by rw [← ht, hr]; rfl
  subst htl
  have hfr : ∀ fs, ((T.setVm vm1).setFrames fs).frames = fs := fun fs => State.frames_setFrames _ hcur
  have hlim : ∀ fs, e.platform.stackLimits ((T.setVm vm1).setFrames fs).me = e.platform.stackLimits T.me := fun fs => State.stackLimits_setFrames _ _ _
  obtain ⟨vm2, hW2, go⟩ := body _ m' c' meth' ⟨(en []).2, hW1, by rw [hfr]; rfl, q1, q6, c, _, hsc, hdg⟩ (findClass_of_methodNamed hn) q3 q4 q5 (by rw [State.code?_eq, q1]; exact q2) rfl (by unfold own_RM; rw [hlim]; exact R)
  refine ⟨vm2, hW2, A.setVm (hW.alike.symm.trans hW2.alike), fun target h => step target fun acts => ?_⟩
  rw [(en acts).1]
  refine go target ?_
  have hr2 : (T.setVm vm2).frames = .java g0 :: r := hr
  rw [State.setTop_of_frames _ hr2] at h
  have e1 : ∀ G F', ((((T.setVm vm1).setFrames G).setVm vm2).setFrames F') = (T.setVm vm2).setFrames F' := fun G F' => by
    show ((T.setVm vm2).setFrames G).setFrames F' = _
    rw [State.setFrames_setFrames]
  rw [e1]
  exact h
def own_exp (b : UInt64) : Int32 := ((b.toInt64 &&& 9218868437227405312) >>> (52 &&& 63)).toInt32 - 1023
theorem own_bGetExp {l : Launch} {Z : State} {w0 : Array Value} (hw : ∀ d ∈ tables_1, d.before w0 Z = true) (hZ : Z.Warmed39 s.vm) (hadm : l.admits e) (hx : p.tables.exec = Jvm.exec) {U : State} {hp0 : Heap} (hh : U.heap = hp0) {m' : MethodId} {c' : Code} {meth' : Method} {g : JFrame} {tl : List Frame} (C : own_Ctx s U m' c' below meth' g tl) (hown : s.vm.findClass "java/lang/Math" = some m'.cls) (hby : c'.code = jdk_29_method_92_code) (hret : meth'.sig.returnType = some .int) {b : UInt64} {F K : Nat} (R : own_RM e U (.java g :: tl) F K) (hF : 2 ≤ F) (hK : 28 ≤ K) : own_Back p e s below U (entryFrame m' #[.double b] 2) g tl (.int (own_exp b)) := by
  show own_Back p e s below U (mkF m' 0 #[.val (.double b), .second] []) g tl _
  refine own_Back.step (f' := (mkF m' 1 #[.val (.double b), .second] [.double b])) ?_ (fun t h => by unfold mkF at h ⊢; jvm_step C.1 [C.1.top, hx, hb hby d12_0]; exact h)
  obtain ⟨vm1, hW1, A1, st1⟩ := own_rBits (b := b) hadm hx C.1 C.2.1 C.2.2.1 hown (mvT (args := #[]) hZ (wd_62 hw)) (mvT (args := #[]) hZ (wd_65 hw)) (mvT (args := #[]) hZ (wd_63 hw)) (mvT (args := #[]) hZ (wd_64 hw)) (pc := 1) (pc' := 4) (Ls := #[.val (.double b), .second]) (rest := []) (hb hby d12_1) rfl (F := F - 1) (K := K - 13) ((R.less (F' := F - 1 + 1) (K' := K - 13 + 13) (by omega) (by omega)).java (Nat.le_of_eq rfl)) (by omega) (by omega)
  refine own_Back.stepV ?_ st1
  have C1 := C.vm hW1
  have R1 : own_RM e (U.setVm vm1) (.java g :: tl) F K := R
  have hh1 : (U.setVm vm1).heap = hp0 := hh
  generalize U.setVm vm1 = U1 at C1 R1 hh1 ⊢
  refine own_Back.step (f' := (mkF m' 7 #[.val (.double b), .second] [.long 9218868437227405312, .long b.toInt64])) ?_ (fun t h => own_rLong hx C1.1 C1.2.1 hown (mvT (args := #[]) hZ (wd_66 hw)) (hb hby d12_4) rfl t h)
  refine own_Back.step (f' := (mkF m' 8 #[.val (.double b), .second] [.long (b.toInt64 &&& 9218868437227405312)])) ?_ (fun t h => by unfold mkF at h ⊢; jvm_step C1.1 [C1.1.top, hx, hb hby d12_7]; exact h)
  refine own_Back.step (f' := (mkF m' 10 #[.val (.double b), .second] [.int 52, .long (b.toInt64 &&& 9218868437227405312)])) ?_ (fun t h => by unfold mkF at h ⊢; jvm_step C1.1 [C1.1.top, hx, hb hby d12_8]; exact h)
  refine own_Back.step (f' := (mkF m' 11 #[.val (.double b), .second] [.long ((b.toInt64 &&& 9218868437227405312) >>> (52 &&& 63))])) ?_ (fun t h => by unfold mkF at h ⊢; jvm_step C1.1 [C1.1.top, hx, hb hby d12_10]; exact h)
  refine own_Back.step (f' := (mkF m' 14 #[.val (.double b), .second] [.long 1023, .long ((b.toInt64 &&& 9218868437227405312) >>> (52 &&& 63))])) ?_ (fun t h => own_rLong hx C1.1 C1.2.1 hown (mvT (args := #[]) hZ (wd_67 hw)) (hb hby d12_11) rfl t h)
  refine own_Back.step (f' := (mkF m' 15 #[.val (.double b), .second] [.long ((b.toInt64 &&& 9218868437227405312) >>> (52 &&& 63) - 1023)])) ?_ (fun t h => by unfold mkF at h ⊢; jvm_step C1.1 [C1.1.top, hx, hb hby d12_14]; exact h)
  refine own_Back.step (f' := (mkF m' 16 #[.val (.double b), .second] [.int (own_exp b)])) ?_ (fun t h => by unfold mkF at h ⊢; jvm_step C1.1 [C1.1.top, hx, hb hby d12_15]; exact h)
  exact own_Back.ret hx C1 hret (Or.inl ⟨rfl, rfl, _, rfl⟩) (hb hby d12_16)
theorem own_rGetS {l : Launch} {Z : State} {w0 : Array Value} {own C n d : String} {index : Nat} {v : Value} {h : Heap} (hZ : Z.Warmed39 s.vm) (hadm : l.admits e) (hx : p.tables.exec = Jvm.exec) (A : At T m c below) (hW : s.WarmedH T.vm) (hown : s.vm.findClass own = some m.cls) (w : (Cond.fieldLink own index C n d).before w0 Z = true) (F : Sta Z h C n d v) (eT : T.heap = h) {pc pc' : Nat} {Ls : Array Slot} {st : List Value} (hd : decode c.code pc = .ok (.getstatic index, 3)) (hp : pc + 3 = pc') :
    ∃ vm', s.WarmedH vm' ∧ At (T.setVm vm') m c below ∧ ∀ target, Steps p.tables e below ((T.setVm vm').setTop (mkF m pc' Ls (v :: st))) target → Steps p.tables e below (T.setTop (mkF m pc Ls st)) target := by
  subst hp
  have hpl : e.platform.magicAccessors = ({} : Platform).magicAccessors := by rw [hadm.platform]
  obtain ⟨ci, cfl, k', i', f', hi', hl, hr⟩ := Cond.fieldLink_spec hown (mvT (args := #[]) hZ w) e.platform hpl
  obtain ⟨cf, i, k, f, a, cell, F1, F2, F3, F4, F5, F6, F7⟩ := F
  obtain ⟨k3, e3, e4⟩ := State.fieldFound?_setVm (s := Z) (State.Warmed39.alike hZ) F1
  cases (show s.fieldFound? C n d = _ from e3).symm.trans hi'
  obtain ⟨hk, hf⟩ := State.fieldFound?_spec hi'
  obtain ⟨vm', h1, h2⟩ := Steps.getstaticCold (e := e) (tb := p.tables) (U := T) (f := mkF m pc Ls st) A hx hd hW hl hr hk hf F2 (by rw [e4]; exact F3) (by rw [e4]; exact F4) (by rw [eT]; exact F5) (by intro q; rw [q] at F6; cases F6) F7
  exact ⟨vm', h1, A.setVm (hW.alike.symm.trans h1.alike), h2⟩
set_option maxHeartbeats 40000000 in
theorem own_bFocW {l : Launch} {Z : State} {w0 : Array Value} (hw : ∀ d ∈ tables_1, d.before w0 Z = true) (hZ : Z.Warmed39 s.vm) (hadm : l.admits e) (hx : p.tables.exec = Jvm.exec) {U : State} {hp0 : Heap} (hh : U.heap = hp0) {m' : MethodId} {c' : Code} {meth' : Method} {g : JFrame} {tl : List Frame} (C : own_Ctx s U m' c' below meth' g tl) (hown : s.vm.findClass "java/lang/StrictMath" = some m'.cls) (hsc : s.code? m' = some c') (hby : c'.code = jdk_128_method_18_code) (hret : meth'.sig.returnType = some .double) (hSt : Sta Z hp0 "java/lang/StrictMath" "$assertionsDisabled" "Z" (.int 1)) {b nb pb sg : UInt64} (h1 : 0 ≤ own_exp b) (h2' : own_exp b < 52) (h3 : (4503599627370495 >>> ((own_exp b).toInt64 &&& 63) &&& b.toInt64) = 0) {F K : Nat} (R : own_RM e U (.java g :: tl) F K) (hF : 3 ≤ F) (hK : 54 ≤ K) : own_Back p e s below U (entryFrame m' #[.double b, .double nb, .double pb, .double sg] 15) g tl (.double b) := by
  show own_Back p e s below U (mkF m' 0 #[.val (.double b), .second, .val (.double nb), .second, .val (.double pb), .second, .val (.double sg), .second, .unset, .unset, .unset, .unset, .unset, .unset, .unset] []) g tl _
  refine own_Back.step (f' := (mkF m' 1 #[.val (.double b), .second, .val (.double nb), .second, .val (.double pb), .second, .val (.double sg), .second, .unset, .unset, .unset, .unset, .unset, .unset, .unset] [.double b])) ?_ (fun t h => by unfold mkF at h ⊢; jvm_step C.1 [C.1.top, hx, hb hby d11_0]; exact h)
  obtain ⟨vm1, hW1, A1, st1⟩ := own_rCall (y := (⟨"java/lang/Math", "getExponent", "(D)I"⟩ : MethodName)) (w := .int (own_exp b)) hadm hx C.1 C.2.1 C.2.2.1 hsc hown (mvT (args := #[]) hZ (wd_59 hw)) (mvT (args := #[]) hZ (wd_61 hw)) (mvT (args := #[]) hZ (wd_60 hw)) (mvT (args := #[]) hZ (wd_49 hw)) (by decide) (Jvm.Free.JP.mathPlain rfl (by decide +kernel)) (ps := [.double]) own_pd5 (pc := 1) (pc' := 4) (Ls := #[.val (.double b), .second, .val (.double nb), .second, .val (.double pb), .second, .val (.double sg), .second, .unset, .unset, .unset, .unset, .unset, .unset, .unset]) (argsL := [.double b]) (rest := []) rfl rfl (hb hby d11_1) rfl (F := F - 1) (K := K - 26) ((R.less (F' := F - 1 + 1) (K' := K - 26 + 26) (by omega) (by omega)).java (Nat.le_of_eq rfl)) (by omega) (by omega) (fun U2 m2 c2 meth2 C2 o2 b2 ml2 r2 sc2 h2 R2 => own_bGetExp hw hZ hadm hx (h2.trans hh) C2 o2 b2 r2 R2 (by omega) (by omega))
  refine own_Back.stepV ?_ st1
  have C1 := C.vm hW1
  have R1 : own_RM e (U.setVm vm1) (.java g :: tl) F K := R
  have hh1 : (U.setVm vm1).heap = hp0 := hh
  generalize U.setVm vm1 = U1 at C1 R1 hh1 ⊢
  refine own_Back.step (f' := (mkF m' 6 #[.val (.double b), .second, .val (.double nb), .second, .val (.double pb), .second, .val (.double sg), .second, .val (.int (own_exp b)), .unset, .unset, .unset, .unset, .unset, .unset] [])) ?_ (fun t h => by unfold mkF at h ⊢; jvm_step C1.1 [C1.1.top, hx, hb hby d11_4]; exact ⟨_, rfl, h⟩)
  refine own_Back.step (f' := (mkF m' 8 #[.val (.double b), .second, .val (.double nb), .second, .val (.double pb), .second, .val (.double sg), .second, .val (.int (own_exp b)), .unset, .unset, .unset, .unset, .unset, .unset] [.int (own_exp b)])) ?_ (fun t h => by unfold mkF at h ⊢; jvm_step C1.1 [C1.1.top, hx, hb hby d11_6]; exact h)
  refine own_Back.step (f' := (mkF m' 34 #[.val (.double b), .second, .val (.double nb), .second, .val (.double pb), .second, .val (.double sg), .second, .val (.int (own_exp b)), .unset, .unset, .unset, .unset, .unset, .unset] [])) ?_ (fun t h => by unfold mkF at h ⊢; jvm_step C1.1 [C1.1.top, hx, hb hby d11_8, ifCond.wp_sem, ifCond.holds, h1]; exact h)
  refine own_Back.step (f' := (mkF m' 36 #[.val (.double b), .second, .val (.double nb), .second, .val (.double pb), .second, .val (.double sg), .second, .val (.int (own_exp b)), .unset, .unset, .unset, .unset, .unset, .unset] [.int (own_exp b)])) ?_ (fun t h => by unfold mkF at h ⊢; jvm_step C1.1 [C1.1.top, hx, hb hby d11_34]; exact h)
  refine own_Back.step (f' := (mkF m' 38 #[.val (.double b), .second, .val (.double nb), .second, .val (.double pb), .second, .val (.double sg), .second, .val (.int (own_exp b)), .unset, .unset, .unset, .unset, .unset, .unset] [.int 52, .int (own_exp b)])) ?_ (fun t h => by unfold mkF at h ⊢; jvm_step C1.1 [C1.1.top, hx, hb hby d11_36]; exact h)
  refine own_Back.step (f' := (mkF m' 43 #[.val (.double b), .second, .val (.double nb), .second, .val (.double pb), .second, .val (.double sg), .second, .val (.int (own_exp b)), .unset, .unset, .unset, .unset, .unset, .unset] [])) ?_ (fun t h => by unfold mkF at h ⊢; jvm_step C1.1 [C1.1.top, hx, hb hby d11_38, if_icmp.holds, h2']; exact h)
  obtain ⟨vm2, hW2, A2, st2⟩ := own_rGetS hZ hadm hx C1.1 C1.2.1 hown (wd_68 hw) hSt hh1 (pc := 43) (pc' := 46) (Ls := #[.val (.double b), .second, .val (.double nb), .second, .val (.double pb), .second, .val (.double sg), .second, .val (.int (own_exp b)), .unset, .unset, .unset, .unset, .unset, .unset]) (st := []) (hb hby d11_43) rfl
  refine own_Back.stepV ?_ st2
  have C2 := C1.vm hW2
  have R2 : own_RM e (U1.setVm vm2) (.java g :: tl) F K := R1
  have hh2 : (U1.setVm vm2).heap = hp0 := hh1
  generalize U1.setVm vm2 = U2 at C2 R2 hh2 ⊢
  refine own_Back.step (f' := (mkF m' 69 #[.val (.double b), .second, .val (.double nb), .second, .val (.double pb), .second, .val (.double sg), .second, .val (.int (own_exp b)), .unset, .unset, .unset, .unset, .unset, .unset] [])) ?_ (fun t h => by unfold mkF at h ⊢; jvm_step C2.1 [C2.1.top, hx, hb hby d11_46, ifCond.wp_sem, ifCond.holds]; exact h)
  refine own_Back.step (f' := (mkF m' 70 #[.val (.double b), .second, .val (.double nb), .second, .val (.double pb), .second, .val (.double sg), .second, .val (.int (own_exp b)), .unset, .unset, .unset, .unset, .unset, .unset] [.double b])) ?_ (fun t h => by unfold mkF at h ⊢; jvm_step C2.1 [C2.1.top, hx, hb hby d11_69]; exact h)
  obtain ⟨vm3, hW3, A3, st3⟩ := own_rBits (b := b) hadm hx C2.1 C2.2.1 C2.2.2.1 hown (mvT (args := #[]) hZ (wd_69 hw)) (mvT (args := #[]) hZ (wd_65 hw)) (mvT (args := #[]) hZ (wd_63 hw)) (mvT (args := #[]) hZ (wd_64 hw)) (pc := 70) (pc' := 73) (Ls := #[.val (.double b), .second, .val (.double nb), .second, .val (.double pb), .second, .val (.double sg), .second, .val (.int (own_exp b)), .unset, .unset, .unset, .unset, .unset, .unset]) (rest := []) (hb hby d11_70) rfl (F := F - 1) (K := K - 26) ((R2.less (F' := F - 1 + 1) (K' := K - 26 + 26) (by omega) (by omega)).java (Nat.le_of_eq rfl)) (by omega) (by omega)
  refine own_Back.stepV ?_ st3
  have C3 := C2.vm hW3
  have R3 : own_RM e (U2.setVm vm3) (.java g :: tl) F K := R2
  have hh3 : (U2.setVm vm3).heap = hp0 := hh2
  generalize U2.setVm vm3 = U3 at C3 R3 hh3 ⊢
  refine own_Back.step (f' := (mkF m' 75 #[.val (.double b), .second, .val (.double nb), .second, .val (.double pb), .second, .val (.double sg), .second, .val (.int (own_exp b)), .val (.long b.toInt64), .second, .unset, .unset, .unset, .unset] [])) ?_ (fun t h => by unfold mkF at h ⊢; jvm_step C3.1 [C3.1.top, hx, hb hby d11_73]; exact ⟨_, rfl, h⟩)
  refine own_Back.step (f' := (mkF m' 78 #[.val (.double b), .second, .val (.double nb), .second, .val (.double pb), .second, .val (.double sg), .second, .val (.int (own_exp b)), .val (.long b.toInt64), .second, .unset, .unset, .unset, .unset] [.long 4503599627370495])) ?_ (fun t h => own_rLong hx C3.1 C3.2.1 hown (mvT (args := #[]) hZ (wd_70 hw)) (hb hby d11_75) rfl t h)
  refine own_Back.step (f' := (mkF m' 80 #[.val (.double b), .second, .val (.double nb), .second, .val (.double pb), .second, .val (.double sg), .second, .val (.int (own_exp b)), .val (.long b.toInt64), .second, .unset, .unset, .unset, .unset] [.int (own_exp b), .long 4503599627370495])) ?_ (fun t h => by unfold mkF at h ⊢; jvm_step C3.1 [C3.1.top, hx, hb hby d11_78]; exact h)
  refine own_Back.step (f' := (mkF m' 81 #[.val (.double b), .second, .val (.double nb), .second, .val (.double pb), .second, .val (.double sg), .second, .val (.int (own_exp b)), .val (.long b.toInt64), .second, .unset, .unset, .unset, .unset] [.long (4503599627370495 >>> ((own_exp b).toInt64 &&& 63))])) ?_ (fun t h => by unfold mkF at h ⊢; jvm_step C3.1 [C3.1.top, hx, hb hby d11_80]; exact h)
  refine own_Back.step (f' := (mkF m' 83 #[.val (.double b), .second, .val (.double nb), .second, .val (.double pb), .second, .val (.double sg), .second, .val (.int (own_exp b)), .val (.long b.toInt64), .second, .val (.long (4503599627370495 >>> ((own_exp b).toInt64 &&& 63))), .second, .unset, .unset] [])) ?_ (fun t h => by unfold mkF at h ⊢; jvm_step C3.1 [C3.1.top, hx, hb hby d11_81]; exact ⟨_, rfl, h⟩)
  refine own_Back.step (f' := (mkF m' 85 #[.val (.double b), .second, .val (.double nb), .second, .val (.double pb), .second, .val (.double sg), .second, .val (.int (own_exp b)), .val (.long b.toInt64), .second, .val (.long (4503599627370495 >>> ((own_exp b).toInt64 &&& 63))), .second, .unset, .unset] [.long (4503599627370495 >>> ((own_exp b).toInt64 &&& 63))])) ?_ (fun t h => by unfold mkF at h ⊢; jvm_step C3.1 [C3.1.top, hx, hb hby d11_83]; exact h)
  refine own_Back.step (f' := (mkF m' 87 #[.val (.double b), .second, .val (.double nb), .second, .val (.double pb), .second, .val (.double sg), .second, .val (.int (own_exp b)), .val (.long b.toInt64), .second, .val (.long (4503599627370495 >>> ((own_exp b).toInt64 &&& 63))), .second, .unset, .unset] [.long b.toInt64, .long (4503599627370495 >>> ((own_exp b).toInt64 &&& 63))])) ?_ (fun t h => by unfold mkF at h ⊢; jvm_step C3.1 [C3.1.top, hx, hb hby d11_85]; exact h)
  refine own_Back.step (f' := (mkF m' 88 #[.val (.double b), .second, .val (.double nb), .second, .val (.double pb), .second, .val (.double sg), .second, .val (.int (own_exp b)), .val (.long b.toInt64), .second, .val (.long (4503599627370495 >>> ((own_exp b).toInt64 &&& 63))), .second, .unset, .unset] [.long ((4503599627370495 >>> ((own_exp b).toInt64 &&& 63)) &&& b.toInt64)])) ?_ (fun t h => by unfold mkF at h ⊢; jvm_step C3.1 [C3.1.top, hx, hb hby d11_87]; exact h)
  refine own_Back.step (f' := (mkF m' 89 #[.val (.double b), .second, .val (.double nb), .second, .val (.double pb), .second, .val (.double sg), .second, .val (.int (own_exp b)), .val (.long b.toInt64), .second, .val (.long (4503599627370495 >>> ((own_exp b).toInt64 &&& 63))), .second, .unset, .unset] [.long 0, .long ((4503599627370495 >>> ((own_exp b).toInt64 &&& 63)) &&& b.toInt64)])) ?_ (fun t h => by unfold mkF at h ⊢; jvm_step C3.1 [C3.1.top, hx, hb hby d11_88]; exact h)
  refine own_Back.step (f' := (mkF m' 90 #[.val (.double b), .second, .val (.double nb), .second, .val (.double pb), .second, .val (.double sg), .second, .val (.int (own_exp b)), .val (.long b.toInt64), .second, .val (.long (4503599627370495 >>> ((own_exp b).toInt64 &&& 63))), .second, .unset, .unset] [.int 0])) ?_ (fun t h => by unfold mkF at h ⊢; jvm_step C3.1 [C3.1.top, hx, hb hby d11_89, h3]; exact h)
  refine own_Back.step (f' := (mkF m' 93 #[.val (.double b), .second, .val (.double nb), .second, .val (.double pb), .second, .val (.double sg), .second, .val (.int (own_exp b)), .val (.long b.toInt64), .second, .val (.long (4503599627370495 >>> ((own_exp b).toInt64 &&& 63))), .second, .unset, .unset] [])) ?_ (fun t h => by unfold mkF at h ⊢; jvm_step C3.1 [C3.1.top, hx, hb hby d11_90, ifCond.wp_sem, ifCond.holds]; exact h)
  refine own_Back.step (f' := (mkF m' 94 #[.val (.double b), .second, .val (.double nb), .second, .val (.double pb), .second, .val (.double sg), .second, .val (.int (own_exp b)), .val (.long b.toInt64), .second, .val (.long (4503599627370495 >>> ((own_exp b).toInt64 &&& 63))), .second, .unset, .unset] [.double b])) ?_ (fun t h => by unfold mkF at h ⊢; jvm_step C3.1 [C3.1.top, hx, hb hby d11_93]; exact h)
  exact own_Back.ret hx C3 hret (Or.inr ⟨rfl, rfl, _, rfl⟩) (hb hby d11_94)
set_option maxHeartbeats 40000000 in
theorem own_bFocH {l : Launch} {Z : State} {w0 : Array Value} (hw : ∀ d ∈ tables_1, d.before w0 Z = true) (hZ : Z.Warmed39 s.vm) (hadm : l.admits e) (hx : p.tables.exec = Jvm.exec) {U : State} {hp0 : Heap} (hh : U.heap = hp0) {m' : MethodId} {c' : Code} {meth' : Method} {g : JFrame} {tl : List Frame} (C : own_Ctx s U m' c' below meth' g tl) (hown : s.vm.findClass "java/lang/StrictMath" = some m'.cls) (hsc : s.code? m' = some c') (hby : c'.code = jdk_128_method_18_code) (hret : meth'.sig.returnType = some .double) (hSt : Sta Z hp0 "java/lang/StrictMath" "$assertionsDisabled" "Z" (.int 1)) {b nb pb sg : UInt64} (h1 : ¬ 0 ≤ own_exp b) (h2' : cmpValue (FP.dcmp b 0) .l = 1) (h3 : cmpValue (FP.dcmp b 0) .g = 1) {F K : Nat} (R : own_RM e U (.java g :: tl) F K) (hF : 3 ≤ F) (hK : 54 ≤ K) : own_Back p e s below U (entryFrame m' #[.double b, .double nb, .double pb, .double sg] 15) g tl (.double pb) := by
  show own_Back p e s below U (mkF m' 0 #[.val (.double b), .second, .val (.double nb), .second, .val (.double pb), .second, .val (.double sg), .second, .unset, .unset, .unset, .unset, .unset, .unset, .unset] []) g tl _
  refine own_Back.step (f' := (mkF m' 1 #[.val (.double b), .second, .val (.double nb), .second, .val (.double pb), .second, .val (.double sg), .second, .unset, .unset, .unset, .unset, .unset, .unset, .unset] [.double b])) ?_ (fun t h => by unfold mkF at h ⊢; jvm_step C.1 [C.1.top, hx, hb hby d11_0]; exact h)
  obtain ⟨vm1, hW1, A1, st1⟩ := own_rCall (y := (⟨"java/lang/Math", "getExponent", "(D)I"⟩ : MethodName)) (w := .int (own_exp b)) hadm hx C.1 C.2.1 C.2.2.1 hsc hown (mvT (args := #[]) hZ (wd_59 hw)) (mvT (args := #[]) hZ (wd_61 hw)) (mvT (args := #[]) hZ (wd_60 hw)) (mvT (args := #[]) hZ (wd_49 hw)) (by decide) (Jvm.Free.JP.mathPlain rfl (by decide +kernel)) (ps := [.double]) own_pd5 (pc := 1) (pc' := 4) (Ls := #[.val (.double b), .second, .val (.double nb), .second, .val (.double pb), .second, .val (.double sg), .second, .unset, .unset, .unset, .unset, .unset, .unset, .unset]) (argsL := [.double b]) (rest := []) rfl rfl (hb hby d11_1) rfl (F := F - 1) (K := K - 26) ((R.less (F' := F - 1 + 1) (K' := K - 26 + 26) (by omega) (by omega)).java (Nat.le_of_eq rfl)) (by omega) (by omega) (fun U2 m2 c2 meth2 C2 o2 b2 ml2 r2 sc2 h2 R2 => own_bGetExp hw hZ hadm hx (h2.trans hh) C2 o2 b2 r2 R2 (by omega) (by omega))
  refine own_Back.stepV ?_ st1
  have C1 := C.vm hW1
  have R1 : own_RM e (U.setVm vm1) (.java g :: tl) F K := R
  have hh1 : (U.setVm vm1).heap = hp0 := hh
  generalize U.setVm vm1 = U1 at C1 R1 hh1 ⊢
  refine own_Back.step (f' := (mkF m' 6 #[.val (.double b), .second, .val (.double nb), .second, .val (.double pb), .second, .val (.double sg), .second, .val (.int (own_exp b)), .unset, .unset, .unset, .unset, .unset, .unset] [])) ?_ (fun t h => by unfold mkF at h ⊢; jvm_step C1.1 [C1.1.top, hx, hb hby d11_4]; exact ⟨_, rfl, h⟩)
  refine own_Back.step (f' := (mkF m' 8 #[.val (.double b), .second, .val (.double nb), .second, .val (.double pb), .second, .val (.double sg), .second, .val (.int (own_exp b)), .unset, .unset, .unset, .unset, .unset, .unset] [.int (own_exp b)])) ?_ (fun t h => by unfold mkF at h ⊢; jvm_step C1.1 [C1.1.top, hx, hb hby d11_6]; exact h)
  refine own_Back.step (f' := (mkF m' 11 #[.val (.double b), .second, .val (.double nb), .second, .val (.double pb), .second, .val (.double sg), .second, .val (.int (own_exp b)), .unset, .unset, .unset, .unset, .unset, .unset] [])) ?_ (fun t h => by unfold mkF at h ⊢; jvm_step C1.1 [C1.1.top, hx, hb hby d11_8, ifCond.wp_sem, ifCond.holds, h1]; exact h)
  refine own_Back.step (f' := (mkF m' 12 #[.val (.double b), .second, .val (.double nb), .second, .val (.double pb), .second, .val (.double sg), .second, .val (.int (own_exp b)), .unset, .unset, .unset, .unset, .unset, .unset] [.double b])) ?_ (fun t h => by unfold mkF at h ⊢; jvm_step C1.1 [C1.1.top, hx, hb hby d11_11]; exact h)
  refine own_Back.step (f' := (mkF m' 13 #[.val (.double b), .second, .val (.double nb), .second, .val (.double pb), .second, .val (.double sg), .second, .val (.int (own_exp b)), .unset, .unset, .unset, .unset, .unset, .unset] [.double 0, .double b])) ?_ (fun t h => by unfold mkF at h ⊢; jvm_step C1.1 [C1.1.top, hx, hb hby d11_12]; exact h)
  refine own_Back.step (f' := (mkF m' 14 #[.val (.double b), .second, .val (.double nb), .second, .val (.double pb), .second, .val (.double sg), .second, .val (.int (own_exp b)), .unset, .unset, .unset, .unset, .unset, .unset] [.int 1])) ?_ (fun t h => by unfold mkF at h ⊢; jvm_step C1.1 [C1.1.top, hx, hb hby d11_13, h2']; exact h)
  refine own_Back.step (f' := (mkF m' 21 #[.val (.double b), .second, .val (.double nb), .second, .val (.double pb), .second, .val (.double sg), .second, .val (.int (own_exp b)), .unset, .unset, .unset, .unset, .unset, .unset] [])) ?_ (fun t h => by unfold mkF at h ⊢; jvm_step C1.1 [C1.1.top, hx, hb hby d11_14, ifCond.wp_sem, ifCond.holds]; exact h)
  refine own_Back.step (f' := (mkF m' 22 #[.val (.double b), .second, .val (.double nb), .second, .val (.double pb), .second, .val (.double sg), .second, .val (.int (own_exp b)), .unset, .unset, .unset, .unset, .unset, .unset] [.double b])) ?_ (fun t h => by unfold mkF at h ⊢; jvm_step C1.1 [C1.1.top, hx, hb hby d11_21]; exact h)
  refine own_Back.step (f' := (mkF m' 23 #[.val (.double b), .second, .val (.double nb), .second, .val (.double pb), .second, .val (.double sg), .second, .val (.int (own_exp b)), .unset, .unset, .unset, .unset, .unset, .unset] [.double 0, .double b])) ?_ (fun t h => by unfold mkF at h ⊢; jvm_step C1.1 [C1.1.top, hx, hb hby d11_22]; exact h)
  refine own_Back.step (f' := (mkF m' 24 #[.val (.double b), .second, .val (.double nb), .second, .val (.double pb), .second, .val (.double sg), .second, .val (.int (own_exp b)), .unset, .unset, .unset, .unset, .unset, .unset] [.int 1])) ?_ (fun t h => by unfold mkF at h ⊢; jvm_step C1.1 [C1.1.top, hx, hb hby d11_23, h3]; exact h)
  refine own_Back.step (f' := (mkF m' 31 #[.val (.double b), .second, .val (.double nb), .second, .val (.double pb), .second, .val (.double sg), .second, .val (.int (own_exp b)), .unset, .unset, .unset, .unset, .unset, .unset] [])) ?_ (fun t h => by unfold mkF at h ⊢; jvm_step C1.1 [C1.1.top, hx, hb hby d11_24, ifCond.wp_sem, ifCond.holds]; exact h)
  refine own_Back.step (f' := (mkF m' 33 #[.val (.double b), .second, .val (.double nb), .second, .val (.double pb), .second, .val (.double sg), .second, .val (.int (own_exp b)), .unset, .unset, .unset, .unset, .unset, .unset] [.double pb])) ?_ (fun t h => by unfold mkF at h ⊢; jvm_step C1.1 [C1.1.top, hx, hb hby d11_31]; exact h)
  exact own_Back.ret hx C1 hret (Or.inr ⟨rfl, rfl, _, rfl⟩) (hb hby d11_33)
/-- the native frame under which Math.ceil waits for StrictMath.ceil -/
def own_nf (mk : MethodId) (b : UInt64) : NFrame := { method := mk, args := #[.double b], stage := 1, saved := #[], awaiting := true, answer := none, words := 0 }
def own_nr (mk : MethodId) (b r0 : UInt64) : NFrame := { method := mk, args := #[.double b], stage := 1, saved := #[], awaiting := false, answer := some (.returned (some (.double r0))), words := 0 }
theorem own_ovr {V : State} {mk : MethodId} {k : Class} {meth : Method} {g : JFrame} {r : List Frame} {b : UInt64} (hf : V.frames = .java (entryFrame mk #[.double b] 2) :: .java g :: r) (hk : V.vm.classes[mk.cls]? = some k) (hkn : k.name = "java/lang/Math") (hboot : k.loader = none) (hx : k.methods[mk.idx]? = some meth) (hmn : meth.name = "ceil") (hmd : meth.desc = "(D)D") (hpar : meth.sig.parameters.length = 1)
    {cS : ClassId} {kS : Class} {i : Nat} (hfS : V.vm.findClass "java/lang/StrictMath" = some cS) (hkS : V.vm.classes[cS]? = some kS) (hiS : kS.init = .initialized) (hmS : kS.findMethod "ceil" "(D)D" = some i) :
    ∃ acts, (stepThread p.tables e V).1 = (doInvoke e (V.setFrames (.native (own_nf mk b) :: .java g :: r)) acts ⟨cS, i⟩ #[.double b]).1 := by
  obtain ⟨acts2, hr⟩ := Jvm.Free.Hsc.ceil_run b e (V.setFrames (.native { method := mk, args := #[.double b] } :: .java g :: r)) (cS := cS) (kS := kS) (i := i) hfS hkS hiS hmS
  refine ⟨acts2, ?_⟩
  have ho : overridden p.tables e V (entryFrame mk #[.double b] 2) = some Jvm.Free.Hsc.ceilRow := Jvm.Free.Fl.Abs.overridden_some (k := k) (x := meth) rfl hk (by rw [hkn]; decide) hboot hx (by rw [hkn, hmn, hmd]; exact Jvm.Free.Hsc.ceil_row p)
  have q1 : (V.vm.classes[mk.cls]?.bind fun y => y.methods[mk.idx]?) = some meth := by simp [hk, hx]
  have q2 : ((V.vm.classes[mk.cls]?).bind fun k => Option.map (fun n => upcallWords k.name n.name) k.methods[mk.idx]?).getD 0 = 0 := by simp [hk, hx, hkn, hmn, upcallWords]
  have q3 : ∀ n : Nat, List.take (1 + n) [Value.double b] = [Value.double b] := fun n => List.take_of_length_le (Nat.le_add_right 1 n)
  unfold stepThread
  simp only [hf, ho]
  simp [entryFrame, argsToLocals, Value.category, argCount, q1, hpar, q3, hr, afterNative, q2, State.setFrames_setFrames, own_nf]
theorem own_res {V : State} {mk : MethodId} {k : Class} {meth : Method} {g : JFrame} {r : List Frame} {b r0 : UInt64} (hf : V.frames = .native (own_nr mk b r0) :: .java g :: r) (hk : V.vm.classes[mk.cls]? = some k) (hkn : k.name = "java/lang/Math") (hboot : k.loader = none) (hx : k.methods[mk.idx]? = some meth) (hmn : meth.name = "ceil") (hmd : meth.desc = "(D)D")
    (hnn : r0 &&& 0x7fffffffffffffff ≤ 0x7ff0000000000000) {cg : Code} {ig : Instr} (hcg : V.code? g.method = some cg) (hdg : decode cg.code g.pc = .ok (ig, 3)) :
    (stepThread p.tables e V).1 = V.setFrames (.java { g with pc := g.pc + 3, stack := .double r0 :: g.stack } :: r) := by
  obtain ⟨acts3, hr⟩ := Jvm.Free.Hsc.ceil_resume hnn e V
  have hfs : handOver V (some (.double r0)) (.java g :: r) = some (.java { g with pc := g.pc + 3, stack := .double r0 :: g.stack } :: r) := by simp [handOver, hcg, hdg, Except.toOption]
  rw [Jvm.Free.Hsc.stepThread_resumed' (f := own_nr mk b r0) (o := .returned (some (.double r0))) hf hk hboot hx (by rw [hkn, hmn, hmd]; exact Jvm.Free.Hsc.ceil_row p) rfl]
  show (afterNative e _ _ ((Jvm.Free.Hsc.ceilRow.resume 1 #[] (.returned (some (.double r0)))).run e V)).1 = _
  rw [hr]
  exact doReturn_native (f := own_nr mk b r0) hf rfl hfs
theorem own_rPush {V : State} {fs : List Frame} (hF : V.frames = fs) {m' : MethodId} {meth' : Method} {c' : Code} (hm' : V.vm.method? m' = some meth') (hc' : meth'.code = some c') (hl : meth'.locks = false) {F K : Nat} (R : own_RM e V fs F K) (h1 : 1 ≤ F) (h2 : c'.maxLocals + 11 ≤ K) (acts : List Action) (as : Array Value) :
    (doInvoke e V acts m' as).1 = V.setFrames (.java (entryFrame m' as c'.maxLocals) :: fs) := by
  rw [(doInvoke_java (s := V) (e := e) (acts := acts) (args := as) (meth := meth') (code := c') hm' hc' hl (R.full hF rfl h1 h2)).1, State.pushFrame, hF]
  rfl
theorem own_room {R : Room} {args : Array Value} {locs : List Loc} {cells slots : Nat} {meth : Method} (X : Stand p l e R s m args below meth c T locs cells slots) {g : JFrame} (hg : g.locals.size = c.maxLocals) (h0 : g.monitorRoom = 0) {W F K : Nat} (hW : (g.stack.map fun v => v.category).sum ≤ W) (hF : F ≤ R.frames) (hK : W + K ≤ R.locals) : own_RM e T (.java g :: below) F K := by
  obtain ⟨-, r2, -, r4⟩ := State.hasRoom_stack X.room
  rw [State.localsInUse_invoking X.frames X.method X.code] at r4
  rw [X.frames, List.length_cons] at r2
  refine ⟨by rw [X.limits, List.length_cons]; omega, ?_⟩
  have q := stackUse_le_stackWeight (.java g :: below)
  rw [stackWeight_java, hg, h0] at q
  rw [X.limits]
  omega
set_option maxHeartbeats 40000000 in
theorem own_ceil {R : Room} {args : Array Value} {locs : List Loc} {cells slots : Nat} {meth : Method} (X : Stand p l e R s m args below meth c T locs cells slots) (hx : p.tables.exec = Jvm.exec) {Z : State} {w0 : Array Value} (hw : ∀ d ∈ tables_1, d.before w0 Z = true) (hZ : Z.Warmed39 s.vm) (hown : s.vm.findClass "com/example/earnest_reactor/earnestreactor/cli/LatencyHistogram" = some m.cls) {hp0 : Heap} (eT : T.heap = hp0)
    {pc pc' : Nat} {Ls : Array Slot} {rest : List Value} (hdg : decode c.code pc = .ok (.invokestatic 27, 3)) (hp : pc + 3 = pc') (hsz : Ls.size = c.maxLocals) {W : Nat} (hWd : (rest.map fun v => v.category).sum ≤ W) (hfr : 6 ≤ R.frames) (hlo : W + 80 ≤ R.locals) {b r0 : UInt64} (hnn : r0 &&& 0x7fffffffffffffff ≤ 0x7ff0000000000000)
    (hB : ∀ (U : State) (m2 : MethodId) (c2 : Code) (meth2 : Method) (g : JFrame) (tl : List Frame) (F K : Nat), own_Ctx s U m2 c2 below meth2 g tl → s.vm.findClass "java/lang/StrictMath" = some m2.cls → s.code? m2 = some c2 → c2.code = jdk_128_method_18_code → meth2.sig.returnType = some .double → U.heap = hp0 → own_RM e U (.java g :: tl) F K → 3 ≤ F → 54 ≤ K → own_Back p e s below U (entryFrame m2 #[.double b, .double 9223372036854775808, .double 4607182418800017408, .double 4607182418800017408] 15) g tl (.double r0)) :
    ∃ T', Stand p l e R s m args below meth c T' locs cells slots ∧ T'.heap = hp0 ∧ ∀ target, Steps p.tables e below (T'.setTop (mkF m pc' Ls (.double r0 :: rest))) target → Steps p.tables e below (T.setTop (mkF m pc Ls (.double b :: rest))) target := by
  subst hp
  have RM := own_room X (g := mkF m pc Ls rest) hsz rfl (W := W) (F := 6) (K := 80) hWd hfr hlo
  -- Math.ceil
  have wc : (Cond.code (⟨"java/lang/Math", "ceil", "(D)D"⟩ : MethodName) jdk_29_method_16_code 2 (some .double)).before #[] s = true := (mvT (args := #[]) hZ (wd_50 hw))
  obtain ⟨mk, hn⟩ := Cond.code_named wc
  obtain ⟨meth1, c1, q1, q2, q3, q4, q5, q6, -, q8⟩ := Cond.code_spec hn wc
  obtain ⟨k1, hk1, hkn⟩ := className_of_methodNamed hn
  obtain ⟨hmn, hmd⟩ := name_of_methodNamed hn q1
  have hi1 : k1.init = .initialized := Cond.initialized_spec (findClass_of_methodNamed hn) hk1 (mvT (args := #[]) hZ (wd_49 hw))
  have hpar : meth1.sig.parameters.length = 1 := by
    have q8' : parseMethodDescriptor "(D)D" = some meth1.sig := q8
    rw [show parseMethodDescriptor "(D)D" = some ⟨[.double], some .double⟩ from by decide +kernel] at q8'
    rw [← Option.some.inj q8']
    rfl
  -- StrictMath.ceil
  have ws : (Cond.code (⟨"java/lang/StrictMath", "ceil", "(D)D"⟩ : MethodName) jdk_128_method_16_code 2 (some .double)).before #[] s = true := (mvT (args := #[]) hZ (wd_54 hw))
  obtain ⟨mS, hnS⟩ := Cond.code_named ws
  obtain ⟨methS, cS, s1, s2, s3, s4, s5, s6, -, s8⟩ := Cond.code_spec hnS ws
  obtain ⟨kS, hkS, hkSn⟩ := className_of_methodNamed hnS
  have hfS : s.vm.findClass "java/lang/StrictMath" = some mS.cls := findClass_of_methodNamed hnS
  have hiS : kS.init = .initialized := Cond.initialized_spec hfS hkS (mvT (args := #[]) hZ (wd_53 hw))
  have hmS : kS.findMethod "ceil" "(D)D" = some mS.idx := by
    have h := hnS
    simp only [State.methodNamed?, Option.bind_eq_bind, Option.pure_def, hfS, Option.bind_some, hkS] at h
    cases hfm : kS.findMethod "ceil" "(D)D" with
    | none => rw [hfm] at h; cases h
    | some j => rw [hfm] at h; simp at h; rw [← h]
  have hboot : k1.loader = none := Vm.bootOf_findClass (findClass_of_methodNamed hn) hk1
  obtain ⟨vm1, hW1, A1, step⟩ := own_rStatic X.admits hx X.here X.warmed hown (mvT (args := #[]) hZ (wd_47 hw)) hn q1 (Cond.static_spec hn q1 (mvT (args := #[]) hZ (wd_48 hw))) hk1 hi1 (by decide) (g := mkF m pc Ls (.double b :: rest)) rfl (argsL := [.double b]) (rest := rest) (by rw [hpar]; rfl) rfl hdg
  have hsc : s.code? m = some c := by rw [State.code?_eq, X.method]; exact X.code
  obtain ⟨g0, hg0⟩ := Option.isSome_iff_exists.mp X.here.top
  obtain ⟨r, hr⟩ := State.topJava?_eq_some.mp hg0
  have hcur : T.cur < T.threads.size := State.cur_lt_of_frames hr
  have htl : r = below := by rw [← X.tail, hr]; rfl
  subst htl
  have hfr' : ∀ vm fs, ((T.setVm vm).setFrames fs).frames = fs := fun vm fs => State.frames_setFrames _ hcur
  have hlim : ∀ vm fs, e.platform.stackLimits ((T.setVm vm).setFrames fs).me = e.platform.stackLimits T.me := fun vm fs => State.stackLimits_setFrames _ _ _
  have rm : ∀ vm fs fs' F K, own_RM e T fs F K → own_RM e ((T.setVm vm).setFrames fs') fs F K := fun vm fs fs' F K h => by unfold own_RM; rw [hlim]; exact h
  obtain ⟨mid, hmid⟩ := X.here.above
  have run : ∀ vm fs, ((T.setVm vm).setFrames fs).status = .running ∧ ((T.setVm vm).setFrames fs).curStatus? = some .runnable ∧ ((T.setVm vm).setFrames fs).alone = true := fun vm fs => ⟨X.here.running, by have := X.here.runnable; simpa using this, by have := X.here.alone; simpa using this⟩
  have hscS : s.code? mS = some cS := by rw [State.code?_eq, s1]; exact s2
  have A2 : At ((T.setVm vm1).setFrames (.java (entryFrame mS #[.double b] 2) :: .native (own_nf mk b) :: .java (mkF m pc Ls rest) :: r)) mS cS r := by
    refine ⟨?_, ⟨[.native (own_nf mk b), .java (mkF m pc Ls rest)], by rw [hfr']; rfl⟩, (run _ _).1, (run _ _).2.1, (run _ _).2.2, ?_, ?_⟩
    · rw [Option.isSome_iff_exists]; exact ⟨_, State.topJava?_eq_some.mpr ⟨_, hfr' _ _⟩⟩
    · rw [State.code?_eq]; show (vm1.method? mS).bind _ = _; rw [hW1.alike.method?, s1]; exact s2
    · exact State.plainMethod.of_named (x := (⟨"java/lang/StrictMath", "ceil", "(D)D"⟩ : MethodName)) (meth := methS) (by decide +kernel) (by rw [← hnS]; exact State.methodNamed?_setVm (s := s) (vm' := vm1) hW1.alike _) (by show vm1.method? mS = _; rw [hW1.alike.method?]; exact s1)
  have inner : ∃ vm2, s.WarmedH vm2 ∧ ∀ target, Steps p.tables e r ((T.setVm vm2).setFrames (.native (own_nr mk b r0) :: .java (mkF m pc Ls rest) :: r)) target → Steps p.tables e r (((T.setVm vm1).setFrames (.java (entryFrame mS #[.double b] 2) :: .native (own_nf mk b) :: .java (mkF m pc Ls rest) :: r)).setTop (entryFrame mS #[.double b] 2)) target := by
    have hWU : s.WarmedH ((T.setVm vm1).setFrames (.java (entryFrame mS #[.double b] 2) :: .native (own_nf mk b) :: .java (mkF m pc Ls rest) :: r)).vm := hW1
    have htU : ((T.setVm vm1).setFrames (.java (entryFrame mS #[.double b] 2) :: .native (own_nf mk b) :: .java (mkF m pc Ls rest) :: r)).frames.tail = .native (own_nf mk b) :: .java (mkF m pc Ls rest) :: r := by rw [hfr']; rfl
    have hhU : ((T.setVm vm1).setFrames (.java (entryFrame mS #[.double b] 2) :: .native (own_nf mk b) :: .java (mkF m pc Ls rest) :: r)).heap = hp0 := eT
    have RU := rm vm1 _ (.java (entryFrame mS #[.double b] 2) :: .native (own_nf mk b) :: .java (mkF m pc Ls rest) :: r) _ _ (RM.native (F := 5) (f := own_nf mk b) rfl)
    have back : ∀ vm2 fs, (((T.setVm vm1).setFrames (.java (entryFrame mS #[.double b] 2) :: .native (own_nf mk b) :: .java (mkF m pc Ls rest) :: r)).setVm vm2).setFrames fs = (T.setVm vm2).setFrames fs := fun vm2 fs => by
      show ((T.setVm vm2).setFrames _).setFrames fs = _
      rw [State.setFrames_setFrames]
    generalize (T.setVm vm1).setFrames (.java (entryFrame mS #[.double b] 2) :: .native (own_nf mk b) :: .java (mkF m pc Ls rest) :: r) = U at A2 hWU htU hhU RU back ⊢
    obtain ⟨vm2, hW2, A3, st3⟩ := own_rCall (y := (⟨"java/lang/StrictMath", "floorOrCeil", "(DDDD)D"⟩ : MethodName)) (w := .double r0) X.admits hx A2 hWU htU hscS hfS (mvT (args := #[]) hZ (wd_56 hw)) (mvT (args := #[]) hZ (wd_58 hw)) (mvT (args := #[]) hZ (wd_57 hw)) (mvT (args := #[]) hZ (wd_53 hw)) (by decide) (by decide +kernel) (ps := [.double, .double, .double, .double]) (by decide +kernel) (pc := 6) (pc' := 9) (Ls := #[.val (.double b), .second]) (argsL := [.double b, .double 9223372036854775808, .double 4607182418800017408, .double 4607182418800017408]) (rest := []) rfl rfl (hb s3 d10_6) rfl (F := 4) (K := 67) (RU.java (Nat.le_of_eq rfl)) (by decide) (by decide) (fun U2 m2 c2 meth2 C2 o2 b2 ml2 r2 sc2 h2 R2 => hB U2 m2 c2 meth2 _ _ _ _ C2 o2 sc2 b2 r2 (h2.trans hhU) R2 (by decide) (by decide))
    refine ⟨vm2, hW2, fun target h => ?_⟩
    show Steps p.tables e r (U.setTop { method := mS, pc := 0, locals := #[.val (.double b), .second], stack := [], locked := none }) target
    jvm_step A2 [A2.top, hx, hb s3 d10_0]
    refine own_rDouble (m := mS) (pc := 1) (Ls := #[.val (.double b), .second]) (st := [.double b]) hx A2 hWU hfS (mvT (args := #[]) hZ (wd_55 hw)) (hb s3 d10_1) (pc' := 4) rfl target ?_
    show Steps p.tables e r (U.setTop { method := mS, pc := 4, locals := #[.val (.double b), .second], stack := [.double 9223372036854775808, .double b], locked := none }) target
    jvm_step A2 [A2.top, hx, hb s3 d10_4]
    jvm_step A2 [A2.top, hx, hb s3 d10_5]
    refine st3 target ?_
    rw [← back] at h
    have htU3 : (U.setVm vm2).frames.tail = .native (own_nf mk b) :: .java (mkF m pc Ls rest) :: r := htU
    have hm3 : (U.setVm vm2).vm.method? mS = some methS := by show vm2.method? mS = _; rw [hW2.alike.method?]; exact s1
    generalize U.setVm vm2 = U3 at A3 h htU3 hm3 ⊢
    obtain ⟨g3, hg3⟩ := Option.isSome_iff_exists.mp A3.top
    obtain ⟨r3, hr3⟩ := State.topJava?_eq_some.mp hg3
    have key : ∀ f acts, f.method = mS → f.locked = none → f.entered = [] → (doReturn e (U3.setTop f) acts (some (.double r0))).1 = U3.setFrames (.native (own_nr mk b r0) :: .java (mkF m pc Ls rest) :: r) := fun f acts z1 z2 z3 => by
      have hf : (U3.setTop f).frames = .java f :: .native (own_nf mk b) :: .java (mkF m pc Ls rest) :: r := by rw [State.frames_setTop' _ A3.top, htU3]
      rw [(doReturn_plain (e := e) (s := U3.setTop f) (acts := acts) (v := some (.double r0)) hf (by rw [z1]; simpa using hm3) s6 z2 z3 (fs := .native (own_nr mk b r0) :: .java (mkF m pc Ls rest) :: r) rfl).1, State.setTop_of_frames _ hr3, State.setFrames_setFrames]
    show Steps p.tables e r (U3.setTop { method := mS, pc := 9, locals := #[.val (.double b), .second], stack := [.double r0], locked := none }) target
    jvm_step A3 [A3.top, hx, hb s3 d10_9, hm3, s5, narrow]
    first | (intro acts; rw [key _ acts rfl rfl rfl]) | rw [key _ _ rfl rfl rfl]
    exact h
  obtain ⟨vm2, hW2, inner⟩ := inner
  refine ⟨T.setVm vm2, X.noted hW2, eT, fun target h => step target fun acts => ?_⟩
  have hm1 : ∀ fs, ((T.setVm vm1).setFrames fs).vm.method? mk = some meth1 := fun fs => by show vm1.method? mk = _; rw [hW1.alike.method?]; exact q1
  have hmS1 : ∀ fs, ((T.setVm vm1).setFrames fs).vm.method? mS = some methS := fun fs => by show vm1.method? mS = _; rw [hW1.alike.method?]; exact s1
  have eg : (T.setVm vm1).setTop (mkF m pc Ls rest) = (T.setVm vm1).setFrames (.java (mkF m pc Ls rest) :: r) := State.setTop_of_frames _ (show (T.setVm vm1).frames = .java g0 :: r from hr)
  show Steps p.tables e r (doInvoke e ((T.setVm vm1).setTop (mkF m pc Ls rest)) acts mk #[.double b]).1 target
  rw [eg, own_rPush (hfr' _ _) (hm1 _) q2 q6 (rm vm1 _ _ _ _ RM) (by decide) (by rw [q4]; decide), q4, State.setFrames_setFrames]
  obtain ⟨k1', hk1', ek1⟩ := hW1.alike.2.2 _ _ hk1
  obtain ⟨kS', hkS', ekS⟩ := hW1.alike.2.2 _ _ hkS
  obtain ⟨k2', hk2', ek2⟩ := hW2.alike.2.2 _ _ hk1
  have hx1 : k1.methods[mk.idx]? = some meth1 := by simpa [Vm.method?, hk1] using q1
  obtain ⟨acts2, ov⟩ := own_ovr (p := p) (e := e) (V := (T.setVm vm1).setFrames (.java (entryFrame mk #[.double b] 2) :: .java (mkF m pc Ls rest) :: r)) (hfr' _ _) hk1' (by rw [ek1]; exact hkn) (by rw [ek1]; exact hboot) (by rw [ek1]; exact hx1) hmn hmd hpar (by show vm1.findClass _ = _; rw [hW1.alike.findClass]; exact hfS) hkS' (by rw [ekS]; exact hiS) (by rw [ekS]; exact hmS)
  refine Steps.head (run _ _) ⟨[.java (entryFrame mk #[.double b] 2), .java (mkF m pc Ls rest)], by rw [hfr']; rfl, by simp, by simp⟩ ?_
  rw [ov, State.setFrames_setFrames, own_rPush (hfr' _ _) (hmS1 _) s2 s6 (rm vm1 _ _ _ _ (RM.native (F := 5) (f := own_nf mk b) rfl)) (by decide) (by rw [s4]; decide), s4, State.setFrames_setFrames]
  have eU : ((T.setVm vm1).setFrames (.java (entryFrame mS #[.double b] 2) :: .native (own_nf mk b) :: .java (mkF m pc Ls rest) :: r)).setTop (entryFrame mS #[.double b] 2) = (T.setVm vm1).setFrames (.java (entryFrame mS #[.double b] 2) :: .native (own_nf mk b) :: .java (mkF m pc Ls rest) :: r) := by
    rw [State.setTop_of_frames _ (hfr' _ _), State.setFrames_setFrames]
  show Steps p.tables e r ((T.setVm vm1).setFrames (.java (entryFrame mS #[.double b] 2) :: .native (own_nf mk b) :: .java (mkF m pc Ls rest) :: r)) target
  rw [← eU]
  refine inner target ?_
  refine Steps.head (run _ _) ⟨[.native (own_nr mk b r0), .java (mkF m pc Ls rest)], by rw [hfr']; rfl, by simp, by simp⟩ ?_
  rw [own_res (p := p) (e := e) (V := (T.setVm vm2).setFrames (.native (own_nr mk b r0) :: .java (mkF m pc Ls rest) :: r)) (hfr' _ _) hk2' (by rw [ek2]; exact hkn) (by rw [ek2]; exact hboot) (by rw [ek2]; exact hx1) hmn hmd hnn (by rw [State.code?_eq]; show (vm2.method? m).bind _ = _; rw [hW2.alike.method?, ← State.code?_eq]; exact hsc) hdg, State.setFrames_setFrames]
  rw [State.setTop_of_frames _ (show (T.setVm vm2).frames = .java g0 :: r from hr)] at h
  exact h

end Raw
/-- the long[55296] at w holds f -/
def own_AF (Z : State) (h : Heap) (w : Addr) (f : Nat → Int64) : Prop := ∃ cl : Cell, Arr Z h w cl .long ∧ cl.slots.size = 55296 ∧ ∀ i, i < 55296 → cl.slots[i]? = some (.long (f i))
theorem own_AF.ext {Z : State} {h h' : Heap} {w : Addr} {f : Nat → Int64} (I : own_AF Z h w f) (E : Ext h h') : own_AF Z h' w f := by obtain ⟨cl, A, r⟩ := I; exact ⟨cl, A.ext E, r⟩
theorem own_AF.other {Z : State} {h h' : Heap} {w b : Addr} {f : Nat → Int64} {sl : Nat} {v : Value} (I : own_AF Z h w f) (W : Wr h h' b sl v) (q : w ≠ b) : own_AF Z h' w f := by obtain ⟨cl, A, r⟩ := I; exact ⟨cl, A.other W q, r⟩
theorem own_AF.keep {Z : State} {h h' : Heap} {w : Addr} {f : Nat → Int64} {ws : List Addr} (I : own_AF Z h w f) (K : Keep h h' ws) (q : w ∉ ws) : own_AF Z h' w f := by obtain ⟨cl, A, r⟩ := I; exact ⟨cl, ⟨K.2.1 _ _ A.1 q, A.2⟩, r⟩
theorem own_AF.lt {Z : State} {h : Heap} {w : Addr} {f : Nat → Int64} (I : own_AF Z h w f) : w < h.size := by obtain ⟨cl, A, r⟩ := I; exact A.lt
theorem own_AF.new {Z : State} {h : Heap} {w : Addr} {k : ClassId} (A : Arr Z h w (newA k .long (55296 : Int32)) .long) : own_AF Z h w (fun _ => 0) := by
  obtain ⟨cl, A', -, S, -, H, -⟩ := Arv.new A (by decide)
  have S' : cl.slots.size = 55296 := S
  exact ⟨cl, A', S', fun i hi => H i (by omega)⟩
theorem own_clamp (j : Int32) (n : Nat) (h : j.toInt = n) : j.toNatClampNeg = n := by
  show j.toInt.toNat = n
  omega
theorem own_inb {cl : Cell} {j : Int32} {n : Nat} (S : cl.slots.size = 55296) (h : j.toInt = n) (hn : n < 55296) : ¬ (j < 0 ∨ cl.slots.size ≤ j.toNatClampNeg) := by
  rw [own_clamp j n h, S, Int32.lt_iff_toInt_lt]
  have h0 : (0 : Int32).toInt = 0 := rfl
  omega
def own_upd (f : Nat → Int64) (n : Nat) (v : Int64) : Nat → Int64 := fun i => if i = n then v else f i
theorem own_AF.set {Z : State} {h h' : Heap} {w : Addr} {f : Nat → Int64} {cl : Cell} {j : Int32} {n : Nat} {v : Int64} (A : Arr Z h w cl .long) (S : cl.slots.size = 55296) (H : ∀ i, i < 55296 → cl.slots[i]? = some (.long (f i))) (hj : j.toInt = n) (hn : n < 55296) (W : Wr h h' w j.toNatClampNeg (.long v)) : own_AF Z h' w (own_upd f n v) := by
  refine ⟨_, A.same W, by rw [sz_set]; exact S, fun i hi => ?_⟩
  rw [own_clamp j n hj]
  unfold own_upd Cell.setSlot
  by_cases q : i = n
  · subst q; simp [S, hn]
  · rw [if_neg q]; simp [Array.getElem?_setIfInBounds, Ne.symm q]; exact H i hi
theorem own_AF.congr {Z : State} {h : Heap} {w : Addr} {f g : Nat → Int64} (I : own_AF Z h w f) (e : ∀ i, i < 55296 → f i = g i) : own_AF Z h w g := by
  obtain ⟨cl, A, S, H⟩ := I
  exact ⟨cl, A, S, fun i hi => by rw [← e i hi]; exact H i hi⟩
def own_S (f : Nat → Int64) : Nat → Int64
  | 0 => f 0
  | n + 1 => own_S f n + f (n + 1)
/-- q is the first place where the running sum is r or more -/
def own_first (f : Nat → Int64) (r : Int64) (q : Nat) : Prop := q < 55296 ∧ (∀ n, n < q → own_S f n < r) ∧ ¬ own_S f q < r
theorem own_succ (j : Int32) (n : Nat) (h : j.toInt = n) (hn : n < 55296) : (j + (1 : Int32)).toInt = ((n + 1 : Nat) : Int) := by
  rw [Int32.toInt_add, h, show (1 : Int32).toInt = 1 from rfl, Int.bmod_eq_of_le (by omega) (by omega)]
  omega
theorem own_sta2 {Z : State} {h h' : Heap} {C n d K0 : String} {v : Value} {a w : Addr} {f : Nat → Int64} (S : Sta Z h C n d v) (K : Keep h h' [a, w]) (E : Exa Z h a K0) (A : own_AF Z h w f) : Sta Z h' C n d v := by
  obtain ⟨cf, i, k, fl, st, cell, h1, h2, h3, h4, h5, h6, h7⟩ := S
  obtain ⟨c', k', g1, -, -, g4, -⟩ := E
  obtain ⟨cl, ⟨A1, A2, -⟩, -⟩ := A
  have ne : st ≠ a := fun q => by subst q; cases h5.symm.trans g1; rw [g4] at h6; cases h6
  have ne2 : st ≠ w := fun q => by
    subst q
    cases h5.symm.trans A1
    cases hv : cell.vm <;> rw [hv] at h6 <;> first | exact A2.1 _ hv | cases h6
  exact ⟨cf, i, k, fl, st, cell, h1, h2, h3, h4, K.2.1 _ _ h5 (ninS ne (ninS ne2 nin0)), h6, h7⟩
section OwnDbl
variable {p : Program} {l : Launch} {e : Env} {R : Room} {s : State} {m : MethodId} {args : Array Value} {below : List Frame} {meth : Method} {c : Code} {T : State} {locs : List Loc} {cells slots : Nat} {F : Option Value → State → Prop} {bs : ByteArray} {pc pc' : Nat} {Ls : Array Slot} {st : List Value}
theorem own_l2d (X : Stand p l e R s m args below meth c T locs cells slots) (hx : p.tables.exec = Jvm.exec) (hby : c.code = bs) {x : Int64} {y : UInt64} (hy : FP.l2d x = y) (hd : decode bs pc = .ok (.l2d, 1)) (hp : pc + 1 = pc') (h : own_End p e below F (T.setTop (mkF m pc' Ls (.double y :: st)))) : own_End p e below F (T.setTop (mkF m pc Ls (.long x :: st))) := by
  subst hp hy; exact own_step (fun t q => by unfold mkF at q ⊢; jvm_step X.here [X.here.top, hx, hb hby hd]; exact q) h
theorem own_d2l (X : Stand p l e R s m args below meth c T locs cells slots) (hx : p.tables.exec = Jvm.exec) (hby : c.code = bs) {x : UInt64} {y : Int64} (hy : FP.d2l x = y) (hd : decode bs pc = .ok (.d2l, 1)) (hp : pc + 1 = pc') (h : own_End p e below F (T.setTop (mkF m pc' Ls (.long y :: st)))) : own_End p e below F (T.setTop (mkF m pc Ls (.double x :: st))) := by
  subst hp hy; exact own_step (fun t q => by unfold mkF at q ⊢; jvm_step X.here [X.here.top, hx, hb hby hd]; exact q) h
theorem own_dmul (X : Stand p l e R s m args below meth c T locs cells slots) (hx : p.tables.exec = Jvm.exec) (hby : c.code = bs) {x y z : UInt64} (hz : FP.dmul x y = z) (hn : z &&& 0x7fffffffffffffff ≤ 0x7ff0000000000000) (hd : decode bs pc = .ok (.dmul, 1)) (hp : pc + 1 = pc') (h : own_End p e below F (T.setTop (mkF m pc' Ls (.double z :: st)))) : own_End p e below F (T.setTop (mkF m pc Ls (.double y :: .double x :: st))) := by
  subst hp hz; exact own_step (fun t q => by unfold mkF at q ⊢; jvm_step X.here [X.here.top, hx, hb hby hd, Op.dmul.at_number X.here.top hn]; exact q) h
theorem own_ddiv (X : Stand p l e R s m args below meth c T locs cells slots) (hx : p.tables.exec = Jvm.exec) (hby : c.code = bs) {x y z : UInt64} (hz : FP.ddiv x y = z) (hn : z &&& 0x7fffffffffffffff ≤ 0x7ff0000000000000) (hd : decode bs pc = .ok (.ddiv, 1)) (hp : pc + 1 = pc') (h : own_End p e below F (T.setTop (mkF m pc' Ls (.double z :: st)))) : own_End p e below F (T.setTop (mkF m pc Ls (.double y :: .double x :: st))) := by
  subst hp hz; exact own_step (fun t q => by unfold mkF at q ⊢; jvm_step X.here [X.here.top, hx, hb hby hd, Op.ddiv.at_number X.here.top hn]; exact q) h
theorem own_dload1 (X : Stand p l e R s m args below meth c T locs cells slots) (hx : p.tables.exec = Jvm.exec) (hby : c.code = bs) {x : UInt64} (hl : Ls[1]? = some (.val (.double x))) (hd : decode bs pc = .ok (.dload_n 1, 1)) (hp : pc + 1 = pc') (h : own_End p e below F (T.setTop (mkF m pc' Ls (.double x :: st)))) : own_End p e below F (T.setTop (mkF m pc Ls st)) := by
  subst hp; exact own_step (fun t q => by unfold mkF at q ⊢; jvm_step X.here [X.here.top, hx, hb hby hd, hl]; exact q) h
theorem own_dup2 (X : Stand p l e R s m args below meth c T locs cells slots) (hx : p.tables.exec = Jvm.exec) (hby : c.code = bs) {x : Int32} {a : Addr} (hd : decode bs pc = .ok (.dup2, 1)) (hp : pc + 1 = pc') (h : own_End p e below F (T.setTop (mkF m pc' Ls (.int x :: .ref a :: .int x :: .ref a :: st)))) : own_End p e below F (T.setTop (mkF m pc Ls (.int x :: .ref a :: st))) := by
  subst hp; exact own_step (fun t q => by unfold mkF at q ⊢; jvm_step X.here [X.here.top, hx, hb hby hd, Value.category]; exact q) h
end OwnDbl
def own_LH (Z : State) (h : Heap) (a : Addr) (v0 : Value) (v1 : Int64) : Prop := Exa Z h a "com/example/earnest_reactor/earnestreactor/cli/LatencyHistogram" ∧ Fld Z h a "com/example/earnest_reactor/earnestreactor/cli/LatencyHistogram" "counts" "[J" v0 ∧ Fld Z h a "com/example/earnest_reactor/earnestreactor/cli/LatencyHistogram" "total" "J" (.long v1)
theorem own_LH.ext {Z : State} {h h' : Heap} {a : Addr} {v0 : Value} {v1 : Int64} (O : own_LH Z h a v0 v1) (X : Ext h h') : own_LH Z h' a v0 v1 := by
  obtain ⟨E, F0, F1⟩ := O
  exact ⟨E.ext X, F0.ext X, F1.ext X⟩
theorem own_LH.keep {Z : State} {h h' : Heap} {a : Addr} {v0 : Value} {v1 : Int64} (O : own_LH Z h a v0 v1) {ws : List Addr} (K : Keep h h' ws) (q : a ∉ ws) : own_LH Z h' a v0 v1 := by
  obtain ⟨E, F0, F1⟩ := O
  exact ⟨E.keep K, F0.keep K q, F1.keep K q⟩
theorem own_LH.other {Z : State} {h h' : Heap} {a : Addr} {v0 : Value} {v1 : Int64} (O : own_LH Z h a v0 v1) {b : Addr} {sl : Nat} {v : Value} (W : Wr h h' b sl v) (q : a ≠ b) : own_LH Z h' a v0 v1 := by
  obtain ⟨E, F0, F1⟩ := O
  exact ⟨E.wr W, F0.other W (Or.inl q), F1.other W (Or.inl q)⟩
theorem own_LH.lt {Z : State} {h : Heap} {a : Addr} {v0 : Value} {v1 : Int64} (O : own_LH Z h a v0 v1) : a < h.size := by
  obtain ⟨E, F0, F1⟩ := O
  exact E.lt
def own_RK (p : UInt64) (t r : Int64) : Prop := (t = (1 : Int64) ∧ p = (4636737291354636288 : UInt64) ∧ r = (1 : Int64)) ∨ (t = (1 : Int64) ∧ p = (4632233691727265792 : UInt64) ∧ r = (1 : Int64)) ∨ (t = (2 : Int64) ∧ p = (4636737291354636288 : UInt64) ∧ r = (2 : Int64)) ∨ (t = (2 : Int64) ∧ p = (4632233691727265792 : UInt64) ∧ r = (1 : Int64))
theorem own_RK0 {p : UInt64} {t r : Int64} (h : own_RK p t r) : ¬ t = (0 : Int64) := by
  rcases h with ⟨rfl, -, -⟩ | ⟨rfl, -, -⟩ | ⟨rfl, -, -⟩ | ⟨rfl, -, -⟩ <;> decide
theorem own_ef_rm6z (m : MethodId) (a : Addr) (pp : UInt64)  : entryFrame m #[(.ref a), (.double pp)] 8 = mkF m 0 #[.val (.ref a), .val (.double pp), .second, .unset, .unset, .unset, .unset, .unset] [] := by first | (simp [entryFrame, mkF, argsToLocals, Value.category]; done) | rfl
def Q6z (Z : State) (a : Addr) (w : Addr) (pp : UInt64) (h0 : Heap) (n0 : Nat) (v : Option Value) (h : Heap) (L : List Loc) : Prop := v = some (.long 0) ∧ Fr n0 L ∧ h = h0
set_option maxRecDepth 65536 in
set_option maxHeartbeats 40000000 in
theorem rm6z (l : Launch) (Z : State) (a0 : Array Value) (hw : ∀ d ∈ tables_1, d.before a0 Z = true) (ws : List Jvm.Cond) (a : Addr) (w : Addr) (pp : UInt64) (h0 : Heap) (n0 : Nat) (Z0 : n0 ≤ h0.size) (f_O_a : own_LH Z h0 a (.ref w) (0 : Int64)) :
    MetFree l (⟨"com/example/earnest_reactor/earnestreactor/cli/LatencyHistogram", "percentile", "(D)J"⟩ : MethodName) (head1 (Jvm.Cond.code (⟨"com/example/earnest_reactor/earnestreactor/cli/LatencyHistogram", "percentile", "(D)J"⟩ : MethodName) prog_2_method_4_code 8 (some .long) :: ws) ({ frames := 0, cells := 0, slots := 0, locals := 0 } : Room)) (fun aa U => aa = #[(.ref a), (.double pp)] ∧ Z.Warmed39 U.vm ∧ U.heap = h0) (fun _ _ _ _ _ => True) (fun _ U oc U' => ∃ v L, oc = .returned v ∧ Q6z Z a w pp h0 n0 v U'.heap L ∧ FrameEnd U oc U' L ({ frames := 0, cells := 0, slots := 0, locals := 0 } : Room).cells ({ frames := 0, cells := 0, slots := 0, locals := 0 } : Room).slots) := by
  refine MetFree.of_bodySF (plainFor_of_name own_pn4) hisR ?_
  intro p e s m args below meth c s₁ Bd hml0 hP hK
  obtain ⟨rfl, hZ, hh⟩ := hP
  have hx := Bd.exec
  have hby := Bd.bytes
  have hlk := Bd.notSynchronized
  have hret := Bd.returns
  have hml : c.maxLocals = 8 := hml0
  have hown : s.vm.findClass "com/example/earnest_reactor/earnestreactor/cli/LatencyHistogram" = some m.cls := findClass_of_methodNamed Bd.named
  have hnm := (name_of_methodNamed Bd.named Bd.method).1
  have X0 : Stand p l e ({ frames := 0, cells := 0, slots := 0, locals := 0 } : Room) s m #[(.ref a), (.double pp)] below meth c s₁ [] 0 0 := Stand.of_body Bd
  have e0 : s₁.heap = h0 := by rw [← hh, Bd.state]; rfl
  have N0 := Fr.nil n0
  refine own_body (Q := Q6z Z a w pp h0 n0) (KC := ({ frames := 0, cells := 0, slots := 0, locals := 0 } : Room).cells) (KS := ({ frames := 0, cells := 0, slots := 0, locals := 0 } : Room).slots) ?_
  rw [own_ef_rm6z m a pp]
  refine own_aloadN X0 hx hby d6_0 (pc' := 1) rfl rfl rfl ?_
  obtain ⟨f_E_a, f_F_a_counts, f_F_a_total⟩ := f_O_a
  refine own_getF X0 hx hZ hby hown (host := "") (Or.inl (wd_33 hw)) Via.refl e0 f_F_a_total d6_1 (pc' := 4) rfl (fun T1 X1 e1 => ?_)
  refine own_lconst X1 hx hby d6_4 (pc' := 5) rfl (n := (0 : Int64)) (by decide) ?_
  refine own_lcmp X1 hx hby d6_5 (pc' := 6) rfl ?_
  refine own_ifN X1 hx hby d6_6 (pc' := 9) rfl (own_ctL_n (show (0 : Int64) = (0 : Int64) by decide)) ?_
  refine own_lconst X1 hx hby d6_9 (pc' := 10) rfl (n := (0 : Int64)) (by decide) ?_
  refine own_lreturn X1 hx hlk hby hret d6_10 (own_lv ?_ (by decide) (by decide))
  show Q6z Z a w pp  h0 n0 (some (.long (0 : Int64))) T1.heap _
  rw [e1]
  exact ⟨rfl, N0, rfl⟩
theorem own_ef_rm6 (m : MethodId) (a : Addr) (pp : UInt64)  : entryFrame m #[(.ref a), (.double pp)] 8 = mkF m 0 #[.val (.ref a), .val (.double pp), .second, .unset, .unset, .unset, .unset, .unset] [] := by first | (simp [entryFrame, mkF, argsToLocals, Value.category]; done) | rfl
def Q6 (Z : State) (a : Addr) (w : Addr) (pp : UInt64) (t : Int64) (r : Int64) (f : Nat → Int64) (q : Nat) (qi : Int32) (h0 : Heap) (n0 : Nat) (v : Option Value) (h : Heap) (L : List Loc) : Prop := v = some (.long (own_low qi)) ∧ Fr n0 L ∧ h = h0
set_option maxRecDepth 65536 in
set_option maxHeartbeats 40000000 in
theorem own_px {p : Program} {l : Launch} {e : Env} {s : State} {m : MethodId} {below : List Frame} {meth : Method} {c : Code} {T0 : State} {locs : List Loc} (Z : State) (a0 : Array Value) (hw : ∀ d ∈ tables_1, d.before a0 Z = true) (a : Addr) (w : Addr) (pp : UInt64) (t : Int64) (r : Int64) (f : Nat → Int64) (q : Nat) (qi : Int32) (j : Int32) (sm : Int64) (h0 : Heap) (n0 : Nat) (h1 : Heap)
    (X0 : Stand p l e ({ frames := 7, cells := 0, slots := 0, locals := 100 } : Room) s m #[(.ref a), (.double pp)] below meth c T0 locs 0 0) (hx : p.tables.exec = Jvm.exec) (hby : c.code = prog_2_method_4_code) (hlk : meth.locks = false) (hml : c.maxLocals = 8) (hown : s.vm.findClass "com/example/earnest_reactor/earnestreactor/cli/LatencyHistogram" = some m.cls) (hret : meth.sig.returnType = some .long) (hZ : Z.Warmed39 s.vm) (e1 : T0.heap = h1) (N0 : Fr n0 locs) (Z1 : n0 ≤ h1.size) (f_O_a : own_LH Z h1 a (.ref w) t) (f_AF_w : own_AF Z h1 w f) (hh1 : h1 = h0) (hq : own_first f r q) (hqi : qi.toInt = q) (hj : qi = j) (hs : ¬ sm < r) :
    own_End p e below (own_F s (Q6 Z a w pp t r f q qi h0 n0) ({ frames := 7, cells := 0, slots := 0, locals := 100 } : Room).cells ({ frames := 7, cells := 0, slots := 0, locals := 100 } : Room).slots) (T0.setTop (mkF m 42 #[.val (.ref a), .val (.double pp), .second, .val (.long r), .second, .val (.int j), .val (.long sm), .second] [])) := by
  refine own_lload X0 hx hby d6_42 (pc' := 44) rfl rfl ?_
  refine own_lloadN X0 hx hby d6_44 (pc' := 45) rfl rfl ?_
  refine own_lcmp X0 hx hby d6_45 (pc' := 46) rfl ?_
  refine own_ifY X0 hx hby d6_46 (pc' := 67) (by decide) (by decide) (own_ctL_y (show ¬ sm < r from hs)) ?_
  subst hj
  show own_End p e below _ (T0.setTop (mkF m 67 #[.val (.ref a), .val (.double pp), .second, .val (.long r), .second, .val (.int qi), .val (.long sm), .second] []))
  refine own_iload X0 hx hby d6_67 (pc' := 69) rfl rfl ?_
  refine own_lk2 hw X0 hx hZ hby (by rw [hml]; rfl) hown d6_69 (pc' := 72) rfl e1 (W := 0) (Nat.le_of_eq rfl) (rm14 l Z a0 hw [] qi h1 n0 Z1 ) (by decide) (by decide) (by decide) (by decide) (fun v1 T1 L1 X1 hQ1 => ?_)
  obtain ⟨rfl, Nq1, e1⟩ := hQ1
  have N1 := Fr.app N0 Nq1
  show own_End p e below _ (T1.setTop (mkF m 72 _ [(.long (own_low qi))]))
  refine own_lreturn X1 hx hlk hby hret d6_72 (own_lv ?_ (by decide) (by decide))
  show Q6 Z a w pp t r f q qi  h0 n0 (some (.long (own_low qi))) T1.heap _
  rw [e1]
  exact ⟨rfl, N1, hh1⟩
set_option maxRecDepth 65536 in
set_option maxHeartbeats 40000000 in
theorem own_pt {p : Program} {l : Launch} {e : Env} {s : State} {m : MethodId} {below : List Frame} {meth : Method} {c : Code} {T0 : State} {locs : List Loc} (Z : State) (a0 : Array Value) (hw : ∀ d ∈ tables_1, d.before a0 Z = true) (a : Addr) (w : Addr) (pp : UInt64) (t : Int64) (r : Int64) (f : Nat → Int64) (q : Nat) (qi : Int32) (j : Int32) (sm : Int64) (n : Nat) (h0 : Heap) (n0 : Nat) (h1 : Heap)
    (X0 : Stand p l e ({ frames := 7, cells := 0, slots := 0, locals := 100 } : Room) s m #[(.ref a), (.double pp)] below meth c T0 locs 0 0) (hx : p.tables.exec = Jvm.exec) (hby : c.code = prog_2_method_4_code) (hlk : meth.locks = false) (hml : c.maxLocals = 8) (hown : s.vm.findClass "com/example/earnest_reactor/earnestreactor/cli/LatencyHistogram" = some m.cls) (hret : meth.sig.returnType = some .long) (hZ : Z.Warmed39 s.vm) (e1 : T0.heap = h1) (N0 : Fr n0 locs) (Z1 : n0 ≤ h1.size) (f_O_a : own_LH Z h1 a (.ref w) t) (f_AF_w : own_AF Z h1 w f) (hh1 : h1 = h0) (hq : own_first f r q) (hqi : qi.toInt = q) (hj : j.toInt = n) (hn : n + 1 < 55296) (hs : sm < r) (kk : ∀ T', Stand p l e ({ frames := 7, cells := 0, slots := 0, locals := 100 } : Room) s m #[.ref a, .double pp] below meth c T' locs 0 0 → T'.heap = h1 → own_End p e below (own_F s (Q6 Z a w pp t r f q qi h0 n0) ({ frames := 7, cells := 0, slots := 0, locals := 100 } : Room).cells ({ frames := 7, cells := 0, slots := 0, locals := 100 } : Room).slots) (T'.setTop (mkF m 42 #[.val (.ref a), .val (.double pp), .second, .val (.long r), .second, .val (.int (j + (1 : Int32))), .val (.long (sm + f (n + 1))), .second] []))) :
    own_End p e below (own_F s (Q6 Z a w pp t r f q qi h0 n0) ({ frames := 7, cells := 0, slots := 0, locals := 100 } : Room).cells ({ frames := 7, cells := 0, slots := 0, locals := 100 } : Room).slots) (T0.setTop (mkF m 42 #[.val (.ref a), .val (.double pp), .second, .val (.long r), .second, .val (.int j), .val (.long sm), .second] [])) := by
  refine own_lload X0 hx hby d6_42 (pc' := 44) rfl rfl ?_
  refine own_lloadN X0 hx hby d6_44 (pc' := 45) rfl rfl ?_
  refine own_lcmp X0 hx hby d6_45 (pc' := 46) rfl ?_
  refine own_ifN X0 hx hby d6_46 (pc' := 49) rfl (own_ctL_n (show sm < r from hs)) ?_
  refine own_iinc X0 hx hby d6_49 (pc' := 52) rfl rfl (y := (j + (1 : Int32))) rfl (l' := #[.val (.ref a), .val (.double pp), .second, .val (.long r), .second, .val (.int (j + (1 : Int32))), .val (.long sm), .second]) rfl ?_
  refine own_lload X0 hx hby d6_52 (pc' := 54) rfl rfl ?_
  refine own_aloadN X0 hx hby d6_54 (pc' := 55) rfl rfl rfl ?_
  obtain ⟨f_E_a, f_F_a_counts, f_F_a_total⟩ := f_O_a
  refine own_getF X0 hx hZ hby hown (host := "") (Or.inl (wd_25 hw)) Via.refl e1 f_F_a_counts d6_55 (pc' := 58) rfl (fun T2 X2 e2 => ?_)
  refine own_iload X2 hx hby d6_58 (pc' := 60) rfl rfl ?_
  obtain ⟨cl3, Ar3, S3, H3⟩ := id f_AF_w
  refine own_laload X2 hx hZ hby e2 Ar3 (own_inb (n := (n + 1)) S3 (own_succ j n hj (by omega)) hn) (by rw [own_clamp _ ((n + 1)) (own_succ j n hj (by omega))]; exact H3 _ hn) d6_60 (pc' := 61) rfl ?_
  show own_End p e below _ (T2.setTop (mkF m 61 #[.val (.ref a), .val (.double pp), .second, .val (.long r), .second, .val (.int (j + (1 : Int32))), .val (.long sm), .second] [(.long (f (n + 1))), (.long sm)]))
  refine own_ladd X2 hx hby d6_61 (pc' := 62) rfl ?_
  refine own_lstore X2 hx hby d6_62 (pc' := 64) rfl (l' := #[.val (.ref a), .val (.double pp), .second, .val (.long r), .second, .val (.int (j + (1 : Int32))), .val (.long (sm + (f (n + 1)))), .second]) rfl ?_
  refine own_goto X2 hx hby d6_64 (pc' := 42) (by decide) (by decide) ?_
  exact kk _ X2 e2
set_option maxRecDepth 65536 in
theorem own_ploop {p : Program} {l : Launch} {e : Env} {s : State} {m : MethodId} {below : List Frame} {meth : Method} {c : Code} {locs : List Loc} (Z : State) (a0 : Array Value) (hw : ∀ d ∈ tables_1, d.before a0 Z = true) (a w : Addr) (pp : UInt64) (t r : Int64) (f : Nat → Int64) (q : Nat) (qi : Int32) (h0 : Heap) (n0 : Nat) (h1 : Heap)
    (hx : p.tables.exec = Jvm.exec) (hby : c.code = prog_2_method_4_code) (hlk : meth.locks = false) (hml : c.maxLocals = 8) (hown : s.vm.findClass "com/example/earnest_reactor/earnestreactor/cli/LatencyHistogram" = some m.cls) (hret : meth.sig.returnType = some .long) (hZ : Z.Warmed39 s.vm) (N0 : Fr n0 locs) (Z1 : n0 ≤ h1.size) (FO : own_LH Z h1 a (.ref w) t) (FA : own_AF Z h1 w f) (hh1 : h1 = h0) (hq : own_first f r q) (hqi : qi.toInt = q) :
    ∀ (d n : Nat) (j : Int32) (T0 : State), n + d = q → j.toInt = n → Stand p l e ({ frames := 7, cells := 0, slots := 0, locals := 100 } : Room) s m #[.ref a, .double pp] below meth c T0 locs 0 0 → T0.heap = h1 → own_End p e below (own_F s (Q6 Z a w pp t r f q qi h0 n0) ({ frames := 7, cells := 0, slots := 0, locals := 100 } : Room).cells ({ frames := 7, cells := 0, slots := 0, locals := 100 } : Room).slots) (T0.setTop (mkF m 42 #[.val (.ref a), .val (.double pp), .second, .val (.long r), .second, .val (.int j), .val (.long (own_S f n)), .second] [])) := by
  intro d
  induction d with
  | zero =>
    intro n j T0 hnd hj X0 e1
    have hnq : n = q := by omega
    subst hnq
    exact own_px Z a0 hw a w pp t r f n qi j (own_S f n) h0 n0 h1 X0 hx hby hlk hml hown hret hZ e1 N0 Z1 FO FA hh1 hq hqi (Int32.toInt_inj.mp (by rw [hqi, hj])) hq.2.2
  | succ d ih =>
    intro n j T0 hnd hj X0 e1
    have hlt := hq.1
    exact own_pt Z a0 hw a w pp t r f q qi j (own_S f n) n h0 n0 h1 X0 hx hby hlk hml hown hret hZ e1 N0 Z1 FO FA hh1 hq hqi hj (by omega) (hq.2.1 n (by omega)) (fun T' X' e' => ih (n + 1) _ T' (by omega) (own_succ j n hj (by omega)) X' e')
set_option maxRecDepth 65536 in
set_option maxHeartbeats 40000000 in
theorem rm6 (l : Launch) (Z : State) (a0 : Array Value) (hw : ∀ d ∈ tables_1, d.before a0 Z = true) (ws : List Jvm.Cond) (a : Addr) (w : Addr) (pp : UInt64) (t : Int64) (r : Int64) (f : Nat → Int64) (q : Nat) (qi : Int32) (h0 : Heap) (n0 : Nat) (Z0 : n0 ≤ h0.size) (f_O_a : own_LH Z h0 a (.ref w) t) (f_AF_w : own_AF Z h0 w f) (f_S_java_lang_StrictMath__assertionsDisabled : Sta Z h0 "java/lang/StrictMath" "$assertionsDisabled" "Z" (.int (1 : Int32))) (hr : own_RK pp t r) (hq : own_first f r q) (hqi : qi.toInt = q) :
    MetFree l (⟨"com/example/earnest_reactor/earnestreactor/cli/LatencyHistogram", "percentile", "(D)J"⟩ : MethodName) (head1 (Jvm.Cond.code (⟨"com/example/earnest_reactor/earnestreactor/cli/LatencyHistogram", "percentile", "(D)J"⟩ : MethodName) prog_2_method_4_code 8 (some .long) :: ws) ({ frames := 7, cells := 0, slots := 0, locals := 100 } : Room)) (fun aa U => aa = #[(.ref a), (.double pp)] ∧ Z.Warmed39 U.vm ∧ U.heap = h0) (fun _ _ _ _ _ => True) (fun _ U oc U' => ∃ v L, oc = .returned v ∧ Q6 Z a w pp t r f q qi h0 n0 v U'.heap L ∧ FrameEnd U oc U' L ({ frames := 7, cells := 0, slots := 0, locals := 100 } : Room).cells ({ frames := 7, cells := 0, slots := 0, locals := 100 } : Room).slots) := by
  refine MetFree.of_bodySF (plainFor_of_name own_pn4) hisR ?_
  intro p e s m args below meth c s₁ Bd hml0 hP hK
  obtain ⟨rfl, hZ, hh⟩ := hP
  have hx := Bd.exec
  have hby := Bd.bytes
  have hlk := Bd.notSynchronized
  have hret := Bd.returns
  have hml : c.maxLocals = 8 := hml0
  have hown : s.vm.findClass "com/example/earnest_reactor/earnestreactor/cli/LatencyHistogram" = some m.cls := findClass_of_methodNamed Bd.named
  have hnm := (name_of_methodNamed Bd.named Bd.method).1
  have X0 : Stand p l e ({ frames := 7, cells := 0, slots := 0, locals := 100 } : Room) s m #[(.ref a), (.double pp)] below meth c s₁ [] 0 0 := Stand.of_body Bd
  have e0 : s₁.heap = h0 := by rw [← hh, Bd.state]; rfl
  have N0 := Fr.nil n0
  refine own_body (Q := Q6 Z a w pp t r f q qi h0 n0) (KC := ({ frames := 7, cells := 0, slots := 0, locals := 100 } : Room).cells) (KS := ({ frames := 7, cells := 0, slots := 0, locals := 100 } : Room).slots) ?_
  rw [own_ef_rm6 m a pp]
  refine own_aloadN X0 hx hby d6_0 (pc' := 1) rfl rfl rfl ?_
  obtain ⟨f_E_a, f_F_a_counts, f_F_a_total⟩ := f_O_a
  refine own_getF X0 hx hZ hby hown (host := "") (Or.inl (wd_33 hw)) Via.refl e0 f_F_a_total d6_1 (pc' := 4) rfl (fun T4 X4 e4 => ?_)
  refine own_lconst X4 hx hby d6_4 (pc' := 5) rfl (n := (0 : Int64)) (by decide) ?_
  refine own_lcmp X4 hx hby d6_5 (pc' := 6) rfl ?_
  refine own_ifY X4 hx hby d6_6 (pc' := 11) (by decide) (by decide) (own_ctL_y (show ¬ t = (0 : Int64) from (own_RK0 hr))) ?_
  have f_O_a : own_LH Z h0 a (.ref w) t := ⟨f_E_a, f_F_a_counts, f_F_a_total⟩
  rcases hr with ⟨rfl, rfl, rfl⟩ | ⟨rfl, rfl, rfl⟩ | ⟨rfl, rfl, rfl⟩ | ⟨rfl, rfl, rfl⟩
  · show own_End p e below _ (T4.setTop (mkF m 11 #[.val (.ref a), .val (.double (4636737291354636288 : UInt64)), .second, .unset, .unset, .unset, .unset, .unset] []))
    refine own_lconst X4 hx hby d6_11 (pc' := 12) rfl (n := (1 : Int64)) (by decide) ?_
    refine own_aloadN X4 hx hby d6_12 (pc' := 13) rfl rfl rfl ?_
    obtain ⟨f_E_a, f_F_a_counts, f_F_a_total⟩ := f_O_a
    refine own_getF X4 hx hZ hby hown (host := "") (Or.inl (wd_33 hw)) Via.refl e4 f_F_a_total d6_13 (pc' := 16) rfl (fun T5 X5 e5 => ?_)
    refine own_l2d X5 hx hby (y := (4607182418800017408 : UInt64)) (by decide +kernel) d6_16 (pc' := 17) rfl ?_
    refine own_dload1 X5 hx hby (x := (4636737291354636288 : UInt64)) rfl d6_17 (pc' := 18) rfl ?_
    refine own_dmul X5 hx hby (z := (4636737291354636288 : UInt64)) (by decide +kernel) (by decide) d6_18 (pc' := 19) rfl ?_
    refine own_ldc2Double X5 hx hZ hby hown (wd_46 hw) d6_19 (pc' := 22) rfl ?_
    refine own_ddiv X5 hx hby (z := (4607182418800017408 : UInt64)) (by decide +kernel) (by decide) d6_22 (pc' := 23) rfl ?_
    obtain ⟨T6, X6, e6, st6⟩ := own_ceil X5 hx hw hZ hown e5 (pc := 23) (pc' := 26) (Ls := #[.val (.ref a), .val (.double (4636737291354636288 : UInt64)), .second, .unset, .unset, .unset, .unset, .unset]) (rest := [.long (1 : Int64)]) (hb hby d6_23) rfl (by rw [hml]; rfl) (W := 2) (by decide) (by decide) (by decide) (b := (4607182418800017408 : UInt64)) (r0 := (4607182418800017408 : UInt64)) (by decide) (fun U m2 c2 meth2 g tl F K C o2 sc b2 r2 hh R hF hK => own_bFocW hw hZ X5.admits hx hh C o2 sc b2 r2 f_S_java_lang_StrictMath__assertionsDisabled (by decide) (by decide) (by decide) R hF hK)
    refine own_step st6 ?_
    refine own_d2l X6 hx hby (y := (1 : Int64)) (by decide +kernel) d6_26 (pc' := 27) rfl ?_
    show own_End p e below _ (T6.setTop (mkF m 27 #[.val (.ref a), .val (.double (4636737291354636288 : UInt64)), .second, .unset, .unset, .unset, .unset, .unset] [(.long (1 : Int64)), (.long (1 : Int64))]))
    refine own_lk3 hw X6 hx hZ hby (by rw [hml]; rfl) hown d6_27 (pc' := 30) rfl e6 (W := 0) (Nat.le_of_eq rfl) (rm13 l Z a0 hw [] (1 : Int64) (1 : Int64) h0 n0 Z0 ) (by decide) (by decide) (by decide) (by decide) (fun v7 T7 L7 X7 hQ7 => ?_)
    obtain ⟨rfl, Nq7, e7⟩ := hQ7
    have N7 := Fr.app N0 Nq7
    show own_End p e below _ (T7.setTop (mkF m 30 _ [(.long (own_max (1 : Int64) (1 : Int64)))]))
    rw [show own_max (1 : Int64) (1 : Int64) = (1 : Int64) from by decide]
    show own_End p e below _ (T7.setTop (mkF m 30 #[.val (.ref a), .val (.double (4636737291354636288 : UInt64)), .second, .unset, .unset, .unset, .unset, .unset] [(.long (1 : Int64))]))
    refine own_lstoreN X7 hx hby d6_30 (pc' := 31) rfl (l' := #[.val (.ref a), .val (.double (4636737291354636288 : UInt64)), .second, .val (.long (1 : Int64)), .second, .unset, .unset, .unset]) rfl ?_
    refine own_iconst X7 hx hby d6_31 (pc' := 32) rfl (n := (0 : Int32)) (by decide) ?_
    refine own_istore X7 hx hby d6_32 (pc' := 34) rfl (l' := #[.val (.ref a), .val (.double (4636737291354636288 : UInt64)), .second, .val (.long (1 : Int64)), .second, .val (.int (0 : Int32)), .unset, .unset]) rfl ?_
    refine own_aloadN X7 hx hby d6_34 (pc' := 35) rfl rfl rfl ?_
    refine own_getF X7 hx hZ hby hown (host := "") (Or.inl (wd_25 hw)) Via.refl e7 f_F_a_counts d6_35 (pc' := 38) rfl (fun T8 X8 e8 => ?_)
    refine own_iconst X8 hx hby d6_38 (pc' := 39) rfl (n := (0 : Int32)) (by decide) ?_
    obtain ⟨cl9, Ar9, S9, H9⟩ := id f_AF_w
    refine own_laload X8 hx hZ hby e8 Ar9 (own_inb (n := 0) S9 rfl (by decide)) (by rw [own_clamp _ (0) rfl]; exact H9 _ (by decide)) d6_39 (pc' := 40) rfl ?_
    show own_End p e below _ (T8.setTop (mkF m 40 #[.val (.ref a), .val (.double (4636737291354636288 : UInt64)), .second, .val (.long (1 : Int64)), .second, .val (.int (0 : Int32)), .unset, .unset] [(.long (f 0))]))
    refine own_lstore X8 hx hby d6_40 (pc' := 42) rfl (l' := #[.val (.ref a), .val (.double (4636737291354636288 : UInt64)), .second, .val (.long (1 : Int64)), .second, .val (.int (0 : Int32)), .val (.long (f 0)), .second]) rfl ?_
    have f_O_a : own_LH Z h0 a (.ref w) (1 : Int64) := ⟨f_E_a, f_F_a_counts, f_F_a_total⟩
    exact own_ploop Z a0 hw a w (4636737291354636288 : UInt64) (1 : Int64) (1 : Int64) f q qi h0 n0 h0 hx hby hlk hml hown hret hZ N7 Z0 f_O_a f_AF_w rfl hq hqi q 0 (0 : Int32) _ (by omega) rfl X8 e8
  · show own_End p e below _ (T4.setTop (mkF m 11 #[.val (.ref a), .val (.double (4632233691727265792 : UInt64)), .second, .unset, .unset, .unset, .unset, .unset] []))
    refine own_lconst X4 hx hby d6_11 (pc' := 12) rfl (n := (1 : Int64)) (by decide) ?_
    refine own_aloadN X4 hx hby d6_12 (pc' := 13) rfl rfl rfl ?_
    obtain ⟨f_E_a, f_F_a_counts, f_F_a_total⟩ := f_O_a
    refine own_getF X4 hx hZ hby hown (host := "") (Or.inl (wd_33 hw)) Via.refl e4 f_F_a_total d6_13 (pc' := 16) rfl (fun T10 X10 e10 => ?_)
    refine own_l2d X10 hx hby (y := (4607182418800017408 : UInt64)) (by decide +kernel) d6_16 (pc' := 17) rfl ?_
    refine own_dload1 X10 hx hby (x := (4632233691727265792 : UInt64)) rfl d6_17 (pc' := 18) rfl ?_
    refine own_dmul X10 hx hby (z := (4632233691727265792 : UInt64)) (by decide +kernel) (by decide) d6_18 (pc' := 19) rfl ?_
    refine own_ldc2Double X10 hx hZ hby hown (wd_46 hw) d6_19 (pc' := 22) rfl ?_
    refine own_ddiv X10 hx hby (z := (4602678819172646912 : UInt64)) (by decide +kernel) (by decide) d6_22 (pc' := 23) rfl ?_
    obtain ⟨T11, X11, e11, st11⟩ := own_ceil X10 hx hw hZ hown e10 (pc := 23) (pc' := 26) (Ls := #[.val (.ref a), .val (.double (4632233691727265792 : UInt64)), .second, .unset, .unset, .unset, .unset, .unset]) (rest := [.long (1 : Int64)]) (hb hby d6_23) rfl (by rw [hml]; rfl) (W := 2) (by decide) (by decide) (by decide) (b := (4602678819172646912 : UInt64)) (r0 := (4607182418800017408 : UInt64)) (by decide) (fun U m2 c2 meth2 g tl F K C o2 sc b2 r2 hh R hF hK => own_bFocH hw hZ X10.admits hx hh C o2 sc b2 r2 f_S_java_lang_StrictMath__assertionsDisabled (by decide) (by decide +kernel) (by decide +kernel) R hF hK)
    refine own_step st11 ?_
    refine own_d2l X11 hx hby (y := (1 : Int64)) (by decide +kernel) d6_26 (pc' := 27) rfl ?_
    show own_End p e below _ (T11.setTop (mkF m 27 #[.val (.ref a), .val (.double (4632233691727265792 : UInt64)), .second, .unset, .unset, .unset, .unset, .unset] [(.long (1 : Int64)), (.long (1 : Int64))]))
    refine own_lk3 hw X11 hx hZ hby (by rw [hml]; rfl) hown d6_27 (pc' := 30) rfl e11 (W := 0) (Nat.le_of_eq rfl) (rm13 l Z a0 hw [] (1 : Int64) (1 : Int64) h0 n0 Z0 ) (by decide) (by decide) (by decide) (by decide) (fun v12 T12 L12 X12 hQ12 => ?_)
    obtain ⟨rfl, Nq12, e12⟩ := hQ12
    have N12 := Fr.app N0 Nq12
    show own_End p e below _ (T12.setTop (mkF m 30 _ [(.long (own_max (1 : Int64) (1 : Int64)))]))
    rw [show own_max (1 : Int64) (1 : Int64) = (1 : Int64) from by decide]
    show own_End p e below _ (T12.setTop (mkF m 30 #[.val (.ref a), .val (.double (4632233691727265792 : UInt64)), .second, .unset, .unset, .unset, .unset, .unset] [(.long (1 : Int64))]))
    refine own_lstoreN X12 hx hby d6_30 (pc' := 31) rfl (l' := #[.val (.ref a), .val (.double (4632233691727265792 : UInt64)), .second, .val (.long (1 : Int64)), .second, .unset, .unset, .unset]) rfl ?_
    refine own_iconst X12 hx hby d6_31 (pc' := 32) rfl (n := (0 : Int32)) (by decide) ?_
    refine own_istore X12 hx hby d6_32 (pc' := 34) rfl (l' := #[.val (.ref a), .val (.double (4632233691727265792 : UInt64)), .second, .val (.long (1 : Int64)), .second, .val (.int (0 : Int32)), .unset, .unset]) rfl ?_
    refine own_aloadN X12 hx hby d6_34 (pc' := 35) rfl rfl rfl ?_
    refine own_getF X12 hx hZ hby hown (host := "") (Or.inl (wd_25 hw)) Via.refl e12 f_F_a_counts d6_35 (pc' := 38) rfl (fun T13 X13 e13 => ?_)
    refine own_iconst X13 hx hby d6_38 (pc' := 39) rfl (n := (0 : Int32)) (by decide) ?_
    obtain ⟨cl14, Ar14, S14, H14⟩ := id f_AF_w
    refine own_laload X13 hx hZ hby e13 Ar14 (own_inb (n := 0) S14 rfl (by decide)) (by rw [own_clamp _ (0) rfl]; exact H14 _ (by decide)) d6_39 (pc' := 40) rfl ?_
    show own_End p e below _ (T13.setTop (mkF m 40 #[.val (.ref a), .val (.double (4632233691727265792 : UInt64)), .second, .val (.long (1 : Int64)), .second, .val (.int (0 : Int32)), .unset, .unset] [(.long (f 0))]))
    refine own_lstore X13 hx hby d6_40 (pc' := 42) rfl (l' := #[.val (.ref a), .val (.double (4632233691727265792 : UInt64)), .second, .val (.long (1 : Int64)), .second, .val (.int (0 : Int32)), .val (.long (f 0)), .second]) rfl ?_
    have f_O_a : own_LH Z h0 a (.ref w) (1 : Int64) := ⟨f_E_a, f_F_a_counts, f_F_a_total⟩
    exact own_ploop Z a0 hw a w (4632233691727265792 : UInt64) (1 : Int64) (1 : Int64) f q qi h0 n0 h0 hx hby hlk hml hown hret hZ N12 Z0 f_O_a f_AF_w rfl hq hqi q 0 (0 : Int32) _ (by omega) rfl X13 e13
  · show own_End p e below _ (T4.setTop (mkF m 11 #[.val (.ref a), .val (.double (4636737291354636288 : UInt64)), .second, .unset, .unset, .unset, .unset, .unset] []))
    refine own_lconst X4 hx hby d6_11 (pc' := 12) rfl (n := (1 : Int64)) (by decide) ?_
    refine own_aloadN X4 hx hby d6_12 (pc' := 13) rfl rfl rfl ?_
    obtain ⟨f_E_a, f_F_a_counts, f_F_a_total⟩ := f_O_a
    refine own_getF X4 hx hZ hby hown (host := "") (Or.inl (wd_33 hw)) Via.refl e4 f_F_a_total d6_13 (pc' := 16) rfl (fun T15 X15 e15 => ?_)
    refine own_l2d X15 hx hby (y := (4611686018427387904 : UInt64)) (by decide +kernel) d6_16 (pc' := 17) rfl ?_
    refine own_dload1 X15 hx hby (x := (4636737291354636288 : UInt64)) rfl d6_17 (pc' := 18) rfl ?_
    refine own_dmul X15 hx hby (z := (4641240890982006784 : UInt64)) (by decide +kernel) (by decide) d6_18 (pc' := 19) rfl ?_
    refine own_ldc2Double X15 hx hZ hby hown (wd_46 hw) d6_19 (pc' := 22) rfl ?_
    refine own_ddiv X15 hx hby (z := (4611686018427387904 : UInt64)) (by decide +kernel) (by decide) d6_22 (pc' := 23) rfl ?_
    obtain ⟨T16, X16, e16, st16⟩ := own_ceil X15 hx hw hZ hown e15 (pc := 23) (pc' := 26) (Ls := #[.val (.ref a), .val (.double (4636737291354636288 : UInt64)), .second, .unset, .unset, .unset, .unset, .unset]) (rest := [.long (1 : Int64)]) (hb hby d6_23) rfl (by rw [hml]; rfl) (W := 2) (by decide) (by decide) (by decide) (b := (4611686018427387904 : UInt64)) (r0 := (4611686018427387904 : UInt64)) (by decide) (fun U m2 c2 meth2 g tl F K C o2 sc b2 r2 hh R hF hK => own_bFocW hw hZ X15.admits hx hh C o2 sc b2 r2 f_S_java_lang_StrictMath__assertionsDisabled (by decide) (by decide) (by decide) R hF hK)
    refine own_step st16 ?_
    refine own_d2l X16 hx hby (y := (2 : Int64)) (by decide +kernel) d6_26 (pc' := 27) rfl ?_
    show own_End p e below _ (T16.setTop (mkF m 27 #[.val (.ref a), .val (.double (4636737291354636288 : UInt64)), .second, .unset, .unset, .unset, .unset, .unset] [(.long (2 : Int64)), (.long (1 : Int64))]))
    refine own_lk3 hw X16 hx hZ hby (by rw [hml]; rfl) hown d6_27 (pc' := 30) rfl e16 (W := 0) (Nat.le_of_eq rfl) (rm13 l Z a0 hw [] (1 : Int64) (2 : Int64) h0 n0 Z0 ) (by decide) (by decide) (by decide) (by decide) (fun v17 T17 L17 X17 hQ17 => ?_)
    obtain ⟨rfl, Nq17, e17⟩ := hQ17
    have N17 := Fr.app N0 Nq17
    show own_End p e below _ (T17.setTop (mkF m 30 _ [(.long (own_max (1 : Int64) (2 : Int64)))]))
    rw [show own_max (1 : Int64) (2 : Int64) = (2 : Int64) from by decide]
    show own_End p e below _ (T17.setTop (mkF m 30 #[.val (.ref a), .val (.double (4636737291354636288 : UInt64)), .second, .unset, .unset, .unset, .unset, .unset] [(.long (2 : Int64))]))
    refine own_lstoreN X17 hx hby d6_30 (pc' := 31) rfl (l' := #[.val (.ref a), .val (.double (4636737291354636288 : UInt64)), .second, .val (.long (2 : Int64)), .second, .unset, .unset, .unset]) rfl ?_
    refine own_iconst X17 hx hby d6_31 (pc' := 32) rfl (n := (0 : Int32)) (by decide) ?_
    refine own_istore X17 hx hby d6_32 (pc' := 34) rfl (l' := #[.val (.ref a), .val (.double (4636737291354636288 : UInt64)), .second, .val (.long (2 : Int64)), .second, .val (.int (0 : Int32)), .unset, .unset]) rfl ?_
    refine own_aloadN X17 hx hby d6_34 (pc' := 35) rfl rfl rfl ?_
    refine own_getF X17 hx hZ hby hown (host := "") (Or.inl (wd_25 hw)) Via.refl e17 f_F_a_counts d6_35 (pc' := 38) rfl (fun T18 X18 e18 => ?_)
    refine own_iconst X18 hx hby d6_38 (pc' := 39) rfl (n := (0 : Int32)) (by decide) ?_
    obtain ⟨cl19, Ar19, S19, H19⟩ := id f_AF_w
    refine own_laload X18 hx hZ hby e18 Ar19 (own_inb (n := 0) S19 rfl (by decide)) (by rw [own_clamp _ (0) rfl]; exact H19 _ (by decide)) d6_39 (pc' := 40) rfl ?_
    show own_End p e below _ (T18.setTop (mkF m 40 #[.val (.ref a), .val (.double (4636737291354636288 : UInt64)), .second, .val (.long (2 : Int64)), .second, .val (.int (0 : Int32)), .unset, .unset] [(.long (f 0))]))
    refine own_lstore X18 hx hby d6_40 (pc' := 42) rfl (l' := #[.val (.ref a), .val (.double (4636737291354636288 : UInt64)), .second, .val (.long (2 : Int64)), .second, .val (.int (0 : Int32)), .val (.long (f 0)), .second]) rfl ?_
    have f_O_a : own_LH Z h0 a (.ref w) (2 : Int64) := ⟨f_E_a, f_F_a_counts, f_F_a_total⟩
    exact own_ploop Z a0 hw a w (4636737291354636288 : UInt64) (2 : Int64) (2 : Int64) f q qi h0 n0 h0 hx hby hlk hml hown hret hZ N17 Z0 f_O_a f_AF_w rfl hq hqi q 0 (0 : Int32) _ (by omega) rfl X18 e18
  · show own_End p e below _ (T4.setTop (mkF m 11 #[.val (.ref a), .val (.double (4632233691727265792 : UInt64)), .second, .unset, .unset, .unset, .unset, .unset] []))
    refine own_lconst X4 hx hby d6_11 (pc' := 12) rfl (n := (1 : Int64)) (by decide) ?_
    refine own_aloadN X4 hx hby d6_12 (pc' := 13) rfl rfl rfl ?_
    obtain ⟨f_E_a, f_F_a_counts, f_F_a_total⟩ := f_O_a
    refine own_getF X4 hx hZ hby hown (host := "") (Or.inl (wd_33 hw)) Via.refl e4 f_F_a_total d6_13 (pc' := 16) rfl (fun T20 X20 e20 => ?_)
    refine own_l2d X20 hx hby (y := (4611686018427387904 : UInt64)) (by decide +kernel) d6_16 (pc' := 17) rfl ?_
    refine own_dload1 X20 hx hby (x := (4632233691727265792 : UInt64)) rfl d6_17 (pc' := 18) rfl ?_
    refine own_dmul X20 hx hby (z := (4636737291354636288 : UInt64)) (by decide +kernel) (by decide) d6_18 (pc' := 19) rfl ?_
    refine own_ldc2Double X20 hx hZ hby hown (wd_46 hw) d6_19 (pc' := 22) rfl ?_
    refine own_ddiv X20 hx hby (z := (4607182418800017408 : UInt64)) (by decide +kernel) (by decide) d6_22 (pc' := 23) rfl ?_
    obtain ⟨T21, X21, e21, st21⟩ := own_ceil X20 hx hw hZ hown e20 (pc := 23) (pc' := 26) (Ls := #[.val (.ref a), .val (.double (4632233691727265792 : UInt64)), .second, .unset, .unset, .unset, .unset, .unset]) (rest := [.long (1 : Int64)]) (hb hby d6_23) rfl (by rw [hml]; rfl) (W := 2) (by decide) (by decide) (by decide) (b := (4607182418800017408 : UInt64)) (r0 := (4607182418800017408 : UInt64)) (by decide) (fun U m2 c2 meth2 g tl F K C o2 sc b2 r2 hh R hF hK => own_bFocW hw hZ X20.admits hx hh C o2 sc b2 r2 f_S_java_lang_StrictMath__assertionsDisabled (by decide) (by decide) (by decide) R hF hK)
    refine own_step st21 ?_
    refine own_d2l X21 hx hby (y := (1 : Int64)) (by decide +kernel) d6_26 (pc' := 27) rfl ?_
    show own_End p e below _ (T21.setTop (mkF m 27 #[.val (.ref a), .val (.double (4632233691727265792 : UInt64)), .second, .unset, .unset, .unset, .unset, .unset] [(.long (1 : Int64)), (.long (1 : Int64))]))
    refine own_lk3 hw X21 hx hZ hby (by rw [hml]; rfl) hown d6_27 (pc' := 30) rfl e21 (W := 0) (Nat.le_of_eq rfl) (rm13 l Z a0 hw [] (1 : Int64) (1 : Int64) h0 n0 Z0 ) (by decide) (by decide) (by decide) (by decide) (fun v22 T22 L22 X22 hQ22 => ?_)
    obtain ⟨rfl, Nq22, e22⟩ := hQ22
    have N22 := Fr.app N0 Nq22
    show own_End p e below _ (T22.setTop (mkF m 30 _ [(.long (own_max (1 : Int64) (1 : Int64)))]))
    rw [show own_max (1 : Int64) (1 : Int64) = (1 : Int64) from by decide]
    show own_End p e below _ (T22.setTop (mkF m 30 #[.val (.ref a), .val (.double (4632233691727265792 : UInt64)), .second, .unset, .unset, .unset, .unset, .unset] [(.long (1 : Int64))]))
    refine own_lstoreN X22 hx hby d6_30 (pc' := 31) rfl (l' := #[.val (.ref a), .val (.double (4632233691727265792 : UInt64)), .second, .val (.long (1 : Int64)), .second, .unset, .unset, .unset]) rfl ?_
    refine own_iconst X22 hx hby d6_31 (pc' := 32) rfl (n := (0 : Int32)) (by decide) ?_
    refine own_istore X22 hx hby d6_32 (pc' := 34) rfl (l' := #[.val (.ref a), .val (.double (4632233691727265792 : UInt64)), .second, .val (.long (1 : Int64)), .second, .val (.int (0 : Int32)), .unset, .unset]) rfl ?_
    refine own_aloadN X22 hx hby d6_34 (pc' := 35) rfl rfl rfl ?_
    refine own_getF X22 hx hZ hby hown (host := "") (Or.inl (wd_25 hw)) Via.refl e22 f_F_a_counts d6_35 (pc' := 38) rfl (fun T23 X23 e23 => ?_)
    refine own_iconst X23 hx hby d6_38 (pc' := 39) rfl (n := (0 : Int32)) (by decide) ?_
    obtain ⟨cl24, Ar24, S24, H24⟩ := id f_AF_w
    refine own_laload X23 hx hZ hby e23 Ar24 (own_inb (n := 0) S24 rfl (by decide)) (by rw [own_clamp _ (0) rfl]; exact H24 _ (by decide)) d6_39 (pc' := 40) rfl ?_
    show own_End p e below _ (T23.setTop (mkF m 40 #[.val (.ref a), .val (.double (4632233691727265792 : UInt64)), .second, .val (.long (1 : Int64)), .second, .val (.int (0 : Int32)), .unset, .unset] [(.long (f 0))]))
    refine own_lstore X23 hx hby d6_40 (pc' := 42) rfl (l' := #[.val (.ref a), .val (.double (4632233691727265792 : UInt64)), .second, .val (.long (1 : Int64)), .second, .val (.int (0 : Int32)), .val (.long (f 0)), .second]) rfl ?_
    have f_O_a : own_LH Z h0 a (.ref w) (2 : Int64) := ⟨f_E_a, f_F_a_counts, f_F_a_total⟩
    exact own_ploop Z a0 hw a w (4632233691727265792 : UInt64) (2 : Int64) (1 : Int64) f q qi h0 n0 h0 hx hby hlk hml hown hret hZ N22 Z0 f_O_a f_AF_w rfl hq hqi q 0 (0 : Int32) _ (by omega) rfl X23 e23
theorem own_ef_rm1 (m : MethodId) (a : Addr)  : entryFrame m #[(.ref a)] 1 = mkF m 0 #[.val (.ref a)] [] := by first | (simp [entryFrame, mkF, argsToLocals, Value.category]; done) | rfl
def Q1 (Z : State) (a : Addr) (h0 : Heap) (n0 : Nat) (v : Option Value) (h : Heap) (L : List Loc) : Prop := v = none ∧ Fr n0 L ∧ Keep h0 h [a] ∧ ∃ w : Addr, h0.size ≤ w ∧ own_LH Z h a (.ref w) 0 ∧ own_AF Z h w (fun _ => (0 : Int64))
set_option maxRecDepth 65536 in
set_option maxHeartbeats 40000000 in
theorem rm1 (l : Launch) (Z : State) (a0 : Array Value) (hw : ∀ d ∈ tables_1, d.before a0 Z = true) (ws : List Jvm.Cond) (a : Addr) (h0 : Heap) (n0 : Nat) (Z0 : n0 ≤ h0.size) (f_O_a : own_LH Z h0 a .null (0 : Int64)) (ge_a : n0 ≤ a) :
    MetFree l (⟨"com/example/earnest_reactor/earnestreactor/cli/LatencyHistogram", "<init>", "()V"⟩ : MethodName) (head1 (Jvm.Cond.code (⟨"com/example/earnest_reactor/earnestreactor/cli/LatencyHistogram", "<init>", "()V"⟩ : MethodName) prog_2_method_1_code 1 none :: ws) ({ frames := 3, cells := 1, slots := 55296, locals := 45 } : Room)) (fun aa U => aa = #[(.ref a)] ∧ Z.Warmed39 U.vm ∧ U.heap = h0) (fun _ _ _ _ _ => True) (fun _ U oc U' => ∃ v L, oc = .returned v ∧ Q1 Z a h0 n0 v U'.heap L ∧ FrameEnd U oc U' L ({ frames := 3, cells := 1, slots := 55296, locals := 45 } : Room).cells ({ frames := 3, cells := 1, slots := 55296, locals := 45 } : Room).slots) := by
  refine MetFree.of_bodySF (plainFor_of_name own_pn4) hisR ?_
  intro p e s m args below meth c s₁ Bd hml0 hP hK
  obtain ⟨rfl, hZ, hh⟩ := hP
  have hx := Bd.exec
  have hby := Bd.bytes
  have hlk := Bd.notSynchronized
  have hret := Bd.returns
  have hml : c.maxLocals = 1 := hml0
  have hown : s.vm.findClass "com/example/earnest_reactor/earnestreactor/cli/LatencyHistogram" = some m.cls := findClass_of_methodNamed Bd.named
  have hnm := (name_of_methodNamed Bd.named Bd.method).1
  have X0 : Stand p l e ({ frames := 3, cells := 1, slots := 55296, locals := 45 } : Room) s m #[(.ref a)] below meth c s₁ [] 0 0 := Stand.of_body Bd
  have e0 : s₁.heap = h0 := by rw [← hh, Bd.state]; rfl
  have N0 := Fr.nil n0
  refine own_body (Q := Q1 Z a h0 n0) (KC := ({ frames := 3, cells := 1, slots := 55296, locals := 45 } : Room).cells) (KS := ({ frames := 3, cells := 1, slots := 55296, locals := 45 } : Room).slots) ?_
  rw [own_ef_rm1 m a]
  have Kp : Keep h0 h0 [a] := Keep.refl h0 _
  refine own_aloadN X0 hx hby d1_0 (pc' := 1) rfl rfl rfl ?_
  refine own_init X0 hx hZ hby hown (wd_7 hw) (wd_8 hw) (wd_9 hw) e0 (by rw [hml]; rfl) d1_1 (pc' := 4) rfl (by decide) (W := 0) (Nat.le_of_eq rfl) (by decide) (fun T1 X1 e1 => ?_)
  refine own_aloadN X1 hx hby d1_4 (pc' := 5) rfl rfl rfl ?_
  refine own_ldc2Long X1 hx hZ hby hown (wd_10 hw) d1_5 (pc' := 8) rfl ?_
  refine own_lk4 hw X1 hx hZ hby (by rw [hml]; rfl) hown d1_8 (pc' := 11) rfl e1 (W := 1) (Nat.le_of_eq rfl) (rm3 l Z a0 hw [] (9223372036854775807 : Int64) h0 n0 Z0 (by decide)) (by decide) (by decide) (by decide) (by decide) (fun v3 T3 L3 X3 hQ3 => ?_)
  obtain ⟨z2, rfl, Nq3, e3, bkz2⟩ := hQ3
  have N3 := Fr.app N0 Nq3
  show own_End p e below _ (T3.setTop (mkF m 11 _ [(.int z2), (.ref a)]))
  obtain rfl : z2 = (55295 : Int32) := bkz2.2.2 rfl
  show own_End p e below _ (T3.setTop (mkF m 11 #[.val (.ref a)] [(.int (55295 : Int32)), (.ref a)]))
  refine own_iconst X3 hx hby d1_11 (pc' := 12) rfl (n := (1 : Int32)) (by decide) ?_
  refine own_iadd X3 hx hby d1_12 (pc' := 13) rfl ?_
  show own_End p e below _ (T3.setTop (mkF m 13 #[.val (.ref a)] [(.int (55296 : Int32)), (.ref a)]))
  refine own_newP (aty := .long) X3 hx hZ hby (wd_24 hw) e3 d1_13 (pc' := 15) rfl (by decide) (cap := 55296) (by decide) (by decide) (by decide) (by decide) (fun T4 h4 k4 b4 g4 X4 e4 E4 A4 => ?_)
  have ne_a_b4 : a ≠ b4 := Nat.ne_of_lt (by rw [g4]; exact f_O_a.lt)
  have ge_b4 : n0 ≤ b4 := by rw [g4]; exact Z0
  have sz_b4 : h0.size ≤ b4 := by rw [g4]; exact Kp.1
  have f_O_a := f_O_a.ext E4
  have Zn := Nat.le_trans Z0 E4.1
  have Kp := Kp.ext E4
  have f_AF_b4 : own_AF Z h4 b4 (fun _ => (0 : Int64)) := own_AF.new A4
  show own_End p e below _ (T4.setTop (mkF m 15 #[.val (.ref a)] [(.ref b4), (.ref a)]))
  obtain ⟨f_E_a, f_F_a_counts, f_F_a_total⟩ := f_O_a
  refine own_putF X4 hx hZ hby hown (host := "") (Or.inl (wd_25 hw)) Via.refl e4 f_F_a_counts f_E_a (Or.inr ⟨(wd_26 hw), rfl, hnm⟩) (wd_2 hw) (ty := (.array .long)) (by decide) rfl rfl d1_15 (pc' := 18) rfl (fun T5 h5 X5 e5 W5 => ?_)
  have f_F_a_counts := f_F_a_counts.same W5
  have f_AF_b4 := f_AF_b4.other W5 (Ne.symm ne_a_b4)
  have f_E_a := f_E_a.wr W5
  have f_F_a_total := f_F_a_total.other W5 (Or.inr (slot_ne (Or.inl (wd_34 hw)) (Or.inr (wd_26 hw)) (by decide) (t := .long) (t' := (.array .long)) (by decide) (by decide)))
  have Zn := Nat.le_trans Zn (Keep.of_wr W5).1
  have Kp := Kp.wr W5 (Or.inl (List.mem_of_getElem? (i := 0) rfl))
  have N5 := Fr.snoc X5 N3 ge_a
  refine own_return X5 hx hlk hby hret d1_18 (own_lv ?_ (by decide) (by decide))
  show Q1 Z a  h0 n0 none T5.heap _
  rw [e5]
  exact ⟨rfl, N5, Kp, b4, sz_b4, ⟨f_E_a, f_F_a_counts, f_F_a_total⟩, f_AF_b4⟩
theorem own_ef_rm8 (m : MethodId) (a : Addr) (x : Int64)  : entryFrame m #[(.ref a), (.long x)] 3 = mkF m 0 #[.val (.ref a), .val (.long x), .second] [] := by first | (simp [entryFrame, mkF, argsToLocals, Value.category]; done) | rfl
def Q8 (Z : State) (a : Addr) (w : Addr) (x : Int64) (t : Int64) (f : Nat → Int64) (h0 : Heap) (n0 : Nat) (v : Option Value) (h : Heap) (L : List Loc) : Prop := v = none ∧ Fr n0 L ∧ Keep h0 h [a, w] ∧ own_LH Z h a (.ref w) (t + 1) ∧ ∃ n : Nat, n < 55296 ∧ own_AF Z h w (own_upd f n (f n + 1))
set_option maxRecDepth 65536 in
set_option maxHeartbeats 40000000 in
theorem rm8 (l : Launch) (Z : State) (a0 : Array Value) (hw : ∀ d ∈ tables_1, d.before a0 Z = true) (ws : List Jvm.Cond) (a : Addr) (w : Addr) (x : Int64) (t : Int64) (f : Nat → Int64) (h0 : Heap) (n0 : Nat) (Z0 : n0 ≤ h0.size) (f_O_a : own_LH Z h0 a (.ref w) t) (f_AF_w : own_AF Z h0 w f) (ne_a_w : a ≠ w) (ge_a : n0 ≤ a) (ge_w : n0 ≤ w) (hx0 : 0 ≤ x.toInt) :
    MetFree l (⟨"com/example/earnest_reactor/earnestreactor/cli/LatencyHistogram", "record", "(J)V"⟩ : MethodName) (head1 (Jvm.Cond.code (⟨"com/example/earnest_reactor/earnestreactor/cli/LatencyHistogram", "record", "(J)V"⟩ : MethodName) prog_2_method_2_code 3 none :: ws) ({ frames := 3, cells := 0, slots := 0, locals := 45 } : Room)) (fun aa U => aa = #[(.ref a), (.long x)] ∧ Z.Warmed39 U.vm ∧ U.heap = h0) (fun _ _ _ _ _ => True) (fun _ U oc U' => ∃ v L, oc = .returned v ∧ Q8 Z a w x t f h0 n0 v U'.heap L ∧ FrameEnd U oc U' L ({ frames := 3, cells := 0, slots := 0, locals := 45 } : Room).cells ({ frames := 3, cells := 0, slots := 0, locals := 45 } : Room).slots) := by
  refine MetFree.of_bodySF (plainFor_of_name own_pn4) hisR ?_
  intro p e s m args below meth c s₁ Bd hml0 hP hK
  obtain ⟨rfl, hZ, hh⟩ := hP
  have hx := Bd.exec
  have hby := Bd.bytes
  have hlk := Bd.notSynchronized
  have hret := Bd.returns
  have hml : c.maxLocals = 3 := hml0
  have hown : s.vm.findClass "com/example/earnest_reactor/earnestreactor/cli/LatencyHistogram" = some m.cls := findClass_of_methodNamed Bd.named
  have hnm := (name_of_methodNamed Bd.named Bd.method).1
  have X0 : Stand p l e ({ frames := 3, cells := 0, slots := 0, locals := 45 } : Room) s m #[(.ref a), (.long x)] below meth c s₁ [] 0 0 := Stand.of_body Bd
  have e0 : s₁.heap = h0 := by rw [← hh, Bd.state]; rfl
  have N0 := Fr.nil n0
  refine own_body (Q := Q8 Z a w x t f h0 n0) (KC := ({ frames := 3, cells := 0, slots := 0, locals := 45 } : Room).cells) (KS := ({ frames := 3, cells := 0, slots := 0, locals := 45 } : Room).slots) ?_
  rw [own_ef_rm8 m a x]
  have Kp : Keep h0 h0 [a, w] := Keep.refl h0 _
  refine own_aloadN X0 hx hby d8_0 (pc' := 1) rfl rfl rfl ?_
  obtain ⟨f_E_a, f_F_a_counts, f_F_a_total⟩ := f_O_a
  refine own_getF X0 hx hZ hby hown (host := "") (Or.inl (wd_25 hw)) Via.refl e0 f_F_a_counts d8_1 (pc' := 4) rfl (fun T1 X1 e1 => ?_)
  refine own_lloadN X1 hx hby d8_4 (pc' := 5) rfl rfl ?_
  refine own_lk4 hw X1 hx hZ hby (by rw [hml]; rfl) hown d8_5 (pc' := 8) rfl e1 (W := 1) (Nat.le_of_eq rfl) (rm3 l Z a0 hw [] x h0 n0 Z0 hx0) (by decide) (by decide) (by decide) (by decide) (fun v3 T3 L3 X3 hQ3 => ?_)
  obtain ⟨z2, rfl, Nq3, e3, bkz2⟩ := hQ3
  have N3 := Fr.app N0 Nq3
  show own_End p e below _ (T3.setTop (mkF m 8 _ [(.int z2), (.ref w)]))
  obtain ⟨nz, hnz, hnb⟩ : ∃ n : Nat, z2.toInt = n ∧ n < 55296 := ⟨z2.toInt.toNat, by have := bkz2.1; omega, by have := bkz2.2.1; omega⟩
  refine own_dup2 X3 hx hby d8_8 (pc' := 9) rfl ?_
  obtain ⟨cl4, Ar4, S4, H4⟩ := id f_AF_w
  refine own_laload X3 hx hZ hby e3 Ar4 (own_inb (n := nz) S4 hnz hnb) (by rw [own_clamp _ (nz) hnz]; exact H4 _ hnb) d8_9 (pc' := 10) rfl ?_
  show own_End p e below _ (T3.setTop (mkF m 10 #[.val (.ref a), .val (.long x), .second] [(.long (f nz)), (.int z2), (.ref w)]))
  refine own_lconst X3 hx hby d8_10 (pc' := 11) rfl (n := (1 : Int64)) (by decide) ?_
  refine own_ladd X3 hx hby d8_11 (pc' := 12) rfl ?_
  obtain ⟨cl5, Ar5, S5, H5⟩ := id f_AF_w
  refine own_lastore X3 hx hZ hby e3 Ar5 (own_inb (n := nz) S5 hnz hnb) d8_12 (pc' := 13) rfl (fun T6 h6 X6 e6 W6 => ?_)
  have f_AF_w := own_AF.set Ar5 S5 H5 hnz hnb W6
  have f_E_a := f_E_a.wr W6
  have f_F_a_counts := f_F_a_counts.other W6 (Or.inl ne_a_w)
  have f_F_a_total := f_F_a_total.other W6 (Or.inl ne_a_w)
  have Zn := Nat.le_trans Z0 (Keep.of_wr W6).1
  have Kp := Kp.wr W6 (Or.inl (List.mem_of_getElem? (i := 1) rfl))
  have N6 := Fr.snoc X6 N3 ge_w
  show own_End p e below _ (T6.setTop (mkF m 13 #[.val (.ref a), .val (.long x), .second] []))
  refine own_aloadN X6 hx hby d8_13 (pc' := 14) rfl rfl rfl ?_
  refine own_dup X6 hx hby d8_14 (pc' := 15) rfl rfl ?_
  refine own_getF X6 hx hZ hby hown (host := "") (Or.inl (wd_33 hw)) Via.refl e6 f_F_a_total d8_15 (pc' := 18) rfl (fun T7 X7 e7 => ?_)
  refine own_lconst X7 hx hby d8_18 (pc' := 19) rfl (n := (1 : Int64)) (by decide) ?_
  refine own_ladd X7 hx hby d8_19 (pc' := 20) rfl ?_
  refine own_putF X7 hx hZ hby hown (host := "") (Or.inl (wd_33 hw)) Via.refl e7 f_F_a_total f_E_a (Or.inl (wd_34 hw)) (wd_2 hw) (ty := .long) (by decide) rfl rfl d8_20 (pc' := 23) rfl (fun T8 h8 X8 e8 W8 => ?_)
  have f_F_a_total := f_F_a_total.same W8
  have f_AF_w := f_AF_w.other W8 (Ne.symm ne_a_w)
  have f_E_a := f_E_a.wr W8
  have f_F_a_counts := f_F_a_counts.other W8 (Or.inr (slot_ne (Or.inr (wd_26 hw)) (Or.inl (wd_34 hw)) (by decide) (t := (.array .long)) (t' := .long) (by decide) (by decide)))
  have Zn := Nat.le_trans Zn (Keep.of_wr W8).1
  have Kp := Kp.wr W8 (Or.inl (List.mem_of_getElem? (i := 0) rfl))
  have N8 := Fr.snoc X8 N6 ge_a
  refine own_return X8 hx hlk hby hret d8_23 (own_lv ?_ (by decide) (by decide))
  show Q8 Z a w x t f  h0 n0 none T8.heap _
  rw [e8]
  exact ⟨rfl, N8, Kp, ⟨f_E_a, f_F_a_counts, f_F_a_total⟩, nz, hnb, f_AF_w⟩
def own_mix (f g : Nat → Int64) (n : Nat) : Nat → Int64 := fun i => if i < n then f i + g i else f i
theorem own_mixs (f g : Nat → Int64) (n : Nat) (i : Nat) : own_upd (own_mix f g n) n (own_mix f g n n + g n) i = own_mix f g (n + 1) i := by
  unfold own_upd own_mix
  by_cases q : i = n
  · subst q; simp
  · rw [if_neg q]
    by_cases z : i < n
    · rw [if_pos z, if_pos (by omega)]
    · rw [if_neg z, if_neg (by omega)]
theorem own_mix0 (f g : Nat → Int64) (i : Nat) : f i = own_mix f g 0 i := by simp [own_mix]
theorem own_mixN (f g : Nat → Int64) (i : Nat) (h : i < 55296) : own_mix f g 55296 i = f i + g i := by simp [own_mix, h]
theorem own_ef_rm7 (m : MethodId) (a : Addr) (b : Addr)  : entryFrame m #[(.ref a), (.ref b)] 3 = mkF m 0 #[.val (.ref a), .val (.ref b), .unset] [] := by first | (simp [entryFrame, mkF, argsToLocals, Value.category]; done) | rfl
def Q7 (Z : State) (a : Addr) (b : Addr) (wa : Addr) (wb : Addr) (ta : Int64) (tb : Int64) (f : Nat → Int64) (g : Nat → Int64) (h0 : Heap) (n0 : Nat) (v : Option Value) (h : Heap) (L : List Loc) : Prop := v = none ∧ Fr n0 L ∧ Keep h0 h [a, wa] ∧ own_LH Z h a (.ref wa) (ta + tb) ∧ own_LH Z h b (.ref wb) tb ∧ own_AF Z h wa (fun i => f i + g i) ∧ own_AF Z h wb g
set_option maxRecDepth 65536 in
set_option maxHeartbeats 40000000 in
theorem own_ax {p : Program} {l : Launch} {e : Env} {s : State} {m : MethodId} {below : List Frame} {meth : Method} {c : Code} {T0 : State} {locs : List Loc} (Z : State) (a0 : Array Value) (hw : ∀ d ∈ tables_1, d.before a0 Z = true) (a : Addr) (b : Addr) (wa : Addr) (wb : Addr) (ta : Int64) (tb : Int64) (f : Nat → Int64) (g : Nat → Int64) (j : Int32) (h0 : Heap) (n0 : Nat) (h1 : Heap)
    (X0 : Stand p l e ({ frames := 0, cells := 0, slots := 0, locals := 0 } : Room) s m #[(.ref a), (.ref b)] below meth c T0 locs 0 0) (hx : p.tables.exec = Jvm.exec) (hby : c.code = prog_2_method_3_code) (hlk : meth.locks = false) (hml : c.maxLocals = 3) (hown : s.vm.findClass "com/example/earnest_reactor/earnestreactor/cli/LatencyHistogram" = some m.cls) (hret : meth.sig.returnType = none) (hZ : Z.Warmed39 s.vm) (e1 : T0.heap = h1) (N0 : Fr n0 locs) (Z1 : n0 ≤ h1.size) (Kp : Keep h0 h1 [a, wa]) (f_O_a : own_LH Z h1 a (.ref wa) ta) (f_O_b : own_LH Z h1 b (.ref wb) tb) (f_AF_wa : own_AF Z h1 wa (own_mix f g 55296)) (f_AF_wb : own_AF Z h1 wb g) (ne_a_b : a ≠ b) (ne_a_wa : a ≠ wa) (ne_a_wb : a ≠ wb) (ne_b_wa : b ≠ wa) (ne_b_wb : b ≠ wb) (ne_wa_wb : wa ≠ wb) (ge_a : n0 ≤ a) (ge_wa : n0 ≤ wa) (hs : ¬ j < (55296 : Int32)) :
    own_End p e below (own_F s (Q7 Z a b wa wb ta tb f g h0 n0) ({ frames := 0, cells := 0, slots := 0, locals := 0 } : Room).cells ({ frames := 0, cells := 0, slots := 0, locals := 0 } : Room).slots) (T0.setTop (mkF m 2 #[.val (.ref a), .val (.ref b), .val (.int j)] [])) := by
  refine own_iloadN X0 hx hby d7_2 (pc' := 3) rfl rfl ?_
  refine own_aloadN X0 hx hby d7_3 (pc' := 4) rfl rfl rfl ?_
  obtain ⟨f_E_a, f_F_a_counts, f_F_a_total⟩ := f_O_a
  refine own_getF X0 hx hZ hby hown (host := "") (Or.inl (wd_25 hw)) Via.refl e1 f_F_a_counts d7_4 (pc' := 7) rfl (fun T1 X1 e1 => ?_)
  obtain ⟨cl2, Ar2, S2, H2⟩ := id f_AF_wa
  refine own_alen X1 hx hZ hby e1 Ar2 (show cl2.slots.size = (55296 : Int32).toNatClampNeg from S2) (by decide) d7_7 (pc' := 8) rfl ?_
  show own_End p e below _ (T1.setTop (mkF m 8 #[.val (.ref a), .val (.ref b), .val (.int j)] [(.int (55296 : Int32)), (.int j)]))
  refine own_icY X1 hx hby d7_8 (pc' := 32) (by decide) (by decide) (show ¬ j < (55296 : Int32) from hs) ?_
  refine own_aloadN X1 hx hby d7_32 (pc' := 33) rfl rfl rfl ?_
  refine own_dup X1 hx hby d7_33 (pc' := 34) rfl rfl ?_
  refine own_getF X1 hx hZ hby hown (host := "") (Or.inl (wd_33 hw)) Via.refl e1 f_F_a_total d7_34 (pc' := 37) rfl (fun T3 X3 e3 => ?_)
  refine own_aloadN X3 hx hby d7_37 (pc' := 38) rfl rfl rfl ?_
  obtain ⟨f_E_b, f_F_b_counts, f_F_b_total⟩ := f_O_b
  refine own_getF X3 hx hZ hby hown (host := "") (Or.inl (wd_33 hw)) Via.refl e3 f_F_b_total d7_38 (pc' := 41) rfl (fun T4 X4 e4 => ?_)
  refine own_ladd X4 hx hby d7_41 (pc' := 42) rfl ?_
  refine own_putF X4 hx hZ hby hown (host := "") (Or.inl (wd_33 hw)) Via.refl e4 f_F_a_total f_E_a (Or.inl (wd_34 hw)) (wd_2 hw) (ty := .long) (by decide) rfl rfl d7_42 (pc' := 45) rfl (fun T5 h5 X5 e5 W5 => ?_)
  have f_F_a_total := f_F_a_total.same W5
  have f_AF_wa := f_AF_wa.other W5 (Ne.symm ne_a_wa)
  have f_AF_wb := f_AF_wb.other W5 (Ne.symm ne_a_wb)
  have f_E_a := f_E_a.wr W5
  have f_F_a_counts := f_F_a_counts.other W5 (Or.inr (slot_ne (Or.inr (wd_26 hw)) (Or.inl (wd_34 hw)) (by decide) (t := (.array .long)) (t' := .long) (by decide) (by decide)))
  have f_E_b := f_E_b.wr W5
  have f_F_b_counts := f_F_b_counts.other W5 (Or.inl (Ne.symm ne_a_b))
  have f_F_b_total := f_F_b_total.other W5 (Or.inl (Ne.symm ne_a_b))
  have Zn := Nat.le_trans Z1 (Keep.of_wr W5).1
  have Kp := Kp.wr W5 (Or.inl (List.mem_of_getElem? (i := 0) rfl))
  have N5 := Fr.snoc X5 N0 ge_a
  refine own_return X5 hx hlk hby hret d7_45 (own_lv ?_ (by decide) (by decide))
  show Q7 Z a b wa wb ta tb f g  h0 n0 none T5.heap _
  rw [e5]
  exact ⟨rfl, N5, Kp, ⟨f_E_a, f_F_a_counts, f_F_a_total⟩, ⟨f_E_b, f_F_b_counts, f_F_b_total⟩, f_AF_wa.congr (own_mixN f g), f_AF_wb⟩
set_option maxRecDepth 65536 in
set_option maxHeartbeats 40000000 in
theorem own_at {p : Program} {l : Launch} {e : Env} {s : State} {m : MethodId} {below : List Frame} {meth : Method} {c : Code} {T0 : State} {locs : List Loc} (Z : State) (a0 : Array Value) (hw : ∀ d ∈ tables_1, d.before a0 Z = true) (a : Addr) (b : Addr) (wa : Addr) (wb : Addr) (ta : Int64) (tb : Int64) (f : Nat → Int64) (g : Nat → Int64) (j : Int32) (n : Nat) (h0 : Heap) (n0 : Nat) (h1 : Heap)
    (X0 : Stand p l e ({ frames := 0, cells := 0, slots := 0, locals := 0 } : Room) s m #[(.ref a), (.ref b)] below meth c T0 locs 0 0) (hx : p.tables.exec = Jvm.exec) (hby : c.code = prog_2_method_3_code) (hlk : meth.locks = false) (hml : c.maxLocals = 3) (hown : s.vm.findClass "com/example/earnest_reactor/earnestreactor/cli/LatencyHistogram" = some m.cls) (hret : meth.sig.returnType = none) (hZ : Z.Warmed39 s.vm) (e1 : T0.heap = h1) (N0 : Fr n0 locs) (Z1 : n0 ≤ h1.size) (Kp : Keep h0 h1 [a, wa]) (f_O_a : own_LH Z h1 a (.ref wa) ta) (f_O_b : own_LH Z h1 b (.ref wb) tb) (f_AF_wa : own_AF Z h1 wa (own_mix f g n)) (f_AF_wb : own_AF Z h1 wb g) (ne_a_b : a ≠ b) (ne_a_wa : a ≠ wa) (ne_a_wb : a ≠ wb) (ne_b_wa : b ≠ wa) (ne_b_wb : b ≠ wb) (ne_wa_wb : wa ≠ wb) (ge_a : n0 ≤ a) (ge_wa : n0 ≤ wa) (hs : j < (55296 : Int32)) (hj : j.toInt = n) (hn : n < 55296) (kk : ∀ (T' : State) (h' : Heap) (locs' : List Loc), Stand p l e ({ frames := 0, cells := 0, slots := 0, locals := 0 } : Room) s m #[.ref a, .ref b] below meth c T' locs' 0 0 → T'.heap = h' → Fr n0 locs' → n0 ≤ h'.size → Keep h0 h' [a, wa] → own_LH Z h' a (.ref wa) ta → own_LH Z h' b (.ref wb) tb → own_AF Z h' wa (own_mix f g (n + 1)) → own_AF Z h' wb g → own_End p e below (own_F s (Q7 Z a b wa wb ta tb f g h0 n0) ({ frames := 0, cells := 0, slots := 0, locals := 0 } : Room).cells ({ frames := 0, cells := 0, slots := 0, locals := 0 } : Room).slots) (T'.setTop (mkF m 2 #[.val (.ref a), .val (.ref b), .val (.int (j + (1 : Int32)))] []))) :
    own_End p e below (own_F s (Q7 Z a b wa wb ta tb f g h0 n0) ({ frames := 0, cells := 0, slots := 0, locals := 0 } : Room).cells ({ frames := 0, cells := 0, slots := 0, locals := 0 } : Room).slots) (T0.setTop (mkF m 2 #[.val (.ref a), .val (.ref b), .val (.int j)] [])) := by
  refine own_iloadN X0 hx hby d7_2 (pc' := 3) rfl rfl ?_
  refine own_aloadN X0 hx hby d7_3 (pc' := 4) rfl rfl rfl ?_
  obtain ⟨f_E_a, f_F_a_counts, f_F_a_total⟩ := f_O_a
  refine own_getF X0 hx hZ hby hown (host := "") (Or.inl (wd_25 hw)) Via.refl e1 f_F_a_counts d7_4 (pc' := 7) rfl (fun T6 X6 e6 => ?_)
  obtain ⟨cl7, Ar7, S7, H7⟩ := id f_AF_wa
  refine own_alen X6 hx hZ hby e6 Ar7 (show cl7.slots.size = (55296 : Int32).toNatClampNeg from S7) (by decide) d7_7 (pc' := 8) rfl ?_
  show own_End p e below _ (T6.setTop (mkF m 8 #[.val (.ref a), .val (.ref b), .val (.int j)] [(.int (55296 : Int32)), (.int j)]))
  refine own_icN X6 hx hby d7_8 (pc' := 11) rfl (show j < (55296 : Int32) from hs) ?_
  refine own_aloadN X6 hx hby d7_11 (pc' := 12) rfl rfl rfl ?_
  refine own_getF X6 hx hZ hby hown (host := "") (Or.inl (wd_25 hw)) Via.refl e6 f_F_a_counts d7_12 (pc' := 15) rfl (fun T8 X8 e8 => ?_)
  refine own_iloadN X8 hx hby d7_15 (pc' := 16) rfl rfl ?_
  refine own_dup2 X8 hx hby d7_16 (pc' := 17) rfl ?_
  obtain ⟨cl9, Ar9, S9, H9⟩ := id f_AF_wa
  refine own_laload X8 hx hZ hby e8 Ar9 (own_inb (n := n) S9 hj hn) (by rw [own_clamp _ (n) hj]; exact H9 _ hn) d7_17 (pc' := 18) rfl ?_
  show own_End p e below _ (T8.setTop (mkF m 18 #[.val (.ref a), .val (.ref b), .val (.int j)] [(.long ((own_mix f g n) n)), (.int j), (.ref wa)]))
  refine own_aloadN X8 hx hby d7_18 (pc' := 19) rfl rfl rfl ?_
  obtain ⟨f_E_b, f_F_b_counts, f_F_b_total⟩ := f_O_b
  refine own_getF X8 hx hZ hby hown (host := "") (Or.inl (wd_25 hw)) Via.refl e8 f_F_b_counts d7_19 (pc' := 22) rfl (fun T10 X10 e10 => ?_)
  refine own_iloadN X10 hx hby d7_22 (pc' := 23) rfl rfl ?_
  obtain ⟨cl11, Ar11, S11, H11⟩ := id f_AF_wb
  refine own_laload X10 hx hZ hby e10 Ar11 (own_inb (n := n) S11 hj hn) (by rw [own_clamp _ (n) hj]; exact H11 _ hn) d7_23 (pc' := 24) rfl ?_
  show own_End p e below _ (T10.setTop (mkF m 24 #[.val (.ref a), .val (.ref b), .val (.int j)] [(.long (g n)), (.long ((own_mix f g n) n)), (.int j), (.ref wa)]))
  refine own_ladd X10 hx hby d7_24 (pc' := 25) rfl ?_
  obtain ⟨cl12, Ar12, S12, H12⟩ := id f_AF_wa
  refine own_lastore X10 hx hZ hby e10 Ar12 (own_inb (n := n) S12 hj hn) d7_25 (pc' := 26) rfl (fun T13 h13 X13 e13 W13 => ?_)
  have f_AF_wa := own_AF.set Ar12 S12 H12 hj hn W13
  have f_AF_wb := f_AF_wb.other W13 (Ne.symm ne_wa_wb)
  have f_E_a := f_E_a.wr W13
  have f_F_a_counts := f_F_a_counts.other W13 (Or.inl ne_a_wa)
  have f_F_a_total := f_F_a_total.other W13 (Or.inl ne_a_wa)
  have f_E_b := f_E_b.wr W13
  have f_F_b_counts := f_F_b_counts.other W13 (Or.inl ne_b_wa)
  have f_F_b_total := f_F_b_total.other W13 (Or.inl ne_b_wa)
  have Zn := Nat.le_trans Z1 (Keep.of_wr W13).1
  have Kp := Kp.wr W13 (Or.inl (List.mem_of_getElem? (i := 1) rfl))
  have N13 := Fr.snoc X13 N0 ge_wa
  show own_End p e below _ (T13.setTop (mkF m 26 #[.val (.ref a), .val (.ref b), .val (.int j)] []))
  refine own_iinc X13 hx hby d7_26 (pc' := 29) rfl rfl (y := (j + (1 : Int32))) rfl (l' := #[.val (.ref a), .val (.ref b), .val (.int (j + (1 : Int32)))]) rfl ?_
  refine own_goto X13 hx hby d7_29 (pc' := 2) (by decide) (by decide) ?_
  have f_O_a : own_LH Z h13 a (.ref wa) ta := ⟨f_E_a, f_F_a_counts, f_F_a_total⟩
  have f_O_b : own_LH Z h13 b (.ref wb) tb := ⟨f_E_b, f_F_b_counts, f_F_b_total⟩
  exact kk _ _ _ X13 e13 N13 Zn Kp f_O_a f_O_b (f_AF_wa.congr fun i _ => own_mixs f g n i) f_AF_wb
set_option maxRecDepth 65536 in
theorem own_aloop {p : Program} {l : Launch} {e : Env} {s : State} {m : MethodId} {below : List Frame} {meth : Method} {c : Code} (Z : State) (a0 : Array Value) (hw : ∀ d ∈ tables_1, d.before a0 Z = true) (a : Addr) (b : Addr) (wa : Addr) (wb : Addr) (ta : Int64) (tb : Int64) (f : Nat → Int64) (g : Nat → Int64) (h0 : Heap) (n0 : Nat)
    (hx : p.tables.exec = Jvm.exec) (hby : c.code = prog_2_method_3_code) (hlk : meth.locks = false) (hml : c.maxLocals = 3) (hown : s.vm.findClass "com/example/earnest_reactor/earnestreactor/cli/LatencyHistogram" = some m.cls) (hret : meth.sig.returnType = none) (hZ : Z.Warmed39 s.vm) (ne1 : a ≠ b) (ne2 : a ≠ wa) (ne3 : a ≠ wb) (ne4 : b ≠ wa) (ne5 : b ≠ wb) (ne6 : wa ≠ wb) (ge1 : n0 ≤ a) (ge2 : n0 ≤ wa) :
    ∀ (d n : Nat) (j : Int32), n + d = 55296 → j.toInt = n → ∀ (T' : State) (h' : Heap) (locs' : List Loc), Stand p l e ({ frames := 0, cells := 0, slots := 0, locals := 0 } : Room) s m #[.ref a, .ref b] below meth c T' locs' 0 0 → T'.heap = h' → Fr n0 locs' → n0 ≤ h'.size → Keep h0 h' [a, wa] → own_LH Z h' a (.ref wa) ta → own_LH Z h' b (.ref wb) tb → own_AF Z h' wa (own_mix f g n) → own_AF Z h' wb g → own_End p e below (own_F s (Q7 Z a b wa wb ta tb f g h0 n0) ({ frames := 0, cells := 0, slots := 0, locals := 0 } : Room).cells ({ frames := 0, cells := 0, slots := 0, locals := 0 } : Room).slots) (T'.setTop (mkF m 2 #[.val (.ref a), .val (.ref b), .val (.int j)] [])) := by
  intro d
  induction d with
  | zero =>
    intro n j hnd hj T' h' locs' X0 e1 N0 Z1 Kp FA FB AA AB
    have hnq : n = 55296 := by omega
    subst hnq
    exact own_ax Z a0 hw a b wa wb ta tb f g j h0 n0 h' X0 hx hby hlk hml hown hret hZ e1 N0 Z1 Kp FA FB AA AB ne1 ne2 ne3 ne4 ne5 ne6 ge1 ge2 (by rw [Int32.lt_iff_toInt_lt, hj]; decide)
  | succ d ih =>
    intro n j hnd hj T' h' locs' X0 e1 N0 Z1 Kp FA FB AA AB
    exact own_at Z a0 hw a b wa wb ta tb f g j n h0 n0 h' X0 hx hby hlk hml hown hret hZ e1 N0 Z1 Kp FA FB AA AB ne1 ne2 ne3 ne4 ne5 ne6 ge1 ge2 (by rw [Int32.lt_iff_toInt_lt, hj, show (55296 : Int32).toInt = 55296 from rfl]; omega) hj (by omega) (ih (n + 1) _ (by omega) (own_succ j n hj (by omega)))
set_option maxRecDepth 65536 in
set_option maxHeartbeats 40000000 in
theorem rm7 (l : Launch) (Z : State) (a0 : Array Value) (hw : ∀ d ∈ tables_1, d.before a0 Z = true) (ws : List Jvm.Cond) (a : Addr) (b : Addr) (wa : Addr) (wb : Addr) (ta : Int64) (tb : Int64) (f : Nat → Int64) (g : Nat → Int64) (h0 : Heap) (n0 : Nat) (Z0 : n0 ≤ h0.size) (f_O_a : own_LH Z h0 a (.ref wa) ta) (f_O_b : own_LH Z h0 b (.ref wb) tb) (f_AF_wa : own_AF Z h0 wa f) (f_AF_wb : own_AF Z h0 wb g) (ne_a_b : a ≠ b) (ne_a_wa : a ≠ wa) (ne_a_wb : a ≠ wb) (ne_b_wa : b ≠ wa) (ne_b_wb : b ≠ wb) (ne_wa_wb : wa ≠ wb) (ge_a : n0 ≤ a) (ge_wa : n0 ≤ wa) :
    MetFree l (⟨"com/example/earnest_reactor/earnestreactor/cli/LatencyHistogram", "add", "(Lcom/example/earnest_reactor/earnestreactor/cli/LatencyHistogram;)V"⟩ : MethodName) (head1 (Jvm.Cond.code (⟨"com/example/earnest_reactor/earnestreactor/cli/LatencyHistogram", "add", "(Lcom/example/earnest_reactor/earnestreactor/cli/LatencyHistogram;)V"⟩ : MethodName) prog_2_method_3_code 3 none :: ws) ({ frames := 0, cells := 0, slots := 0, locals := 0 } : Room)) (fun aa U => aa = #[(.ref a), (.ref b)] ∧ Z.Warmed39 U.vm ∧ U.heap = h0) (fun _ _ _ _ _ => True) (fun _ U oc U' => ∃ v L, oc = .returned v ∧ Q7 Z a b wa wb ta tb f g h0 n0 v U'.heap L ∧ FrameEnd U oc U' L ({ frames := 0, cells := 0, slots := 0, locals := 0 } : Room).cells ({ frames := 0, cells := 0, slots := 0, locals := 0 } : Room).slots) := by
  refine MetFree.of_bodySF (plainFor_of_name own_pn4) hisR ?_
  intro p e s m args below meth c s₁ Bd hml0 hP hK
  obtain ⟨rfl, hZ, hh⟩ := hP
  have hx := Bd.exec
  have hby := Bd.bytes
  have hlk := Bd.notSynchronized
  have hret := Bd.returns
  have hml : c.maxLocals = 3 := hml0
  have hown : s.vm.findClass "com/example/earnest_reactor/earnestreactor/cli/LatencyHistogram" = some m.cls := findClass_of_methodNamed Bd.named
  have hnm := (name_of_methodNamed Bd.named Bd.method).1
  have X0 : Stand p l e ({ frames := 0, cells := 0, slots := 0, locals := 0 } : Room) s m #[(.ref a), (.ref b)] below meth c s₁ [] 0 0 := Stand.of_body Bd
  have e0 : s₁.heap = h0 := by rw [← hh, Bd.state]; rfl
  have N0 := Fr.nil n0
  refine own_body (Q := Q7 Z a b wa wb ta tb f g h0 n0) (KC := ({ frames := 0, cells := 0, slots := 0, locals := 0 } : Room).cells) (KS := ({ frames := 0, cells := 0, slots := 0, locals := 0 } : Room).slots) ?_
  rw [own_ef_rm7 m a b]
  have Kp : Keep h0 h0 [a, wa] := Keep.refl h0 _
  refine own_iconst X0 hx hby d7_0 (pc' := 1) rfl (n := (0 : Int32)) (by decide) ?_
  refine own_istoreN X0 hx hby d7_1 (pc' := 2) rfl (l' := #[.val (.ref a), .val (.ref b), .val (.int (0 : Int32))]) rfl ?_
  exact own_aloop Z a0 hw a b wa wb ta tb f g h0 n0 hx hby hlk hml hown hret hZ ne_a_b ne_a_wa ne_a_wb ne_b_wa ne_b_wb ne_wa_wb ge_a ge_wa 55296 0 (0 : Int32) rfl rfl _ _ _ X0 e0 N0 Z0 Kp f_O_a f_O_b (f_AF_wa.congr fun i _ => own_mix0 f g i) f_AF_wb
/-- one mark, at n -/
def own_d (n : Nat) : Nat → Int64 := fun i => if i = n then 1 else 0
def own_st (n i : Nat) : Int64 := if n ≤ i then 1 else 0
theorem own_Sd (n : Nat) : ∀ i, own_S (own_d n) i = own_st n i := by
  intro i
  induction i with
  | zero => unfold own_S own_d own_st; by_cases q : n = 0 <;> simp [q, eq_comm]
  | succ i ih =>
    show own_S (own_d n) i + own_d n (i + 1) = _
    rw [ih]
    unfold own_d own_st
    by_cases q : n ≤ i
    · rw [if_pos q, if_neg (by omega), if_pos (by omega)]; decide
    · by_cases z : i + 1 = n
      · rw [if_neg q, if_pos z, if_pos (by omega)]; decide
      · rw [if_neg q, if_neg z, if_neg (by omega)]; decide
theorem own_Sadd (f g : Nat → Int64) : ∀ i, own_S (fun k => f k + g k) i = own_S f i + own_S g i := by
  intro i
  induction i with
  | zero => rfl
  | succ i ih =>
    show own_S (fun k => f k + g k) i + (f (i + 1) + g (i + 1)) = (own_S f i + f (i + 1)) + (own_S g i + g (i + 1))
    rw [ih]
    ac_rfl
theorem own_f1 (n : Nat) (h : n < 55296) : own_first (own_d n) (1 : Int64) n := by
  refine ⟨h, fun i hi => ?_, ?_⟩
  · rw [own_Sd, own_st, if_neg (by omega)]; decide
  · rw [own_Sd, own_st, if_pos (Nat.le_refl _)]; decide
theorem own_f2a (n m : Nat) (h : n < 55296) (h' : m < 55296) : own_first (fun k => own_d n k + own_d m k) (1 : Int64) (min n m) := by
  refine ⟨by omega, fun i hi => ?_, ?_⟩
  · rw [own_Sadd, own_Sd, own_Sd, own_st, own_st, if_neg (by omega), if_neg (by omega)]; decide
  · rw [own_Sadd, own_Sd, own_Sd, own_st, own_st]
    by_cases q : n ≤ min n m <;> by_cases z : m ≤ min n m <;> simp only [q, z, if_true, if_false] <;> first | decide | (exfalso; omega)
theorem own_f2b (n m : Nat) (h : n < 55296) (h' : m < 55296) : own_first (fun k => own_d n k + own_d m k) (2 : Int64) (max n m) := by
  refine ⟨by omega, fun i hi => ?_, ?_⟩
  · rw [own_Sadd, own_Sd, own_Sd, own_st, own_st]
    by_cases q : n ≤ i <;> by_cases z : m ≤ i <;> simp only [q, z, if_true, if_false] <;> first | decide | (exfalso; omega)
  · rw [own_Sadd, own_Sd, own_Sd, own_st, own_st, if_pos (by omega), if_pos (by omega)]; decide
def own_qi (n : Nat) : Int32 := Int32.ofNat n
theorem own_qie (n : Nat) (h : n < 55296) : (own_qi n).toInt = n := by
  unfold own_qi
  rw [Int32.toInt_ofNat_of_lt (by omega)]
theorem own_lmin (n m : Nat) (h : n < 55296) (h' : m < 55296) : own_low (own_qi (min n m)) = own_min (own_low (own_qi n)) (own_low (own_qi m)) := by
  have e1 := own_qie n h
  have e2 := own_qie m h'
  unfold own_min
  by_cases q : n ≤ m
  · rw [Nat.min_eq_left q]
    have := own_lowmono (own_qi n) (own_qi m) (by omega) (by omega) (by omega)
    rw [if_neg (by rw [Int64.lt_iff_toInt_lt]; omega)]
  · rw [Nat.min_eq_right (by omega)]
    have := own_lowmono (own_qi m) (own_qi n) (by omega) (by omega) (by omega)
    by_cases z : own_low (own_qi m) < own_low (own_qi n)
    · rw [if_pos z]
    · rw [if_neg z]; rw [Int64.lt_iff_toInt_lt] at z; exact Int64.toInt_inj.mp (by omega)
theorem own_lmax (n m : Nat) (h : n < 55296) (h' : m < 55296) : own_low (own_qi (max n m)) = own_max (own_low (own_qi n)) (own_low (own_qi m)) := by
  have e1 := own_qie n h
  have e2 := own_qie m h'
  unfold own_max
  by_cases q : n ≤ m
  · rw [Nat.max_eq_right q]
    have := own_lowmono (own_qi n) (own_qi m) (by omega) (by omega) (by omega)
    by_cases z : own_low (own_qi n) < own_low (own_qi m)
    · rw [if_pos z]
    · rw [if_neg z]; rw [Int64.lt_iff_toInt_lt] at z; exact Int64.toInt_inj.mp (by omega)
  · rw [Nat.max_eq_left (by omega)]
    have := own_lowmono (own_qi m) (own_qi n) (by omega) (by omega) (by omega)
    rw [if_neg (by rw [Int64.lt_iff_toInt_lt]; omega)]
theorem own_m63 (x : Int64) : 0 ≤ (x &&& (9223372036854775807 : Int64)).toInt := by
  rw [← Int64.toInt_toBitVec, Int64.toBitVec_and]
  have h : (x.toBitVec &&& (9223372036854775807 : Int64).toBitVec).msb = false := by
    rw [BitVec.msb_and, show ((9223372036854775807 : Int64).toBitVec).msb = false from by decide, Bool.and_false]
  rw [BitVec.toInt_eq_toNat_of_msb h]
  omega
theorem own_dset (n : Nat) (i : Nat) : own_upd (fun _ => (0 : Int64)) n ((fun _ => (0 : Int64)) n + 1) i = own_d n i := by
  unfold own_upd own_d
  by_cases q : i = n
  · rw [if_pos q, if_pos q]; rfl
  · rw [if_neg q, if_neg q]
theorem own_d0 (n : Nat) (i : Nat) : own_d n i + (fun _ => (0 : Int64)) i = own_d n i := by simp
theorem own_0d (n : Nat) (i : Nat) : (fun _ => (0 : Int64)) i + own_d n i = own_d n i := by simp
theorem own_stv {t : Term} {a0 : Array Value} {s : State} {k : Int32} (q : (Cond.eq t (Term.int k)).value a0 s none s [] = some true) : t.eval a0 s none [] s = some (.int k) := by
  cases hq : t.eval a0 s none [] s with
  | none => simp [Cond.value, hq, Term.int_eval] at q
  | some v => cases v <;> simp [Cond.value, hq, Term.int_eval] at q; rw [q]
theorem own_ef_rm0 (m : MethodId) (p0 : Int64) (p1 : Int64) (p2 : Int32)  : entryFrame m #[(.long p0), (.long p1), (.int p2)] maxLocals = mkF m 0 #[.val (.long p0), .second, .val (.long p1), .second, .val (.int p2), .unset, .unset, .unset, .unset, .unset, .unset, .unset, .unset, .unset, .unset, .unset, .unset, .unset, .unset, .unset, .unset] [] := by first | (simp [entryFrame, mkF, argsToLocals, Value.category, maxLocals]; done) | rfl
def Q0 (Z : State) (p0 : Int64) (p1 : Int64) (p2 : Int32) (h0 : Heap) (n0 : Nat) (v : Option Value) (h : Heap) (L : List Loc) : Prop := v = some (.int 1) ∧ Fr n0 L
set_option maxRecDepth 65536 in
set_option maxHeartbeats 40000000 in
theorem rm0 (l : Launch) (Z : State) (a0 : Array Value) (hw : ∀ d ∈ tables_1, d.before a0 Z = true) (ws : List Jvm.Cond) (p0 : Int64) (p1 : Int64) (p2 : Int32) (h0 : Heap) (n0 : Nat) (Z0 : n0 ≤ h0.size) (f_S_java_lang_StrictMath__assertionsDisabled : Sta Z h0 "java/lang/StrictMath" "$assertionsDisabled" "Z" (.int (1 : Int32))) :
    MetFree l x (head1 (Jvm.Cond.code x code maxLocals ret :: ws) room_1) (fun aa U => aa = #[(.long p0), (.long p1), (.int p2)] ∧ Z.Warmed39 U.vm ∧ U.heap = h0) (fun _ _ _ _ _ => True) (fun _ U oc U' => ∃ v L, oc = .returned v ∧ Q0 Z p0 p1 p2 h0 n0 v U'.heap L ∧ FrameEnd U oc U' L room_1.cells room_1.slots) := by
  refine MetFree.of_bodySF (plainFor_of_name own_pn12) hisR ?_
  intro p e s m args below meth c s₁ Bd hml0 hP hK
  obtain ⟨rfl, hZ, hh⟩ := hP
  have hx := Bd.exec
  have hby := Bd.bytes
  have hlk := Bd.notSynchronized
  have hret := Bd.returns
  have hml : c.maxLocals = 21 := hml0
  have hown : s.vm.findClass "com/example/earnest_reactor/earnestreactor/cli/LatencyHistogramAddPinLaw" = some m.cls := findClass_of_methodNamed Bd.named
  have hnm := (name_of_methodNamed Bd.named Bd.method).1
  have X0 : Stand p l e room_1 s m #[(.long p0), (.long p1), (.int p2)] below meth c s₁ [] 0 0 := Stand.of_body Bd
  have e0 : s₁.heap = h0 := by rw [← hh, Bd.state]; rfl
  have N0 := Fr.nil n0
  refine own_body (Q := Q0 Z p0 p1 p2 h0 n0) (KC := room_1.cells) (KS := room_1.slots) ?_
  rw [own_ef_rm0 m p0 p1 p2]
  refine own_iload X0 hx hby at_0 (pc' := 2) rfl rfl ?_
  refine own_iconst X0 hx hby at_2 (pc' := 3) rfl (n := (1 : Int32)) (by decide) ?_
  refine own_iand X0 hx hby at_3 (pc' := 4) rfl ?_
  refine own_if2 X0 hx hby at_4 (pc1 := 11) (by decide) (by decide) (pc2 := 7) rfl (fun (hc4 : (p2 &&& (1 : Int32)) = (0 : Int32)) => ?_) (fun (hc4 : ¬ (p2 &&& (1 : Int32)) = (0 : Int32)) => ?_)
  · refine own_iconst X0 hx hby at_11 (pc' := 12) rfl (n := (0 : Int32)) (by decide) ?_
    refine own_istore X0 hx hby at_12 (pc' := 14) rfl (l' := #[.val (.long p0), .second, .val (.long p1), .second, .val (.int p2), .val (.int (0 : Int32)), .unset, .unset, .unset, .unset, .unset, .unset, .unset, .unset, .unset, .unset, .unset, .unset, .unset, .unset, .unset]) rfl ?_
    refine own_iload X0 hx hby at_14 (pc' := 16) rfl rfl ?_
    refine own_iconst X0 hx hby at_16 (pc' := 17) rfl (n := (2 : Int32)) (by decide) ?_
    refine own_iand X0 hx hby at_17 (pc' := 18) rfl ?_
    refine own_if2 X0 hx hby at_18 (pc1 := 25) (by decide) (by decide) (pc2 := 21) rfl (fun (hc18 : (p2 &&& (2 : Int32)) = (0 : Int32)) => ?_) (fun (hc18 : ¬ (p2 &&& (2 : Int32)) = (0 : Int32)) => ?_)
    · refine own_iconst X0 hx hby at_25 (pc' := 26) rfl (n := (0 : Int32)) (by decide) ?_
      refine own_istore X0 hx hby at_26 (pc' := 28) rfl (l' := #[.val (.long p0), .second, .val (.long p1), .second, .val (.int p2), .val (.int (0 : Int32)), .val (.int (0 : Int32)), .unset, .unset, .unset, .unset, .unset, .unset, .unset, .unset, .unset, .unset, .unset, .unset, .unset, .unset]) rfl ?_
      refine own_lloadN X0 hx hby at_28 (pc' := 29) rfl rfl ?_
      refine own_ldc2Long X0 hx hZ hby hown (wd_0 hw) at_29 (pc' := 32) rfl ?_
      refine own_land X0 hx hby at_32 (pc' := 33) rfl ?_
      refine own_lstore X0 hx hby at_33 (pc' := 35) rfl (l' := #[.val (.long p0), .second, .val (.long p1), .second, .val (.int p2), .val (.int (0 : Int32)), .val (.int (0 : Int32)), .val (.long (p0 &&& (9223372036854775807 : Int64))), .second, .unset, .unset, .unset, .unset, .unset, .unset, .unset, .unset, .unset, .unset, .unset, .unset]) rfl ?_
      refine own_lloadN X0 hx hby at_35 (pc' := 36) rfl rfl ?_
      refine own_ldc2Long X0 hx hZ hby hown (wd_0 hw) at_36 (pc' := 39) rfl ?_
      refine own_land X0 hx hby at_39 (pc' := 40) rfl ?_
      refine own_lstore X0 hx hby at_40 (pc' := 42) rfl (l' := #[.val (.long p0), .second, .val (.long p1), .second, .val (.int p2), .val (.int (0 : Int32)), .val (.int (0 : Int32)), .val (.long (p0 &&& (9223372036854775807 : Int64))), .second, .val (.long (p1 &&& (9223372036854775807 : Int64))), .second, .unset, .unset, .unset, .unset, .unset, .unset, .unset, .unset, .unset, .unset]) rfl ?_
      refine own_new X0 hx hZ hby hown (wd_1 hw) (wd_2 hw) (wd_3 hw) e0 at_42 (pc' := 45) rfl (by decide) (by decide) (fun T1 h1 b1 g1 X1 e1 E1 A1 D1 => ?_)
      have ge_b1 : n0 ≤ b1 := by rw [g1]; exact Z0
      have f_S_java_lang_StrictMath__assertionsDisabled := f_S_java_lang_StrictMath__assertionsDisabled.ext E1
      have Zn := Nat.le_trans Z0 E1.1
      have f_O_b1 : own_LH Z h1 b1 .null (0 : Int64) := ⟨A1, D1 (Or.inr (wd_26 hw)) (ty := (.array .long)) (by decide), D1 (Or.inl (wd_34 hw)) (ty := .long) (by decide)⟩
      refine own_dup X1 hx hby at_45 (pc' := 46) rfl rfl ?_
      have lt_b1 := f_O_b1.lt
      have Zold := Zn
      refine own_lk5 hw X1 hx hZ hby (by rw [hml]; rfl) hown at_46 (pc' := 49) rfl e1 (W := 1) (Nat.le_of_eq rfl) (rm1 l Z a0 hw [] b1 h1 n0 Zn f_O_b1 ge_b1) (by decide) (by decide) (by decide) (by decide) (fun v3 T3 L3 X3 hQ3 => ?_)
      obtain ⟨rfl, Nq3, K3, w2, gw3, O3, A3⟩ := hQ3
      have N3 := Fr.app N0 Nq3
      have f_S_java_lang_StrictMath__assertionsDisabled := own_sta1 f_S_java_lang_StrictMath__assertionsDisabled K3 f_O_b1.1
      have Zn := Nat.le_trans Zn K3.1
      have ne_b1_w2 : b1 ≠ w2 := Nat.ne_of_lt (Nat.lt_of_lt_of_le lt_b1 gw3)
      have ge_w2 : n0 ≤ w2 := Nat.le_trans Zold gw3
      show own_End p e below _ (T3.setTop (mkF m 49 _ [(.ref b1)]))
      refine own_astore X3 hx hby at_49 (pc' := 51) rfl rfl (l' := #[.val (.long p0), .second, .val (.long p1), .second, .val (.int p2), .val (.int (0 : Int32)), .val (.int (0 : Int32)), .val (.long (p0 &&& (9223372036854775807 : Int64))), .second, .val (.long (p1 &&& (9223372036854775807 : Int64))), .second, .val (.ref b1), .unset, .unset, .unset, .unset, .unset, .unset, .unset, .unset, .unset]) rfl ?_
      refine own_new X3 hx hZ hby hown (wd_1 hw) (wd_2 hw) (wd_3 hw) rfl at_51 (pc' := 54) rfl (by decide) (by decide) (fun T4 h4 b4 g4 X4 e4 E4 A4 D4 => ?_)
      have ne_b1_b4 : b1 ≠ b4 := Nat.ne_of_lt (by rw [g4]; exact O3.lt)
      have ne_w2_b4 : w2 ≠ b4 := Nat.ne_of_lt (by rw [g4]; exact A3.lt)
      have ge_b4 : n0 ≤ b4 := by rw [g4]; exact Zn
      have f_S_java_lang_StrictMath__assertionsDisabled := f_S_java_lang_StrictMath__assertionsDisabled.ext E4
      have O3 := O3.ext E4
      have A3 := A3.ext E4
      have Zn := Nat.le_trans Zn E4.1
      have f_O_b4 : own_LH Z h4 b4 .null (0 : Int64) := ⟨A4, D4 (Or.inr (wd_26 hw)) (ty := (.array .long)) (by decide), D4 (Or.inl (wd_34 hw)) (ty := .long) (by decide)⟩
      refine own_dup X4 hx hby at_54 (pc' := 55) rfl rfl ?_
      have lt_b1 := O3.lt
      have lt_w2 := A3.lt
      have lt_b4 := f_O_b4.lt
      have Zold := Zn
      refine own_lk5 hw X4 hx hZ hby (by rw [hml]; rfl) hown at_55 (pc' := 58) rfl e4 (W := 1) (Nat.le_of_eq rfl) (rm1 l Z a0 hw [] b4 h4 n0 Zn f_O_b4 ge_b4) (by decide) (by decide) (by decide) (by decide) (fun v6 T6 L6 X6 hQ6 => ?_)
      obtain ⟨rfl, Nq6, K6, w5, gw6, O6, A6⟩ := hQ6
      have N6 := Fr.app N3 Nq6
      have f_S_java_lang_StrictMath__assertionsDisabled := own_sta1 f_S_java_lang_StrictMath__assertionsDisabled K6 f_O_b4.1
      have O3 := O3.keep K6 (ninS ne_b1_b4 nin0)
      have A3 := A3.keep K6 (ninS ne_w2_b4 nin0)
      have Zn := Nat.le_trans Zn K6.1
      have ne_b1_w5 : b1 ≠ w5 := Nat.ne_of_lt (Nat.lt_of_lt_of_le lt_b1 gw6)
      have ne_w2_w5 : w2 ≠ w5 := Nat.ne_of_lt (Nat.lt_of_lt_of_le lt_w2 gw6)
      have ne_b4_w5 : b4 ≠ w5 := Nat.ne_of_lt (Nat.lt_of_lt_of_le lt_b4 gw6)
      have ge_w5 : n0 ≤ w5 := Nat.le_trans Zold gw6
      show own_End p e below _ (T6.setTop (mkF m 58 _ [(.ref b4)]))
      refine own_astore X6 hx hby at_58 (pc' := 60) rfl rfl (l' := #[.val (.long p0), .second, .val (.long p1), .second, .val (.int p2), .val (.int (0 : Int32)), .val (.int (0 : Int32)), .val (.long (p0 &&& (9223372036854775807 : Int64))), .second, .val (.long (p1 &&& (9223372036854775807 : Int64))), .second, .val (.ref b1), .val (.ref b4), .unset, .unset, .unset, .unset, .unset, .unset, .unset, .unset]) rfl ?_
      refine own_iload X6 hx hby at_60 (pc' := 62) rfl rfl ?_
      refine own_ifY X6 hx hby at_62 (pc' := 72) (by decide) (by decide) (show (0 : Int32) = (0 : Int32) by decide) ?_
      refine own_iload X6 hx hby at_72 (pc' := 74) rfl rfl ?_
      refine own_ifY X6 hx hby at_74 (pc' := 84) (by decide) (by decide) (show (0 : Int32) = (0 : Int32) by decide) ?_
      refine own_aload X6 hx hby at_84 (pc' := 86) rfl rfl rfl ?_
      refine own_ldc2Double X6 hx hZ hby hown (wd_27 hw) at_86 (pc' := 89) rfl ?_
      refine own_lk6 hw X6 hx hZ hby (by rw [hml]; rfl) hown at_89 (pc' := 92) rfl rfl O3.1 (W := 0) (Nat.le_of_eq rfl) (rm6z l Z a0 hw [] b1 w2 (4636737291354636288 : UInt64) T6.heap n0 Zn O3) (by decide) (by decide) (by decide) (by decide) (fun v7 T7 L7 X7 hQ7 => ?_)
      obtain ⟨rfl, Nq7, e7⟩ := hQ7
      have N7 := Fr.app N6 Nq7
      show own_End p e below _ (T7.setTop (mkF m 92 _ [(.long (0 : Int64))]))
      refine own_lstore X7 hx hby at_92 (pc' := 94) rfl (l' := #[.val (.long p0), .second, .val (.long p1), .second, .val (.int p2), .val (.int (0 : Int32)), .val (.int (0 : Int32)), .val (.long (p0 &&& (9223372036854775807 : Int64))), .second, .val (.long (p1 &&& (9223372036854775807 : Int64))), .second, .val (.ref b1), .val (.ref b4), .val (.long (0 : Int64)), .second, .unset, .unset, .unset, .unset, .unset, .unset]) rfl ?_
      refine own_aload X7 hx hby at_94 (pc' := 96) rfl rfl rfl ?_
      refine own_ldc2Double X7 hx hZ hby hown (wd_27 hw) at_96 (pc' := 99) rfl ?_
      refine own_lk6 hw X7 hx hZ hby (by rw [hml]; rfl) hown at_99 (pc' := 102) rfl e7 O6.1 (W := 0) (Nat.le_of_eq rfl) (rm6z l Z a0 hw [] b4 w5 (4636737291354636288 : UInt64) T6.heap n0 Zn O6) (by decide) (by decide) (by decide) (by decide) (fun v8 T8 L8 X8 hQ8 => ?_)
      obtain ⟨rfl, Nq8, e8⟩ := hQ8
      have N8 := Fr.app N7 Nq8
      show own_End p e below _ (T8.setTop (mkF m 102 _ [(.long (0 : Int64))]))
      refine own_lstore X8 hx hby at_102 (pc' := 104) rfl (l' := #[.val (.long p0), .second, .val (.long p1), .second, .val (.int p2), .val (.int (0 : Int32)), .val (.int (0 : Int32)), .val (.long (p0 &&& (9223372036854775807 : Int64))), .second, .val (.long (p1 &&& (9223372036854775807 : Int64))), .second, .val (.ref b1), .val (.ref b4), .val (.long (0 : Int64)), .second, .val (.long (0 : Int64)), .second, .unset, .unset, .unset, .unset]) rfl ?_
      refine own_aload X8 hx hby at_104 (pc' := 106) rfl rfl rfl ?_
      refine own_aload X8 hx hby at_106 (pc' := 108) rfl rfl rfl ?_
      refine own_lk7 hw X8 hx hZ hby (by rw [hml]; rfl) hown at_108 (pc' := 111) rfl e8 O3.1 (W := 0) (Nat.le_of_eq rfl) (rm7 l Z a0 hw [] b1 b4 w2 w5 (0 : Int64) (0 : Int64) (fun _ => (0 : Int64)) (fun _ => (0 : Int64)) T6.heap n0 Zn O3 O6 A3 A6 ne_b1_b4 ne_b1_w2 ne_b1_w5 (Ne.symm ne_w2_b4) ne_b4_w5 ne_w2_w5 ge_b1 ge_w2) (by decide) (by decide) (by decide) (by decide) (fun v9 T9 L9 X9 hQ9 => ?_)
      obtain ⟨rfl, Nq9, K9, Oa9, Ob9, Aa9, Ab9⟩ := hQ9
      have N9 := Fr.app N8 Nq9
      have f_S_java_lang_StrictMath__assertionsDisabled := own_sta2 f_S_java_lang_StrictMath__assertionsDisabled K9 O3.1 A3
      have O6 := O6.keep K9 (ninS (Ne.symm ne_b1_b4) (ninS (Ne.symm ne_w2_b4) nin0))
      have A6 := A6.keep K9 (ninS (Ne.symm ne_b1_w5) (ninS (Ne.symm ne_w2_w5) nin0))
      have Zn := Nat.le_trans Zn K9.1
      have Oa9 : own_LH Z T9.heap b1 (.ref w2) (0 : Int64) := Oa9
      show own_End p e below _ (T9.setTop (mkF m 111 _ []))
      refine own_iload X9 hx hby at_111 (pc' := 113) rfl rfl ?_
      refine own_ifY X9 hx hby at_113 (pc' := 142) (by decide) (by decide) (show (0 : Int32) = (0 : Int32) by decide) ?_
      refine own_iload X9 hx hby at_142 (pc' := 144) rfl rfl ?_
      refine own_ifY X9 hx hby at_144 (pc' := 158) (by decide) (by decide) (show (0 : Int32) = (0 : Int32) by decide) ?_
      refine own_iload X9 hx hby at_158 (pc' := 160) rfl rfl ?_
      refine own_ifY X9 hx hby at_160 (pc' := 174) (by decide) (by decide) (show (0 : Int32) = (0 : Int32) by decide) ?_
      refine own_lconst X9 hx hby at_174 (pc' := 175) rfl (n := (0 : Int64)) (by decide) ?_
      refine own_lstore X9 hx hby at_175 (pc' := 177) rfl (l' := #[.val (.long p0), .second, .val (.long p1), .second, .val (.int p2), .val (.int (0 : Int32)), .val (.int (0 : Int32)), .val (.long (p0 &&& (9223372036854775807 : Int64))), .second, .val (.long (p1 &&& (9223372036854775807 : Int64))), .second, .val (.ref b1), .val (.ref b4), .val (.long (0 : Int64)), .second, .val (.long (0 : Int64)), .second, .val (.long (0 : Int64)), .second, .unset, .unset]) rfl ?_
      refine own_lconst X9 hx hby at_177 (pc' := 178) rfl (n := (0 : Int64)) (by decide) ?_
      refine own_lstore X9 hx hby at_178 (pc' := 180) rfl (l' := #[.val (.long p0), .second, .val (.long p1), .second, .val (.int p2), .val (.int (0 : Int32)), .val (.int (0 : Int32)), .val (.long (p0 &&& (9223372036854775807 : Int64))), .second, .val (.long (p1 &&& (9223372036854775807 : Int64))), .second, .val (.ref b1), .val (.ref b4), .val (.long (0 : Int64)), .second, .val (.long (0 : Int64)), .second, .val (.long (0 : Int64)), .second, .val (.long (0 : Int64)), .second]) rfl ?_
      refine own_aload X9 hx hby at_180 (pc' := 182) rfl rfl rfl ?_
      refine own_ldc2Double X9 hx hZ hby hown (wd_40 hw) at_182 (pc' := 185) rfl ?_
      refine own_lk6 hw X9 hx hZ hby (by rw [hml]; rfl) hown at_185 (pc' := 188) rfl rfl Oa9.1 (W := 0) (Nat.le_of_eq rfl) (rm6z l Z a0 hw [] b1 w2 (4632233691727265792 : UInt64) T9.heap n0 Zn Oa9) (by decide) (by decide) (by decide) (by decide) (fun v10 T10 L10 X10 hQ10 => ?_)
      obtain ⟨rfl, Nq10, e10⟩ := hQ10
      have N10 := Fr.app N9 Nq10
      show own_End p e below _ (T10.setTop (mkF m 188 _ [(.long (0 : Int64))]))
      refine own_lload X10 hx hby at_188 (pc' := 190) rfl rfl ?_
      refine own_lcmp X10 hx hby at_190 (pc' := 191) rfl ?_
      refine own_ifN X10 hx hby at_191 (pc' := 194) rfl (own_ctL_n (show (0 : Int64) = (0 : Int64) from rfl)) ?_
      refine own_aload X10 hx hby at_194 (pc' := 196) rfl rfl rfl ?_
      refine own_ldc2Double X10 hx hZ hby hown (wd_27 hw) at_196 (pc' := 199) rfl ?_
      refine own_lk6 hw X10 hx hZ hby (by rw [hml]; rfl) hown at_199 (pc' := 202) rfl e10 Oa9.1 (W := 0) (Nat.le_of_eq rfl) (rm6z l Z a0 hw [] b1 w2 (4636737291354636288 : UInt64) T9.heap n0 Zn Oa9) (by decide) (by decide) (by decide) (by decide) (fun v11 T11 L11 X11 hQ11 => ?_)
      obtain ⟨rfl, Nq11, e11⟩ := hQ11
      have N11 := Fr.app N10 Nq11
      show own_End p e below _ (T11.setTop (mkF m 202 _ [(.long (0 : Int64))]))
      refine own_lload X11 hx hby at_202 (pc' := 204) rfl rfl ?_
      refine own_lcmp X11 hx hby at_204 (pc' := 205) rfl ?_
      refine own_ifN X11 hx hby at_205 (pc' := 208) rfl (own_ctL_n (show (0 : Int64) = (0 : Int64) from rfl)) ?_
      refine own_aload X11 hx hby at_208 (pc' := 210) rfl rfl rfl ?_
      refine own_ldc2Double X11 hx hZ hby hown (wd_27 hw) at_210 (pc' := 213) rfl ?_
      refine own_lk6 hw X11 hx hZ hby (by rw [hml]; rfl) hown at_213 (pc' := 216) rfl e11 O6.1 (W := 0) (Nat.le_of_eq rfl) (rm6z l Z a0 hw [] b4 w5 (4636737291354636288 : UInt64) T9.heap n0 Zn O6) (by decide) (by decide) (by decide) (by decide) (fun v12 T12 L12 X12 hQ12 => ?_)
      obtain ⟨rfl, Nq12, e12⟩ := hQ12
      have N12 := Fr.app N11 Nq12
      show own_End p e below _ (T12.setTop (mkF m 216 _ [(.long (0 : Int64))]))
      refine own_lload X12 hx hby at_216 (pc' := 218) rfl rfl ?_
      refine own_lcmp X12 hx hby at_218 (pc' := 219) rfl ?_
      refine own_ifN X12 hx hby at_219 (pc' := 222) rfl (own_ctL_n (show (0 : Int64) = (0 : Int64) from rfl)) ?_
      refine own_iconst X12 hx hby at_222 (pc' := 223) rfl (n := (1 : Int32)) (by decide) ?_
      refine own_goto X12 hx hby at_223 (pc' := 227) (by decide) (by decide) ?_
      refine own_zreturn X12 hx hlk hby hret (Or.inr rfl) at_227 (own_lv ?_ (by decide) (by decide))
      show Q0 Z p0 p1 p2  h0 n0 (some (.int (1 : Int32))) T12.heap _
      rw [e12]
      exact ⟨rfl, N12⟩
    · refine own_iconst X0 hx hby at_21 (pc' := 22) rfl (n := (1 : Int32)) (by decide) ?_
      refine own_goto X0 hx hby at_22 (pc' := 26) (by decide) (by decide) ?_
      refine own_istore X0 hx hby at_26 (pc' := 28) rfl (l' := #[.val (.long p0), .second, .val (.long p1), .second, .val (.int p2), .val (.int (0 : Int32)), .val (.int (1 : Int32)), .unset, .unset, .unset, .unset, .unset, .unset, .unset, .unset, .unset, .unset, .unset, .unset, .unset, .unset]) rfl ?_
      refine own_lloadN X0 hx hby at_28 (pc' := 29) rfl rfl ?_
      refine own_ldc2Long X0 hx hZ hby hown (wd_0 hw) at_29 (pc' := 32) rfl ?_
      refine own_land X0 hx hby at_32 (pc' := 33) rfl ?_
      refine own_lstore X0 hx hby at_33 (pc' := 35) rfl (l' := #[.val (.long p0), .second, .val (.long p1), .second, .val (.int p2), .val (.int (0 : Int32)), .val (.int (1 : Int32)), .val (.long (p0 &&& (9223372036854775807 : Int64))), .second, .unset, .unset, .unset, .unset, .unset, .unset, .unset, .unset, .unset, .unset, .unset, .unset]) rfl ?_
      refine own_lloadN X0 hx hby at_35 (pc' := 36) rfl rfl ?_
      refine own_ldc2Long X0 hx hZ hby hown (wd_0 hw) at_36 (pc' := 39) rfl ?_
      refine own_land X0 hx hby at_39 (pc' := 40) rfl ?_
      refine own_lstore X0 hx hby at_40 (pc' := 42) rfl (l' := #[.val (.long p0), .second, .val (.long p1), .second, .val (.int p2), .val (.int (0 : Int32)), .val (.int (1 : Int32)), .val (.long (p0 &&& (9223372036854775807 : Int64))), .second, .val (.long (p1 &&& (9223372036854775807 : Int64))), .second, .unset, .unset, .unset, .unset, .unset, .unset, .unset, .unset, .unset, .unset]) rfl ?_
      refine own_new X0 hx hZ hby hown (wd_1 hw) (wd_2 hw) (wd_3 hw) e0 at_42 (pc' := 45) rfl (by decide) (by decide) (fun T13 h13 b13 g13 X13 e13 E13 A13 D13 => ?_)
      have ge_b13 : n0 ≤ b13 := by rw [g13]; exact Z0
      have f_S_java_lang_StrictMath__assertionsDisabled := f_S_java_lang_StrictMath__assertionsDisabled.ext E13
      have Zn := Nat.le_trans Z0 E13.1
      have f_O_b13 : own_LH Z h13 b13 .null (0 : Int64) := ⟨A13, D13 (Or.inr (wd_26 hw)) (ty := (.array .long)) (by decide), D13 (Or.inl (wd_34 hw)) (ty := .long) (by decide)⟩
      refine own_dup X13 hx hby at_45 (pc' := 46) rfl rfl ?_
      have lt_b13 := f_O_b13.lt
      have Zold := Zn
      refine own_lk5 hw X13 hx hZ hby (by rw [hml]; rfl) hown at_46 (pc' := 49) rfl e13 (W := 1) (Nat.le_of_eq rfl) (rm1 l Z a0 hw [] b13 h13 n0 Zn f_O_b13 ge_b13) (by decide) (by decide) (by decide) (by decide) (fun v15 T15 L15 X15 hQ15 => ?_)
      obtain ⟨rfl, Nq15, K15, w14, gw15, O15, A15⟩ := hQ15
      have N15 := Fr.app N0 Nq15
      have f_S_java_lang_StrictMath__assertionsDisabled := own_sta1 f_S_java_lang_StrictMath__assertionsDisabled K15 f_O_b13.1
      have Zn := Nat.le_trans Zn K15.1
      have ne_b13_w14 : b13 ≠ w14 := Nat.ne_of_lt (Nat.lt_of_lt_of_le lt_b13 gw15)
      have ge_w14 : n0 ≤ w14 := Nat.le_trans Zold gw15
      show own_End p e below _ (T15.setTop (mkF m 49 _ [(.ref b13)]))
      refine own_astore X15 hx hby at_49 (pc' := 51) rfl rfl (l' := #[.val (.long p0), .second, .val (.long p1), .second, .val (.int p2), .val (.int (0 : Int32)), .val (.int (1 : Int32)), .val (.long (p0 &&& (9223372036854775807 : Int64))), .second, .val (.long (p1 &&& (9223372036854775807 : Int64))), .second, .val (.ref b13), .unset, .unset, .unset, .unset, .unset, .unset, .unset, .unset, .unset]) rfl ?_
      refine own_new X15 hx hZ hby hown (wd_1 hw) (wd_2 hw) (wd_3 hw) rfl at_51 (pc' := 54) rfl (by decide) (by decide) (fun T16 h16 b16 g16 X16 e16 E16 A16 D16 => ?_)
      have ne_b13_b16 : b13 ≠ b16 := Nat.ne_of_lt (by rw [g16]; exact O15.lt)
      have ne_w14_b16 : w14 ≠ b16 := Nat.ne_of_lt (by rw [g16]; exact A15.lt)
      have ge_b16 : n0 ≤ b16 := by rw [g16]; exact Zn
      have f_S_java_lang_StrictMath__assertionsDisabled := f_S_java_lang_StrictMath__assertionsDisabled.ext E16
      have O15 := O15.ext E16
      have A15 := A15.ext E16
      have Zn := Nat.le_trans Zn E16.1
      have f_O_b16 : own_LH Z h16 b16 .null (0 : Int64) := ⟨A16, D16 (Or.inr (wd_26 hw)) (ty := (.array .long)) (by decide), D16 (Or.inl (wd_34 hw)) (ty := .long) (by decide)⟩
      refine own_dup X16 hx hby at_54 (pc' := 55) rfl rfl ?_
      have lt_b13 := O15.lt
      have lt_w14 := A15.lt
      have lt_b16 := f_O_b16.lt
      have Zold := Zn
      refine own_lk5 hw X16 hx hZ hby (by rw [hml]; rfl) hown at_55 (pc' := 58) rfl e16 (W := 1) (Nat.le_of_eq rfl) (rm1 l Z a0 hw [] b16 h16 n0 Zn f_O_b16 ge_b16) (by decide) (by decide) (by decide) (by decide) (fun v18 T18 L18 X18 hQ18 => ?_)
      obtain ⟨rfl, Nq18, K18, w17, gw18, O18, A18⟩ := hQ18
      have N18 := Fr.app N15 Nq18
      have f_S_java_lang_StrictMath__assertionsDisabled := own_sta1 f_S_java_lang_StrictMath__assertionsDisabled K18 f_O_b16.1
      have O15 := O15.keep K18 (ninS ne_b13_b16 nin0)
      have A15 := A15.keep K18 (ninS ne_w14_b16 nin0)
      have Zn := Nat.le_trans Zn K18.1
      have ne_b13_w17 : b13 ≠ w17 := Nat.ne_of_lt (Nat.lt_of_lt_of_le lt_b13 gw18)
      have ne_w14_w17 : w14 ≠ w17 := Nat.ne_of_lt (Nat.lt_of_lt_of_le lt_w14 gw18)
      have ne_b16_w17 : b16 ≠ w17 := Nat.ne_of_lt (Nat.lt_of_lt_of_le lt_b16 gw18)
      have ge_w17 : n0 ≤ w17 := Nat.le_trans Zold gw18
      show own_End p e below _ (T18.setTop (mkF m 58 _ [(.ref b16)]))
      refine own_astore X18 hx hby at_58 (pc' := 60) rfl rfl (l' := #[.val (.long p0), .second, .val (.long p1), .second, .val (.int p2), .val (.int (0 : Int32)), .val (.int (1 : Int32)), .val (.long (p0 &&& (9223372036854775807 : Int64))), .second, .val (.long (p1 &&& (9223372036854775807 : Int64))), .second, .val (.ref b13), .val (.ref b16), .unset, .unset, .unset, .unset, .unset, .unset, .unset, .unset]) rfl ?_
      refine own_iload X18 hx hby at_60 (pc' := 62) rfl rfl ?_
      refine own_ifY X18 hx hby at_62 (pc' := 72) (by decide) (by decide) (show (0 : Int32) = (0 : Int32) by decide) ?_
      refine own_iload X18 hx hby at_72 (pc' := 74) rfl rfl ?_
      refine own_ifN X18 hx hby at_74 (pc' := 77) rfl (show ¬ (1 : Int32) = (0 : Int32) by decide) ?_
      refine own_aload X18 hx hby at_77 (pc' := 79) rfl rfl rfl ?_
      refine own_lload X18 hx hby at_79 (pc' := 81) rfl rfl ?_
      refine own_lk8 hw X18 hx hZ hby (by rw [hml]; rfl) hown at_81 (pc' := 84) rfl rfl O18.1 (W := 0) (Nat.le_of_eq rfl) (rm8 l Z a0 hw [] b16 w17 (p1 &&& (9223372036854775807 : Int64)) (0 : Int64) (fun _ => (0 : Int64)) T18.heap n0 Zn O18 A18 ne_b16_w17 ge_b16 ge_w17 (own_m63 _)) (by decide) (by decide) (by decide) (by decide) (fun v20 T20 L20 X20 hQ20 => ?_)
      obtain ⟨rfl, Nq20, K20, O20, nn19, hnn19, A20⟩ := hQ20
      have N20 := Fr.app N18 Nq20
      have f_S_java_lang_StrictMath__assertionsDisabled := own_sta2 f_S_java_lang_StrictMath__assertionsDisabled K20 O18.1 A18
      have O15 := O15.keep K20 (ninS ne_b13_b16 (ninS ne_b13_w17 nin0))
      have A15 := A15.keep K20 (ninS ne_w14_b16 (ninS ne_w14_w17 nin0))
      have Zn := Nat.le_trans Zn K20.1
      have O20 : own_LH Z T20.heap b16 (.ref w17) (1 : Int64) := O20
      have A20 : own_AF Z T20.heap w17 (own_d nn19) := A20.congr fun i _ => own_dset nn19 i
      show own_End p e below _ (T20.setTop (mkF m 84 _ []))
      refine own_aload X20 hx hby at_84 (pc' := 86) rfl rfl rfl ?_
      refine own_ldc2Double X20 hx hZ hby hown (wd_27 hw) at_86 (pc' := 89) rfl ?_
      refine own_lk6 hw X20 hx hZ hby (by rw [hml]; rfl) hown at_89 (pc' := 92) rfl rfl O15.1 (W := 0) (Nat.le_of_eq rfl) (rm6z l Z a0 hw [] b13 w14 (4636737291354636288 : UInt64) T20.heap n0 Zn O15) (by decide) (by decide) (by decide) (by decide) (fun v21 T21 L21 X21 hQ21 => ?_)
      obtain ⟨rfl, Nq21, e21⟩ := hQ21
      have N21 := Fr.app N20 Nq21
      show own_End p e below _ (T21.setTop (mkF m 92 _ [(.long (0 : Int64))]))
      refine own_lstore X21 hx hby at_92 (pc' := 94) rfl (l' := #[.val (.long p0), .second, .val (.long p1), .second, .val (.int p2), .val (.int (0 : Int32)), .val (.int (1 : Int32)), .val (.long (p0 &&& (9223372036854775807 : Int64))), .second, .val (.long (p1 &&& (9223372036854775807 : Int64))), .second, .val (.ref b13), .val (.ref b16), .val (.long (0 : Int64)), .second, .unset, .unset, .unset, .unset, .unset, .unset]) rfl ?_
      refine own_aload X21 hx hby at_94 (pc' := 96) rfl rfl rfl ?_
      refine own_ldc2Double X21 hx hZ hby hown (wd_27 hw) at_96 (pc' := 99) rfl ?_
      refine own_lk6 hw X21 hx hZ hby (by rw [hml]; rfl) hown at_99 (pc' := 102) rfl e21 O20.1 (W := 0) (Nat.le_of_eq rfl) (rm6 l Z a0 hw [] b16 w17 (4636737291354636288 : UInt64) (1 : Int64) (1 : Int64) (own_d nn19) nn19 (own_qi nn19) T20.heap n0 Zn O20 A20 f_S_java_lang_StrictMath__assertionsDisabled (Or.inl ⟨rfl, rfl, rfl⟩) (own_f1 nn19 hnn19) (own_qie nn19 hnn19)) (by decide) (by decide) (by decide) (by decide) (fun v22 T22 L22 X22 hQ22 => ?_)
      obtain ⟨rfl, Nq22, e22⟩ := hQ22
      have N22 := Fr.app N21 Nq22
      show own_End p e below _ (T22.setTop (mkF m 102 _ [(.long (own_low (own_qi nn19)))]))
      refine own_lstore X22 hx hby at_102 (pc' := 104) rfl (l' := #[.val (.long p0), .second, .val (.long p1), .second, .val (.int p2), .val (.int (0 : Int32)), .val (.int (1 : Int32)), .val (.long (p0 &&& (9223372036854775807 : Int64))), .second, .val (.long (p1 &&& (9223372036854775807 : Int64))), .second, .val (.ref b13), .val (.ref b16), .val (.long (0 : Int64)), .second, .val (.long (own_low (own_qi nn19))), .second, .unset, .unset, .unset, .unset]) rfl ?_
      refine own_aload X22 hx hby at_104 (pc' := 106) rfl rfl rfl ?_
      refine own_aload X22 hx hby at_106 (pc' := 108) rfl rfl rfl ?_
      refine own_lk7 hw X22 hx hZ hby (by rw [hml]; rfl) hown at_108 (pc' := 111) rfl e22 O15.1 (W := 0) (Nat.le_of_eq rfl) (rm7 l Z a0 hw [] b13 b16 w14 w17 (0 : Int64) (1 : Int64) (fun _ => (0 : Int64)) (own_d nn19) T20.heap n0 Zn O15 O20 A15 A20 ne_b13_b16 ne_b13_w14 ne_b13_w17 (Ne.symm ne_w14_b16) ne_b16_w17 ne_w14_w17 ge_b13 ge_w14) (by decide) (by decide) (by decide) (by decide) (fun v23 T23 L23 X23 hQ23 => ?_)
      obtain ⟨rfl, Nq23, K23, Oa23, Ob23, Aa23, Ab23⟩ := hQ23
      have N23 := Fr.app N22 Nq23
      have f_S_java_lang_StrictMath__assertionsDisabled := own_sta2 f_S_java_lang_StrictMath__assertionsDisabled K23 O15.1 A15
      have O20 := O20.keep K23 (ninS (Ne.symm ne_b13_b16) (ninS (Ne.symm ne_w14_b16) nin0))
      have A20 := A20.keep K23 (ninS (Ne.symm ne_b13_w17) (ninS (Ne.symm ne_w14_w17) nin0))
      have Zn := Nat.le_trans Zn K23.1
      have Oa23 : own_LH Z T23.heap b13 (.ref w14) (1 : Int64) := Oa23
      have Aa23 : own_AF Z T23.heap w14 (own_d nn19) := Aa23.congr fun i _ => own_0d _ i
      show own_End p e below _ (T23.setTop (mkF m 111 _ []))
      refine own_iload X23 hx hby at_111 (pc' := 113) rfl rfl ?_
      refine own_ifY X23 hx hby at_113 (pc' := 142) (by decide) (by decide) (show (0 : Int32) = (0 : Int32) by decide) ?_
      refine own_iload X23 hx hby at_142 (pc' := 144) rfl rfl ?_
      refine own_ifY X23 hx hby at_144 (pc' := 158) (by decide) (by decide) (show (0 : Int32) = (0 : Int32) by decide) ?_
      refine own_iload X23 hx hby at_158 (pc' := 160) rfl rfl ?_
      refine own_ifN X23 hx hby at_160 (pc' := 163) rfl (show ¬ (1 : Int32) = (0 : Int32) by decide) ?_
      refine own_lload X23 hx hby at_163 (pc' := 165) rfl rfl ?_
      refine own_lstore X23 hx hby at_165 (pc' := 167) rfl (l' := #[.val (.long p0), .second, .val (.long p1), .second, .val (.int p2), .val (.int (0 : Int32)), .val (.int (1 : Int32)), .val (.long (p0 &&& (9223372036854775807 : Int64))), .second, .val (.long (p1 &&& (9223372036854775807 : Int64))), .second, .val (.ref b13), .val (.ref b16), .val (.long (0 : Int64)), .second, .val (.long (own_low (own_qi nn19))), .second, .val (.long (own_low (own_qi nn19))), .second, .unset, .unset]) rfl ?_
      refine own_lload X23 hx hby at_167 (pc' := 169) rfl rfl ?_
      refine own_lstore X23 hx hby at_169 (pc' := 171) rfl (l' := #[.val (.long p0), .second, .val (.long p1), .second, .val (.int p2), .val (.int (0 : Int32)), .val (.int (1 : Int32)), .val (.long (p0 &&& (9223372036854775807 : Int64))), .second, .val (.long (p1 &&& (9223372036854775807 : Int64))), .second, .val (.ref b13), .val (.ref b16), .val (.long (0 : Int64)), .second, .val (.long (own_low (own_qi nn19))), .second, .val (.long (own_low (own_qi nn19))), .second, .val (.long (own_low (own_qi nn19))), .second]) rfl ?_
      refine own_goto X23 hx hby at_171 (pc' := 180) (by decide) (by decide) ?_
      refine own_aload X23 hx hby at_180 (pc' := 182) rfl rfl rfl ?_
      refine own_ldc2Double X23 hx hZ hby hown (wd_40 hw) at_182 (pc' := 185) rfl ?_
      refine own_lk6 hw X23 hx hZ hby (by rw [hml]; rfl) hown at_185 (pc' := 188) rfl rfl Oa23.1 (W := 0) (Nat.le_of_eq rfl) (rm6 l Z a0 hw [] b13 w14 (4632233691727265792 : UInt64) (1 : Int64) (1 : Int64) (own_d nn19) nn19 (own_qi nn19) T23.heap n0 Zn Oa23 Aa23 f_S_java_lang_StrictMath__assertionsDisabled (Or.inr (Or.inl ⟨rfl, rfl, rfl⟩)) (own_f1 nn19 hnn19) (own_qie nn19 hnn19)) (by decide) (by decide) (by decide) (by decide) (fun v24 T24 L24 X24 hQ24 => ?_)
      obtain ⟨rfl, Nq24, e24⟩ := hQ24
      have N24 := Fr.app N23 Nq24
      show own_End p e below _ (T24.setTop (mkF m 188 _ [(.long (own_low (own_qi nn19)))]))
      refine own_lload X24 hx hby at_188 (pc' := 190) rfl rfl ?_
      refine own_lcmp X24 hx hby at_190 (pc' := 191) rfl ?_
      refine own_ifN X24 hx hby at_191 (pc' := 194) rfl (own_ctL_n (show (own_low (own_qi nn19)) = (own_low (own_qi nn19)) from rfl)) ?_
      refine own_aload X24 hx hby at_194 (pc' := 196) rfl rfl rfl ?_
      refine own_ldc2Double X24 hx hZ hby hown (wd_27 hw) at_196 (pc' := 199) rfl ?_
      refine own_lk6 hw X24 hx hZ hby (by rw [hml]; rfl) hown at_199 (pc' := 202) rfl e24 Oa23.1 (W := 0) (Nat.le_of_eq rfl) (rm6 l Z a0 hw [] b13 w14 (4636737291354636288 : UInt64) (1 : Int64) (1 : Int64) (own_d nn19) nn19 (own_qi nn19) T23.heap n0 Zn Oa23 Aa23 f_S_java_lang_StrictMath__assertionsDisabled (Or.inl ⟨rfl, rfl, rfl⟩) (own_f1 nn19 hnn19) (own_qie nn19 hnn19)) (by decide) (by decide) (by decide) (by decide) (fun v25 T25 L25 X25 hQ25 => ?_)
      obtain ⟨rfl, Nq25, e25⟩ := hQ25
      have N25 := Fr.app N24 Nq25
      show own_End p e below _ (T25.setTop (mkF m 202 _ [(.long (own_low (own_qi nn19)))]))
      refine own_lload X25 hx hby at_202 (pc' := 204) rfl rfl ?_
      refine own_lcmp X25 hx hby at_204 (pc' := 205) rfl ?_
      refine own_ifN X25 hx hby at_205 (pc' := 208) rfl (own_ctL_n (show (own_low (own_qi nn19)) = (own_low (own_qi nn19)) from rfl)) ?_
      refine own_aload X25 hx hby at_208 (pc' := 210) rfl rfl rfl ?_
      refine own_ldc2Double X25 hx hZ hby hown (wd_27 hw) at_210 (pc' := 213) rfl ?_
      refine own_lk6 hw X25 hx hZ hby (by rw [hml]; rfl) hown at_213 (pc' := 216) rfl e25 O20.1 (W := 0) (Nat.le_of_eq rfl) (rm6 l Z a0 hw [] b16 w17 (4636737291354636288 : UInt64) (1 : Int64) (1 : Int64) (own_d nn19) nn19 (own_qi nn19) T23.heap n0 Zn O20 A20 f_S_java_lang_StrictMath__assertionsDisabled (Or.inl ⟨rfl, rfl, rfl⟩) (own_f1 nn19 hnn19) (own_qie nn19 hnn19)) (by decide) (by decide) (by decide) (by decide) (fun v26 T26 L26 X26 hQ26 => ?_)
      obtain ⟨rfl, Nq26, e26⟩ := hQ26
      have N26 := Fr.app N25 Nq26
      show own_End p e below _ (T26.setTop (mkF m 216 _ [(.long (own_low (own_qi nn19)))]))
      refine own_lload X26 hx hby at_216 (pc' := 218) rfl rfl ?_
      refine own_lcmp X26 hx hby at_218 (pc' := 219) rfl ?_
      refine own_ifN X26 hx hby at_219 (pc' := 222) rfl (own_ctL_n (show (own_low (own_qi nn19)) = (own_low (own_qi nn19)) from rfl)) ?_
      refine own_iconst X26 hx hby at_222 (pc' := 223) rfl (n := (1 : Int32)) (by decide) ?_
      refine own_goto X26 hx hby at_223 (pc' := 227) (by decide) (by decide) ?_
      refine own_zreturn X26 hx hlk hby hret (Or.inr rfl) at_227 (own_lv ?_ (by decide) (by decide))
      show Q0 Z p0 p1 p2  h0 n0 (some (.int (1 : Int32))) T26.heap _
      rw [e26]
      exact ⟨rfl, N26⟩
  · refine own_iconst X0 hx hby at_7 (pc' := 8) rfl (n := (1 : Int32)) (by decide) ?_
    refine own_goto X0 hx hby at_8 (pc' := 12) (by decide) (by decide) ?_
    refine own_istore X0 hx hby at_12 (pc' := 14) rfl (l' := #[.val (.long p0), .second, .val (.long p1), .second, .val (.int p2), .val (.int (1 : Int32)), .unset, .unset, .unset, .unset, .unset, .unset, .unset, .unset, .unset, .unset, .unset, .unset, .unset, .unset, .unset]) rfl ?_
    refine own_iload X0 hx hby at_14 (pc' := 16) rfl rfl ?_
    refine own_iconst X0 hx hby at_16 (pc' := 17) rfl (n := (2 : Int32)) (by decide) ?_
    refine own_iand X0 hx hby at_17 (pc' := 18) rfl ?_
    refine own_if2 X0 hx hby at_18 (pc1 := 25) (by decide) (by decide) (pc2 := 21) rfl (fun (hc18 : (p2 &&& (2 : Int32)) = (0 : Int32)) => ?_) (fun (hc18 : ¬ (p2 &&& (2 : Int32)) = (0 : Int32)) => ?_)
    · refine own_iconst X0 hx hby at_25 (pc' := 26) rfl (n := (0 : Int32)) (by decide) ?_
      refine own_istore X0 hx hby at_26 (pc' := 28) rfl (l' := #[.val (.long p0), .second, .val (.long p1), .second, .val (.int p2), .val (.int (1 : Int32)), .val (.int (0 : Int32)), .unset, .unset, .unset, .unset, .unset, .unset, .unset, .unset, .unset, .unset, .unset, .unset, .unset, .unset]) rfl ?_
      refine own_lloadN X0 hx hby at_28 (pc' := 29) rfl rfl ?_
      refine own_ldc2Long X0 hx hZ hby hown (wd_0 hw) at_29 (pc' := 32) rfl ?_
      refine own_land X0 hx hby at_32 (pc' := 33) rfl ?_
      refine own_lstore X0 hx hby at_33 (pc' := 35) rfl (l' := #[.val (.long p0), .second, .val (.long p1), .second, .val (.int p2), .val (.int (1 : Int32)), .val (.int (0 : Int32)), .val (.long (p0 &&& (9223372036854775807 : Int64))), .second, .unset, .unset, .unset, .unset, .unset, .unset, .unset, .unset, .unset, .unset, .unset, .unset]) rfl ?_
      refine own_lloadN X0 hx hby at_35 (pc' := 36) rfl rfl ?_
      refine own_ldc2Long X0 hx hZ hby hown (wd_0 hw) at_36 (pc' := 39) rfl ?_
      refine own_land X0 hx hby at_39 (pc' := 40) rfl ?_
      refine own_lstore X0 hx hby at_40 (pc' := 42) rfl (l' := #[.val (.long p0), .second, .val (.long p1), .second, .val (.int p2), .val (.int (1 : Int32)), .val (.int (0 : Int32)), .val (.long (p0 &&& (9223372036854775807 : Int64))), .second, .val (.long (p1 &&& (9223372036854775807 : Int64))), .second, .unset, .unset, .unset, .unset, .unset, .unset, .unset, .unset, .unset, .unset]) rfl ?_
      refine own_new X0 hx hZ hby hown (wd_1 hw) (wd_2 hw) (wd_3 hw) e0 at_42 (pc' := 45) rfl (by decide) (by decide) (fun T27 h27 b27 g27 X27 e27 E27 A27 D27 => ?_)
      have ge_b27 : n0 ≤ b27 := by rw [g27]; exact Z0
      have f_S_java_lang_StrictMath__assertionsDisabled := f_S_java_lang_StrictMath__assertionsDisabled.ext E27
      have Zn := Nat.le_trans Z0 E27.1
      have f_O_b27 : own_LH Z h27 b27 .null (0 : Int64) := ⟨A27, D27 (Or.inr (wd_26 hw)) (ty := (.array .long)) (by decide), D27 (Or.inl (wd_34 hw)) (ty := .long) (by decide)⟩
      refine own_dup X27 hx hby at_45 (pc' := 46) rfl rfl ?_
      have lt_b27 := f_O_b27.lt
      have Zold := Zn
      refine own_lk5 hw X27 hx hZ hby (by rw [hml]; rfl) hown at_46 (pc' := 49) rfl e27 (W := 1) (Nat.le_of_eq rfl) (rm1 l Z a0 hw [] b27 h27 n0 Zn f_O_b27 ge_b27) (by decide) (by decide) (by decide) (by decide) (fun v29 T29 L29 X29 hQ29 => ?_)
      obtain ⟨rfl, Nq29, K29, w28, gw29, O29, A29⟩ := hQ29
      have N29 := Fr.app N0 Nq29
      have f_S_java_lang_StrictMath__assertionsDisabled := own_sta1 f_S_java_lang_StrictMath__assertionsDisabled K29 f_O_b27.1
      have Zn := Nat.le_trans Zn K29.1
      have ne_b27_w28 : b27 ≠ w28 := Nat.ne_of_lt (Nat.lt_of_lt_of_le lt_b27 gw29)
      have ge_w28 : n0 ≤ w28 := Nat.le_trans Zold gw29
      show own_End p e below _ (T29.setTop (mkF m 49 _ [(.ref b27)]))
      refine own_astore X29 hx hby at_49 (pc' := 51) rfl rfl (l' := #[.val (.long p0), .second, .val (.long p1), .second, .val (.int p2), .val (.int (1 : Int32)), .val (.int (0 : Int32)), .val (.long (p0 &&& (9223372036854775807 : Int64))), .second, .val (.long (p1 &&& (9223372036854775807 : Int64))), .second, .val (.ref b27), .unset, .unset, .unset, .unset, .unset, .unset, .unset, .unset, .unset]) rfl ?_
      refine own_new X29 hx hZ hby hown (wd_1 hw) (wd_2 hw) (wd_3 hw) rfl at_51 (pc' := 54) rfl (by decide) (by decide) (fun T30 h30 b30 g30 X30 e30 E30 A30 D30 => ?_)
      have ne_b27_b30 : b27 ≠ b30 := Nat.ne_of_lt (by rw [g30]; exact O29.lt)
      have ne_w28_b30 : w28 ≠ b30 := Nat.ne_of_lt (by rw [g30]; exact A29.lt)
      have ge_b30 : n0 ≤ b30 := by rw [g30]; exact Zn
      have f_S_java_lang_StrictMath__assertionsDisabled := f_S_java_lang_StrictMath__assertionsDisabled.ext E30
      have O29 := O29.ext E30
      have A29 := A29.ext E30
      have Zn := Nat.le_trans Zn E30.1
      have f_O_b30 : own_LH Z h30 b30 .null (0 : Int64) := ⟨A30, D30 (Or.inr (wd_26 hw)) (ty := (.array .long)) (by decide), D30 (Or.inl (wd_34 hw)) (ty := .long) (by decide)⟩
      refine own_dup X30 hx hby at_54 (pc' := 55) rfl rfl ?_
      have lt_b27 := O29.lt
      have lt_w28 := A29.lt
      have lt_b30 := f_O_b30.lt
      have Zold := Zn
      refine own_lk5 hw X30 hx hZ hby (by rw [hml]; rfl) hown at_55 (pc' := 58) rfl e30 (W := 1) (Nat.le_of_eq rfl) (rm1 l Z a0 hw [] b30 h30 n0 Zn f_O_b30 ge_b30) (by decide) (by decide) (by decide) (by decide) (fun v32 T32 L32 X32 hQ32 => ?_)
      obtain ⟨rfl, Nq32, K32, w31, gw32, O32, A32⟩ := hQ32
      have N32 := Fr.app N29 Nq32
      have f_S_java_lang_StrictMath__assertionsDisabled := own_sta1 f_S_java_lang_StrictMath__assertionsDisabled K32 f_O_b30.1
      have O29 := O29.keep K32 (ninS ne_b27_b30 nin0)
      have A29 := A29.keep K32 (ninS ne_w28_b30 nin0)
      have Zn := Nat.le_trans Zn K32.1
      have ne_b27_w31 : b27 ≠ w31 := Nat.ne_of_lt (Nat.lt_of_lt_of_le lt_b27 gw32)
      have ne_w28_w31 : w28 ≠ w31 := Nat.ne_of_lt (Nat.lt_of_lt_of_le lt_w28 gw32)
      have ne_b30_w31 : b30 ≠ w31 := Nat.ne_of_lt (Nat.lt_of_lt_of_le lt_b30 gw32)
      have ge_w31 : n0 ≤ w31 := Nat.le_trans Zold gw32
      show own_End p e below _ (T32.setTop (mkF m 58 _ [(.ref b30)]))
      refine own_astore X32 hx hby at_58 (pc' := 60) rfl rfl (l' := #[.val (.long p0), .second, .val (.long p1), .second, .val (.int p2), .val (.int (1 : Int32)), .val (.int (0 : Int32)), .val (.long (p0 &&& (9223372036854775807 : Int64))), .second, .val (.long (p1 &&& (9223372036854775807 : Int64))), .second, .val (.ref b27), .val (.ref b30), .unset, .unset, .unset, .unset, .unset, .unset, .unset, .unset]) rfl ?_
      refine own_iload X32 hx hby at_60 (pc' := 62) rfl rfl ?_
      refine own_ifN X32 hx hby at_62 (pc' := 65) rfl (show ¬ (1 : Int32) = (0 : Int32) by decide) ?_
      refine own_aload X32 hx hby at_65 (pc' := 67) rfl rfl rfl ?_
      refine own_lload X32 hx hby at_67 (pc' := 69) rfl rfl ?_
      refine own_lk8 hw X32 hx hZ hby (by rw [hml]; rfl) hown at_69 (pc' := 72) rfl rfl O29.1 (W := 0) (Nat.le_of_eq rfl) (rm8 l Z a0 hw [] b27 w28 (p0 &&& (9223372036854775807 : Int64)) (0 : Int64) (fun _ => (0 : Int64)) T32.heap n0 Zn O29 A29 ne_b27_w28 ge_b27 ge_w28 (own_m63 _)) (by decide) (by decide) (by decide) (by decide) (fun v34 T34 L34 X34 hQ34 => ?_)
      obtain ⟨rfl, Nq34, K34, O34, nn33, hnn33, A34⟩ := hQ34
      have N34 := Fr.app N32 Nq34
      have f_S_java_lang_StrictMath__assertionsDisabled := own_sta2 f_S_java_lang_StrictMath__assertionsDisabled K34 O29.1 A29
      have O32 := O32.keep K34 (ninS (Ne.symm ne_b27_b30) (ninS (Ne.symm ne_w28_b30) nin0))
      have A32 := A32.keep K34 (ninS (Ne.symm ne_b27_w31) (ninS (Ne.symm ne_w28_w31) nin0))
      have Zn := Nat.le_trans Zn K34.1
      have O34 : own_LH Z T34.heap b27 (.ref w28) (1 : Int64) := O34
      have A34 : own_AF Z T34.heap w28 (own_d nn33) := A34.congr fun i _ => own_dset nn33 i
      show own_End p e below _ (T34.setTop (mkF m 72 _ []))
      refine own_iload X34 hx hby at_72 (pc' := 74) rfl rfl ?_
      refine own_ifY X34 hx hby at_74 (pc' := 84) (by decide) (by decide) (show (0 : Int32) = (0 : Int32) by decide) ?_
      refine own_aload X34 hx hby at_84 (pc' := 86) rfl rfl rfl ?_
      refine own_ldc2Double X34 hx hZ hby hown (wd_27 hw) at_86 (pc' := 89) rfl ?_
      refine own_lk6 hw X34 hx hZ hby (by rw [hml]; rfl) hown at_89 (pc' := 92) rfl rfl O34.1 (W := 0) (Nat.le_of_eq rfl) (rm6 l Z a0 hw [] b27 w28 (4636737291354636288 : UInt64) (1 : Int64) (1 : Int64) (own_d nn33) nn33 (own_qi nn33) T34.heap n0 Zn O34 A34 f_S_java_lang_StrictMath__assertionsDisabled (Or.inl ⟨rfl, rfl, rfl⟩) (own_f1 nn33 hnn33) (own_qie nn33 hnn33)) (by decide) (by decide) (by decide) (by decide) (fun v35 T35 L35 X35 hQ35 => ?_)
      obtain ⟨rfl, Nq35, e35⟩ := hQ35
      have N35 := Fr.app N34 Nq35
      show own_End p e below _ (T35.setTop (mkF m 92 _ [(.long (own_low (own_qi nn33)))]))
      refine own_lstore X35 hx hby at_92 (pc' := 94) rfl (l' := #[.val (.long p0), .second, .val (.long p1), .second, .val (.int p2), .val (.int (1 : Int32)), .val (.int (0 : Int32)), .val (.long (p0 &&& (9223372036854775807 : Int64))), .second, .val (.long (p1 &&& (9223372036854775807 : Int64))), .second, .val (.ref b27), .val (.ref b30), .val (.long (own_low (own_qi nn33))), .second, .unset, .unset, .unset, .unset, .unset, .unset]) rfl ?_
      refine own_aload X35 hx hby at_94 (pc' := 96) rfl rfl rfl ?_
      refine own_ldc2Double X35 hx hZ hby hown (wd_27 hw) at_96 (pc' := 99) rfl ?_
      refine own_lk6 hw X35 hx hZ hby (by rw [hml]; rfl) hown at_99 (pc' := 102) rfl e35 O32.1 (W := 0) (Nat.le_of_eq rfl) (rm6z l Z a0 hw [] b30 w31 (4636737291354636288 : UInt64) T34.heap n0 Zn O32) (by decide) (by decide) (by decide) (by decide) (fun v36 T36 L36 X36 hQ36 => ?_)
      obtain ⟨rfl, Nq36, e36⟩ := hQ36
      have N36 := Fr.app N35 Nq36
      show own_End p e below _ (T36.setTop (mkF m 102 _ [(.long (0 : Int64))]))
      refine own_lstore X36 hx hby at_102 (pc' := 104) rfl (l' := #[.val (.long p0), .second, .val (.long p1), .second, .val (.int p2), .val (.int (1 : Int32)), .val (.int (0 : Int32)), .val (.long (p0 &&& (9223372036854775807 : Int64))), .second, .val (.long (p1 &&& (9223372036854775807 : Int64))), .second, .val (.ref b27), .val (.ref b30), .val (.long (own_low (own_qi nn33))), .second, .val (.long (0 : Int64)), .second, .unset, .unset, .unset, .unset]) rfl ?_
      refine own_aload X36 hx hby at_104 (pc' := 106) rfl rfl rfl ?_
      refine own_aload X36 hx hby at_106 (pc' := 108) rfl rfl rfl ?_
      refine own_lk7 hw X36 hx hZ hby (by rw [hml]; rfl) hown at_108 (pc' := 111) rfl e36 O34.1 (W := 0) (Nat.le_of_eq rfl) (rm7 l Z a0 hw [] b27 b30 w28 w31 (1 : Int64) (0 : Int64) (own_d nn33) (fun _ => (0 : Int64)) T34.heap n0 Zn O34 O32 A34 A32 ne_b27_b30 ne_b27_w28 ne_b27_w31 (Ne.symm ne_w28_b30) ne_b30_w31 ne_w28_w31 ge_b27 ge_w28) (by decide) (by decide) (by decide) (by decide) (fun v37 T37 L37 X37 hQ37 => ?_)
      obtain ⟨rfl, Nq37, K37, Oa37, Ob37, Aa37, Ab37⟩ := hQ37
      have N37 := Fr.app N36 Nq37
      have f_S_java_lang_StrictMath__assertionsDisabled := own_sta2 f_S_java_lang_StrictMath__assertionsDisabled K37 O34.1 A34
      have O32 := O32.keep K37 (ninS (Ne.symm ne_b27_b30) (ninS (Ne.symm ne_w28_b30) nin0))
      have A32 := A32.keep K37 (ninS (Ne.symm ne_b27_w31) (ninS (Ne.symm ne_w28_w31) nin0))
      have Zn := Nat.le_trans Zn K37.1
      have Oa37 : own_LH Z T37.heap b27 (.ref w28) (1 : Int64) := Oa37
      have Aa37 : own_AF Z T37.heap w28 (own_d nn33) := Aa37.congr fun i _ => own_d0 _ i
      show own_End p e below _ (T37.setTop (mkF m 111 _ []))
      refine own_iload X37 hx hby at_111 (pc' := 113) rfl rfl ?_
      refine own_ifN X37 hx hby at_113 (pc' := 116) rfl (show ¬ (1 : Int32) = (0 : Int32) by decide) ?_
      refine own_iload X37 hx hby at_116 (pc' := 118) rfl rfl ?_
      refine own_ifY X37 hx hby at_118 (pc' := 142) (by decide) (by decide) (show (0 : Int32) = (0 : Int32) by decide) ?_
      refine own_iload X37 hx hby at_142 (pc' := 144) rfl rfl ?_
      refine own_ifN X37 hx hby at_144 (pc' := 147) rfl (show ¬ (1 : Int32) = (0 : Int32) by decide) ?_
      refine own_lload X37 hx hby at_147 (pc' := 149) rfl rfl ?_
      refine own_lstore X37 hx hby at_149 (pc' := 151) rfl (l' := #[.val (.long p0), .second, .val (.long p1), .second, .val (.int p2), .val (.int (1 : Int32)), .val (.int (0 : Int32)), .val (.long (p0 &&& (9223372036854775807 : Int64))), .second, .val (.long (p1 &&& (9223372036854775807 : Int64))), .second, .val (.ref b27), .val (.ref b30), .val (.long (own_low (own_qi nn33))), .second, .val (.long (0 : Int64)), .second, .val (.long (own_low (own_qi nn33))), .second, .unset, .unset]) rfl ?_
      refine own_lload X37 hx hby at_151 (pc' := 153) rfl rfl ?_
      refine own_lstore X37 hx hby at_153 (pc' := 155) rfl (l' := #[.val (.long p0), .second, .val (.long p1), .second, .val (.int p2), .val (.int (1 : Int32)), .val (.int (0 : Int32)), .val (.long (p0 &&& (9223372036854775807 : Int64))), .second, .val (.long (p1 &&& (9223372036854775807 : Int64))), .second, .val (.ref b27), .val (.ref b30), .val (.long (own_low (own_qi nn33))), .second, .val (.long (0 : Int64)), .second, .val (.long (own_low (own_qi nn33))), .second, .val (.long (own_low (own_qi nn33))), .second]) rfl ?_
      refine own_goto X37 hx hby at_155 (pc' := 180) (by decide) (by decide) ?_
      refine own_aload X37 hx hby at_180 (pc' := 182) rfl rfl rfl ?_
      refine own_ldc2Double X37 hx hZ hby hown (wd_40 hw) at_182 (pc' := 185) rfl ?_
      refine own_lk6 hw X37 hx hZ hby (by rw [hml]; rfl) hown at_185 (pc' := 188) rfl rfl Oa37.1 (W := 0) (Nat.le_of_eq rfl) (rm6 l Z a0 hw [] b27 w28 (4632233691727265792 : UInt64) (1 : Int64) (1 : Int64) (own_d nn33) nn33 (own_qi nn33) T37.heap n0 Zn Oa37 Aa37 f_S_java_lang_StrictMath__assertionsDisabled (Or.inr (Or.inl ⟨rfl, rfl, rfl⟩)) (own_f1 nn33 hnn33) (own_qie nn33 hnn33)) (by decide) (by decide) (by decide) (by decide) (fun v38 T38 L38 X38 hQ38 => ?_)
      obtain ⟨rfl, Nq38, e38⟩ := hQ38
      have N38 := Fr.app N37 Nq38
      show own_End p e below _ (T38.setTop (mkF m 188 _ [(.long (own_low (own_qi nn33)))]))
      refine own_lload X38 hx hby at_188 (pc' := 190) rfl rfl ?_
      refine own_lcmp X38 hx hby at_190 (pc' := 191) rfl ?_
      refine own_ifN X38 hx hby at_191 (pc' := 194) rfl (own_ctL_n (show (own_low (own_qi nn33)) = (own_low (own_qi nn33)) from rfl)) ?_
      refine own_aload X38 hx hby at_194 (pc' := 196) rfl rfl rfl ?_
      refine own_ldc2Double X38 hx hZ hby hown (wd_27 hw) at_196 (pc' := 199) rfl ?_
      refine own_lk6 hw X38 hx hZ hby (by rw [hml]; rfl) hown at_199 (pc' := 202) rfl e38 Oa37.1 (W := 0) (Nat.le_of_eq rfl) (rm6 l Z a0 hw [] b27 w28 (4636737291354636288 : UInt64) (1 : Int64) (1 : Int64) (own_d nn33) nn33 (own_qi nn33) T37.heap n0 Zn Oa37 Aa37 f_S_java_lang_StrictMath__assertionsDisabled (Or.inl ⟨rfl, rfl, rfl⟩) (own_f1 nn33 hnn33) (own_qie nn33 hnn33)) (by decide) (by decide) (by decide) (by decide) (fun v39 T39 L39 X39 hQ39 => ?_)
      obtain ⟨rfl, Nq39, e39⟩ := hQ39
      have N39 := Fr.app N38 Nq39
      show own_End p e below _ (T39.setTop (mkF m 202 _ [(.long (own_low (own_qi nn33)))]))
      refine own_lload X39 hx hby at_202 (pc' := 204) rfl rfl ?_
      refine own_lcmp X39 hx hby at_204 (pc' := 205) rfl ?_
      refine own_ifN X39 hx hby at_205 (pc' := 208) rfl (own_ctL_n (show (own_low (own_qi nn33)) = (own_low (own_qi nn33)) from rfl)) ?_
      refine own_aload X39 hx hby at_208 (pc' := 210) rfl rfl rfl ?_
      refine own_ldc2Double X39 hx hZ hby hown (wd_27 hw) at_210 (pc' := 213) rfl ?_
      refine own_lk6 hw X39 hx hZ hby (by rw [hml]; rfl) hown at_213 (pc' := 216) rfl e39 O32.1 (W := 0) (Nat.le_of_eq rfl) (rm6z l Z a0 hw [] b30 w31 (4636737291354636288 : UInt64) T37.heap n0 Zn O32) (by decide) (by decide) (by decide) (by decide) (fun v40 T40 L40 X40 hQ40 => ?_)
      obtain ⟨rfl, Nq40, e40⟩ := hQ40
      have N40 := Fr.app N39 Nq40
      show own_End p e below _ (T40.setTop (mkF m 216 _ [(.long (0 : Int64))]))
      refine own_lload X40 hx hby at_216 (pc' := 218) rfl rfl ?_
      refine own_lcmp X40 hx hby at_218 (pc' := 219) rfl ?_
      refine own_ifN X40 hx hby at_219 (pc' := 222) rfl (own_ctL_n (show (0 : Int64) = (0 : Int64) from rfl)) ?_
      refine own_iconst X40 hx hby at_222 (pc' := 223) rfl (n := (1 : Int32)) (by decide) ?_
      refine own_goto X40 hx hby at_223 (pc' := 227) (by decide) (by decide) ?_
      refine own_zreturn X40 hx hlk hby hret (Or.inr rfl) at_227 (own_lv ?_ (by decide) (by decide))
      show Q0 Z p0 p1 p2  h0 n0 (some (.int (1 : Int32))) T40.heap _
      rw [e40]
      exact ⟨rfl, N40⟩
    · refine own_iconst X0 hx hby at_21 (pc' := 22) rfl (n := (1 : Int32)) (by decide) ?_
      refine own_goto X0 hx hby at_22 (pc' := 26) (by decide) (by decide) ?_
      refine own_istore X0 hx hby at_26 (pc' := 28) rfl (l' := #[.val (.long p0), .second, .val (.long p1), .second, .val (.int p2), .val (.int (1 : Int32)), .val (.int (1 : Int32)), .unset, .unset, .unset, .unset, .unset, .unset, .unset, .unset, .unset, .unset, .unset, .unset, .unset, .unset]) rfl ?_
      refine own_lloadN X0 hx hby at_28 (pc' := 29) rfl rfl ?_
      refine own_ldc2Long X0 hx hZ hby hown (wd_0 hw) at_29 (pc' := 32) rfl ?_
      refine own_land X0 hx hby at_32 (pc' := 33) rfl ?_
      refine own_lstore X0 hx hby at_33 (pc' := 35) rfl (l' := #[.val (.long p0), .second, .val (.long p1), .second, .val (.int p2), .val (.int (1 : Int32)), .val (.int (1 : Int32)), .val (.long (p0 &&& (9223372036854775807 : Int64))), .second, .unset, .unset, .unset, .unset, .unset, .unset, .unset, .unset, .unset, .unset, .unset, .unset]) rfl ?_
      refine own_lloadN X0 hx hby at_35 (pc' := 36) rfl rfl ?_
      refine own_ldc2Long X0 hx hZ hby hown (wd_0 hw) at_36 (pc' := 39) rfl ?_
      refine own_land X0 hx hby at_39 (pc' := 40) rfl ?_
      refine own_lstore X0 hx hby at_40 (pc' := 42) rfl (l' := #[.val (.long p0), .second, .val (.long p1), .second, .val (.int p2), .val (.int (1 : Int32)), .val (.int (1 : Int32)), .val (.long (p0 &&& (9223372036854775807 : Int64))), .second, .val (.long (p1 &&& (9223372036854775807 : Int64))), .second, .unset, .unset, .unset, .unset, .unset, .unset, .unset, .unset, .unset, .unset]) rfl ?_
      refine own_new X0 hx hZ hby hown (wd_1 hw) (wd_2 hw) (wd_3 hw) e0 at_42 (pc' := 45) rfl (by decide) (by decide) (fun T41 h41 b41 g41 X41 e41 E41 A41 D41 => ?_)
      have ge_b41 : n0 ≤ b41 := by rw [g41]; exact Z0
      have f_S_java_lang_StrictMath__assertionsDisabled := f_S_java_lang_StrictMath__assertionsDisabled.ext E41
      have Zn := Nat.le_trans Z0 E41.1
      have f_O_b41 : own_LH Z h41 b41 .null (0 : Int64) := ⟨A41, D41 (Or.inr (wd_26 hw)) (ty := (.array .long)) (by decide), D41 (Or.inl (wd_34 hw)) (ty := .long) (by decide)⟩
      refine own_dup X41 hx hby at_45 (pc' := 46) rfl rfl ?_
      have lt_b41 := f_O_b41.lt
      have Zold := Zn
      refine own_lk5 hw X41 hx hZ hby (by rw [hml]; rfl) hown at_46 (pc' := 49) rfl e41 (W := 1) (Nat.le_of_eq rfl) (rm1 l Z a0 hw [] b41 h41 n0 Zn f_O_b41 ge_b41) (by decide) (by decide) (by decide) (by decide) (fun v43 T43 L43 X43 hQ43 => ?_)
      obtain ⟨rfl, Nq43, K43, w42, gw43, O43, A43⟩ := hQ43
      have N43 := Fr.app N0 Nq43
      have f_S_java_lang_StrictMath__assertionsDisabled := own_sta1 f_S_java_lang_StrictMath__assertionsDisabled K43 f_O_b41.1
      have Zn := Nat.le_trans Zn K43.1
      have ne_b41_w42 : b41 ≠ w42 := Nat.ne_of_lt (Nat.lt_of_lt_of_le lt_b41 gw43)
      have ge_w42 : n0 ≤ w42 := Nat.le_trans Zold gw43
      show own_End p e below _ (T43.setTop (mkF m 49 _ [(.ref b41)]))
      refine own_astore X43 hx hby at_49 (pc' := 51) rfl rfl (l' := #[.val (.long p0), .second, .val (.long p1), .second, .val (.int p2), .val (.int (1 : Int32)), .val (.int (1 : Int32)), .val (.long (p0 &&& (9223372036854775807 : Int64))), .second, .val (.long (p1 &&& (9223372036854775807 : Int64))), .second, .val (.ref b41), .unset, .unset, .unset, .unset, .unset, .unset, .unset, .unset, .unset]) rfl ?_
      refine own_new X43 hx hZ hby hown (wd_1 hw) (wd_2 hw) (wd_3 hw) rfl at_51 (pc' := 54) rfl (by decide) (by decide) (fun T44 h44 b44 g44 X44 e44 E44 A44 D44 => ?_)
      have ne_b41_b44 : b41 ≠ b44 := Nat.ne_of_lt (by rw [g44]; exact O43.lt)
      have ne_w42_b44 : w42 ≠ b44 := Nat.ne_of_lt (by rw [g44]; exact A43.lt)
      have ge_b44 : n0 ≤ b44 := by rw [g44]; exact Zn
      have f_S_java_lang_StrictMath__assertionsDisabled := f_S_java_lang_StrictMath__assertionsDisabled.ext E44
      have O43 := O43.ext E44
      have A43 := A43.ext E44
      have Zn := Nat.le_trans Zn E44.1
      have f_O_b44 : own_LH Z h44 b44 .null (0 : Int64) := ⟨A44, D44 (Or.inr (wd_26 hw)) (ty := (.array .long)) (by decide), D44 (Or.inl (wd_34 hw)) (ty := .long) (by decide)⟩
      refine own_dup X44 hx hby at_54 (pc' := 55) rfl rfl ?_
      have lt_b41 := O43.lt
      have lt_w42 := A43.lt
      have lt_b44 := f_O_b44.lt
      have Zold := Zn
      refine own_lk5 hw X44 hx hZ hby (by rw [hml]; rfl) hown at_55 (pc' := 58) rfl e44 (W := 1) (Nat.le_of_eq rfl) (rm1 l Z a0 hw [] b44 h44 n0 Zn f_O_b44 ge_b44) (by decide) (by decide) (by decide) (by decide) (fun v46 T46 L46 X46 hQ46 => ?_)
      obtain ⟨rfl, Nq46, K46, w45, gw46, O46, A46⟩ := hQ46
      have N46 := Fr.app N43 Nq46
      have f_S_java_lang_StrictMath__assertionsDisabled := own_sta1 f_S_java_lang_StrictMath__assertionsDisabled K46 f_O_b44.1
      have O43 := O43.keep K46 (ninS ne_b41_b44 nin0)
      have A43 := A43.keep K46 (ninS ne_w42_b44 nin0)
      have Zn := Nat.le_trans Zn K46.1
      have ne_b41_w45 : b41 ≠ w45 := Nat.ne_of_lt (Nat.lt_of_lt_of_le lt_b41 gw46)
      have ne_w42_w45 : w42 ≠ w45 := Nat.ne_of_lt (Nat.lt_of_lt_of_le lt_w42 gw46)
      have ne_b44_w45 : b44 ≠ w45 := Nat.ne_of_lt (Nat.lt_of_lt_of_le lt_b44 gw46)
      have ge_w45 : n0 ≤ w45 := Nat.le_trans Zold gw46
      show own_End p e below _ (T46.setTop (mkF m 58 _ [(.ref b44)]))
      refine own_astore X46 hx hby at_58 (pc' := 60) rfl rfl (l' := #[.val (.long p0), .second, .val (.long p1), .second, .val (.int p2), .val (.int (1 : Int32)), .val (.int (1 : Int32)), .val (.long (p0 &&& (9223372036854775807 : Int64))), .second, .val (.long (p1 &&& (9223372036854775807 : Int64))), .second, .val (.ref b41), .val (.ref b44), .unset, .unset, .unset, .unset, .unset, .unset, .unset, .unset]) rfl ?_
      refine own_iload X46 hx hby at_60 (pc' := 62) rfl rfl ?_
      refine own_ifN X46 hx hby at_62 (pc' := 65) rfl (show ¬ (1 : Int32) = (0 : Int32) by decide) ?_
      refine own_aload X46 hx hby at_65 (pc' := 67) rfl rfl rfl ?_
      refine own_lload X46 hx hby at_67 (pc' := 69) rfl rfl ?_
      refine own_lk8 hw X46 hx hZ hby (by rw [hml]; rfl) hown at_69 (pc' := 72) rfl rfl O43.1 (W := 0) (Nat.le_of_eq rfl) (rm8 l Z a0 hw [] b41 w42 (p0 &&& (9223372036854775807 : Int64)) (0 : Int64) (fun _ => (0 : Int64)) T46.heap n0 Zn O43 A43 ne_b41_w42 ge_b41 ge_w42 (own_m63 _)) (by decide) (by decide) (by decide) (by decide) (fun v48 T48 L48 X48 hQ48 => ?_)
      obtain ⟨rfl, Nq48, K48, O48, nn47, hnn47, A48⟩ := hQ48
      have N48 := Fr.app N46 Nq48
      have f_S_java_lang_StrictMath__assertionsDisabled := own_sta2 f_S_java_lang_StrictMath__assertionsDisabled K48 O43.1 A43
      have O46 := O46.keep K48 (ninS (Ne.symm ne_b41_b44) (ninS (Ne.symm ne_w42_b44) nin0))
      have A46 := A46.keep K48 (ninS (Ne.symm ne_b41_w45) (ninS (Ne.symm ne_w42_w45) nin0))
      have Zn := Nat.le_trans Zn K48.1
      have O48 : own_LH Z T48.heap b41 (.ref w42) (1 : Int64) := O48
      have A48 : own_AF Z T48.heap w42 (own_d nn47) := A48.congr fun i _ => own_dset nn47 i
      show own_End p e below _ (T48.setTop (mkF m 72 _ []))
      refine own_iload X48 hx hby at_72 (pc' := 74) rfl rfl ?_
      refine own_ifN X48 hx hby at_74 (pc' := 77) rfl (show ¬ (1 : Int32) = (0 : Int32) by decide) ?_
      refine own_aload X48 hx hby at_77 (pc' := 79) rfl rfl rfl ?_
      refine own_lload X48 hx hby at_79 (pc' := 81) rfl rfl ?_
      refine own_lk8 hw X48 hx hZ hby (by rw [hml]; rfl) hown at_81 (pc' := 84) rfl rfl O46.1 (W := 0) (Nat.le_of_eq rfl) (rm8 l Z a0 hw [] b44 w45 (p1 &&& (9223372036854775807 : Int64)) (0 : Int64) (fun _ => (0 : Int64)) T48.heap n0 Zn O46 A46 ne_b44_w45 ge_b44 ge_w45 (own_m63 _)) (by decide) (by decide) (by decide) (by decide) (fun v50 T50 L50 X50 hQ50 => ?_)
      obtain ⟨rfl, Nq50, K50, O50, nn49, hnn49, A50⟩ := hQ50
      have N50 := Fr.app N48 Nq50
      have f_S_java_lang_StrictMath__assertionsDisabled := own_sta2 f_S_java_lang_StrictMath__assertionsDisabled K50 O46.1 A46
      have O48 := O48.keep K50 (ninS ne_b41_b44 (ninS ne_b41_w45 nin0))
      have A48 := A48.keep K50 (ninS ne_w42_b44 (ninS ne_w42_w45 nin0))
      have Zn := Nat.le_trans Zn K50.1
      have O50 : own_LH Z T50.heap b44 (.ref w45) (1 : Int64) := O50
      have A50 : own_AF Z T50.heap w45 (own_d nn49) := A50.congr fun i _ => own_dset nn49 i
      show own_End p e below _ (T50.setTop (mkF m 84 _ []))
      refine own_aload X50 hx hby at_84 (pc' := 86) rfl rfl rfl ?_
      refine own_ldc2Double X50 hx hZ hby hown (wd_27 hw) at_86 (pc' := 89) rfl ?_
      refine own_lk6 hw X50 hx hZ hby (by rw [hml]; rfl) hown at_89 (pc' := 92) rfl rfl O48.1 (W := 0) (Nat.le_of_eq rfl) (rm6 l Z a0 hw [] b41 w42 (4636737291354636288 : UInt64) (1 : Int64) (1 : Int64) (own_d nn47) nn47 (own_qi nn47) T50.heap n0 Zn O48 A48 f_S_java_lang_StrictMath__assertionsDisabled (Or.inl ⟨rfl, rfl, rfl⟩) (own_f1 nn47 hnn47) (own_qie nn47 hnn47)) (by decide) (by decide) (by decide) (by decide) (fun v51 T51 L51 X51 hQ51 => ?_)
      obtain ⟨rfl, Nq51, e51⟩ := hQ51
      have N51 := Fr.app N50 Nq51
      show own_End p e below _ (T51.setTop (mkF m 92 _ [(.long (own_low (own_qi nn47)))]))
      refine own_lstore X51 hx hby at_92 (pc' := 94) rfl (l' := #[.val (.long p0), .second, .val (.long p1), .second, .val (.int p2), .val (.int (1 : Int32)), .val (.int (1 : Int32)), .val (.long (p0 &&& (9223372036854775807 : Int64))), .second, .val (.long (p1 &&& (9223372036854775807 : Int64))), .second, .val (.ref b41), .val (.ref b44), .val (.long (own_low (own_qi nn47))), .second, .unset, .unset, .unset, .unset, .unset, .unset]) rfl ?_
      refine own_aload X51 hx hby at_94 (pc' := 96) rfl rfl rfl ?_
      refine own_ldc2Double X51 hx hZ hby hown (wd_27 hw) at_96 (pc' := 99) rfl ?_
      refine own_lk6 hw X51 hx hZ hby (by rw [hml]; rfl) hown at_99 (pc' := 102) rfl e51 O50.1 (W := 0) (Nat.le_of_eq rfl) (rm6 l Z a0 hw [] b44 w45 (4636737291354636288 : UInt64) (1 : Int64) (1 : Int64) (own_d nn49) nn49 (own_qi nn49) T50.heap n0 Zn O50 A50 f_S_java_lang_StrictMath__assertionsDisabled (Or.inl ⟨rfl, rfl, rfl⟩) (own_f1 nn49 hnn49) (own_qie nn49 hnn49)) (by decide) (by decide) (by decide) (by decide) (fun v52 T52 L52 X52 hQ52 => ?_)
      obtain ⟨rfl, Nq52, e52⟩ := hQ52
      have N52 := Fr.app N51 Nq52
      show own_End p e below _ (T52.setTop (mkF m 102 _ [(.long (own_low (own_qi nn49)))]))
      refine own_lstore X52 hx hby at_102 (pc' := 104) rfl (l' := #[.val (.long p0), .second, .val (.long p1), .second, .val (.int p2), .val (.int (1 : Int32)), .val (.int (1 : Int32)), .val (.long (p0 &&& (9223372036854775807 : Int64))), .second, .val (.long (p1 &&& (9223372036854775807 : Int64))), .second, .val (.ref b41), .val (.ref b44), .val (.long (own_low (own_qi nn47))), .second, .val (.long (own_low (own_qi nn49))), .second, .unset, .unset, .unset, .unset]) rfl ?_
      refine own_aload X52 hx hby at_104 (pc' := 106) rfl rfl rfl ?_
      refine own_aload X52 hx hby at_106 (pc' := 108) rfl rfl rfl ?_
      refine own_lk7 hw X52 hx hZ hby (by rw [hml]; rfl) hown at_108 (pc' := 111) rfl e52 O48.1 (W := 0) (Nat.le_of_eq rfl) (rm7 l Z a0 hw [] b41 b44 w42 w45 (1 : Int64) (1 : Int64) (own_d nn47) (own_d nn49) T50.heap n0 Zn O48 O50 A48 A50 ne_b41_b44 ne_b41_w42 ne_b41_w45 (Ne.symm ne_w42_b44) ne_b44_w45 ne_w42_w45 ge_b41 ge_w42) (by decide) (by decide) (by decide) (by decide) (fun v53 T53 L53 X53 hQ53 => ?_)
      obtain ⟨rfl, Nq53, K53, Oa53, Ob53, Aa53, Ab53⟩ := hQ53
      have N53 := Fr.app N52 Nq53
      have f_S_java_lang_StrictMath__assertionsDisabled := own_sta2 f_S_java_lang_StrictMath__assertionsDisabled K53 O48.1 A48
      have O50 := O50.keep K53 (ninS (Ne.symm ne_b41_b44) (ninS (Ne.symm ne_w42_b44) nin0))
      have A50 := A50.keep K53 (ninS (Ne.symm ne_b41_w45) (ninS (Ne.symm ne_w42_w45) nin0))
      have Zn := Nat.le_trans Zn K53.1
      have Oa53 : own_LH Z T53.heap b41 (.ref w42) (2 : Int64) := Oa53
      show own_End p e below _ (T53.setTop (mkF m 111 _ []))
      refine own_iload X53 hx hby at_111 (pc' := 113) rfl rfl ?_
      refine own_ifN X53 hx hby at_113 (pc' := 116) rfl (show ¬ (1 : Int32) = (0 : Int32) by decide) ?_
      refine own_iload X53 hx hby at_116 (pc' := 118) rfl rfl ?_
      refine own_ifN X53 hx hby at_118 (pc' := 121) rfl (show ¬ (1 : Int32) = (0 : Int32) by decide) ?_
      refine own_lload X53 hx hby at_121 (pc' := 123) rfl rfl ?_
      refine own_lload X53 hx hby at_123 (pc' := 125) rfl rfl ?_
      refine own_lk9 hw X53 hx hZ hby (by rw [hml]; rfl) hown at_125 (pc' := 128) rfl rfl (W := 0) (Nat.le_of_eq rfl) (rm15 l Z a0 hw [] (own_low (own_qi nn47)) (own_low (own_qi nn49)) T53.heap n0 Zn ) (by decide) (by decide) (by decide) (by decide) (fun v54 T54 L54 X54 hQ54 => ?_)
      obtain ⟨rfl, Nq54, e54⟩ := hQ54
      have N54 := Fr.app N53 Nq54
      show own_End p e below _ (T54.setTop (mkF m 128 _ [(.long (own_min (own_low (own_qi nn47)) (own_low (own_qi nn49))))]))
      refine own_lstore X54 hx hby at_128 (pc' := 130) rfl (l' := #[.val (.long p0), .second, .val (.long p1), .second, .val (.int p2), .val (.int (1 : Int32)), .val (.int (1 : Int32)), .val (.long (p0 &&& (9223372036854775807 : Int64))), .second, .val (.long (p1 &&& (9223372036854775807 : Int64))), .second, .val (.ref b41), .val (.ref b44), .val (.long (own_low (own_qi nn47))), .second, .val (.long (own_low (own_qi nn49))), .second, .val (.long (own_min (own_low (own_qi nn47)) (own_low (own_qi nn49)))), .second, .unset, .unset]) rfl ?_
      refine own_lload X54 hx hby at_130 (pc' := 132) rfl rfl ?_
      refine own_lload X54 hx hby at_132 (pc' := 134) rfl rfl ?_
      refine own_lk10 hw X54 hx hZ hby (by rw [hml]; rfl) hown at_134 (pc' := 137) rfl e54 (W := 0) (Nat.le_of_eq rfl) (rm13 l Z a0 hw [] (own_low (own_qi nn47)) (own_low (own_qi nn49)) T53.heap n0 Zn ) (by decide) (by decide) (by decide) (by decide) (fun v55 T55 L55 X55 hQ55 => ?_)
      obtain ⟨rfl, Nq55, e55⟩ := hQ55
      have N55 := Fr.app N54 Nq55
      show own_End p e below _ (T55.setTop (mkF m 137 _ [(.long (own_max (own_low (own_qi nn47)) (own_low (own_qi nn49))))]))
      refine own_lstore X55 hx hby at_137 (pc' := 139) rfl (l' := #[.val (.long p0), .second, .val (.long p1), .second, .val (.int p2), .val (.int (1 : Int32)), .val (.int (1 : Int32)), .val (.long (p0 &&& (9223372036854775807 : Int64))), .second, .val (.long (p1 &&& (9223372036854775807 : Int64))), .second, .val (.ref b41), .val (.ref b44), .val (.long (own_low (own_qi nn47))), .second, .val (.long (own_low (own_qi nn49))), .second, .val (.long (own_min (own_low (own_qi nn47)) (own_low (own_qi nn49)))), .second, .val (.long (own_max (own_low (own_qi nn47)) (own_low (own_qi nn49)))), .second]) rfl ?_
      refine own_goto X55 hx hby at_139 (pc' := 180) (by decide) (by decide) ?_
      refine own_aload X55 hx hby at_180 (pc' := 182) rfl rfl rfl ?_
      refine own_ldc2Double X55 hx hZ hby hown (wd_40 hw) at_182 (pc' := 185) rfl ?_
      refine own_lk6 hw X55 hx hZ hby (by rw [hml]; rfl) hown at_185 (pc' := 188) rfl e55 Oa53.1 (W := 0) (Nat.le_of_eq rfl) (rm6 l Z a0 hw [] b41 w42 (4632233691727265792 : UInt64) (2 : Int64) (1 : Int64) (fun i => (own_d nn47) i + (own_d nn49) i) (min nn47 nn49) (own_qi (min nn47 nn49)) T53.heap n0 Zn Oa53 Aa53 f_S_java_lang_StrictMath__assertionsDisabled (Or.inr (Or.inr (Or.inr ⟨rfl, rfl, rfl⟩))) (own_f2a nn47 nn49 hnn47 hnn49) (own_qie (min nn47 nn49) (by omega))) (by decide) (by decide) (by decide) (by decide) (fun v56 T56 L56 X56 hQ56 => ?_)
      obtain ⟨rfl, Nq56, e56⟩ := hQ56
      have N56 := Fr.app N55 Nq56
      show own_End p e below _ (T56.setTop (mkF m 188 _ [(.long (own_low (own_qi (min nn47 nn49))))]))
      refine own_lload X56 hx hby at_188 (pc' := 190) rfl rfl ?_
      refine own_lcmp X56 hx hby at_190 (pc' := 191) rfl ?_
      refine own_ifN X56 hx hby at_191 (pc' := 194) rfl (own_ctL_n (show (own_low (own_qi (min nn47 nn49))) = (own_min (own_low (own_qi nn47)) (own_low (own_qi nn49))) from (own_lmin nn47 nn49 hnn47 hnn49))) ?_
      refine own_aload X56 hx hby at_194 (pc' := 196) rfl rfl rfl ?_
      refine own_ldc2Double X56 hx hZ hby hown (wd_27 hw) at_196 (pc' := 199) rfl ?_
      refine own_lk6 hw X56 hx hZ hby (by rw [hml]; rfl) hown at_199 (pc' := 202) rfl e56 Oa53.1 (W := 0) (Nat.le_of_eq rfl) (rm6 l Z a0 hw [] b41 w42 (4636737291354636288 : UInt64) (2 : Int64) (2 : Int64) (fun i => (own_d nn47) i + (own_d nn49) i) (max nn47 nn49) (own_qi (max nn47 nn49)) T53.heap n0 Zn Oa53 Aa53 f_S_java_lang_StrictMath__assertionsDisabled (Or.inr (Or.inr (Or.inl ⟨rfl, rfl, rfl⟩))) (own_f2b nn47 nn49 hnn47 hnn49) (own_qie (max nn47 nn49) (by omega))) (by decide) (by decide) (by decide) (by decide) (fun v57 T57 L57 X57 hQ57 => ?_)
      obtain ⟨rfl, Nq57, e57⟩ := hQ57
      have N57 := Fr.app N56 Nq57
      show own_End p e below _ (T57.setTop (mkF m 202 _ [(.long (own_low (own_qi (max nn47 nn49))))]))
      refine own_lload X57 hx hby at_202 (pc' := 204) rfl rfl ?_
      refine own_lcmp X57 hx hby at_204 (pc' := 205) rfl ?_
      refine own_ifN X57 hx hby at_205 (pc' := 208) rfl (own_ctL_n (show (own_low (own_qi (max nn47 nn49))) = (own_max (own_low (own_qi nn47)) (own_low (own_qi nn49))) from (own_lmax nn47 nn49 hnn47 hnn49))) ?_
      refine own_aload X57 hx hby at_208 (pc' := 210) rfl rfl rfl ?_
      refine own_ldc2Double X57 hx hZ hby hown (wd_27 hw) at_210 (pc' := 213) rfl ?_
      refine own_lk6 hw X57 hx hZ hby (by rw [hml]; rfl) hown at_213 (pc' := 216) rfl e57 O50.1 (W := 0) (Nat.le_of_eq rfl) (rm6 l Z a0 hw [] b44 w45 (4636737291354636288 : UInt64) (1 : Int64) (1 : Int64) (own_d nn49) nn49 (own_qi nn49) T53.heap n0 Zn O50 A50 f_S_java_lang_StrictMath__assertionsDisabled (Or.inl ⟨rfl, rfl, rfl⟩) (own_f1 nn49 hnn49) (own_qie nn49 hnn49)) (by decide) (by decide) (by decide) (by decide) (fun v58 T58 L58 X58 hQ58 => ?_)
      obtain ⟨rfl, Nq58, e58⟩ := hQ58
      have N58 := Fr.app N57 Nq58
      show own_End p e below _ (T58.setTop (mkF m 216 _ [(.long (own_low (own_qi nn49)))]))
      refine own_lload X58 hx hby at_216 (pc' := 218) rfl rfl ?_
      refine own_lcmp X58 hx hby at_218 (pc' := 219) rfl ?_
      refine own_ifN X58 hx hby at_219 (pc' := 222) rfl (own_ctL_n (show (own_low (own_qi nn49)) = (own_low (own_qi nn49)) from rfl)) ?_
      refine own_iconst X58 hx hby at_222 (pc' := 223) rfl (n := (1 : Int32)) (by decide) ?_
      refine own_goto X58 hx hby at_223 (pc' := 227) (by decide) (by decide) ?_
      refine own_zreturn X58 hx hlk hby hret (Or.inr rfl) at_227 (own_lv ?_ (by decide) (by decide))
      show Q0 Z p0 p1 p2  h0 n0 (some (.int (1 : Int32))) T58.heap _
      rw [e58]
      exact ⟨rfl, N58⟩
set_option maxRecDepth 65536 in
set_option maxHeartbeats 40000000 in
theorem comes_1 {Post : Tables → Env → Array Value → State → Outcome → State → Prop} (hpost : ∀ tb e args s v u, (limb_1_1.after args s (.returned v) u = true ∧ limb_1_2.after args s (.returned v) u = true ∧ True) → FrameEnd s (.returned v) u (Jvm.fieldLocs frame_1_writes args s ++ Jvm.arrayLocs frame_1_arrays args s ++ Jvm.staticLocs frame_1_statics s) 16 132736 → Post tb e args s (.returned v) u) :
    ArmFor flags0 classFile x code maxLocals ret World_1 tables_1 room_1 Calls_1 rest_1 Pre_1 Post := by
  intro l hfl _ _ p e ha hc hk s m args below hf hA hF happ hP
  obtain ⟨hcalls, hrest, hpre⟩ := hP
  obtain ⟨-, -, -, hnamed, -, -, -, hat⟩ := (Spec.applies_iff hf).mp happ
  obtain ⟨hg, hn⟩ := and_e (Cond.before_iff.mp (show (Jvm.Cond.and given_1 narrow_1).before args s = true from hpre))
  obtain ⟨g1, g2⟩ := and_e hg
  obtain ⟨g3, g4⟩ := and_e g2
  obtain ⟨g5, g6⟩ := and_e g4
  obtain ⟨w0, w1, w2, rfl⟩ : ∃ w0 w1 w2 : Value, args = #[w0, w1, w2] := by
    have hs : args.size = 3 := by simpa [Cond.value, given_1] using g1
    obtain ⟨L⟩ := args
    match L, hs with
    | [w0, w1, w2], _ => exact ⟨w0, w1, w2, rfl⟩
  have hw := fun d (hd : d ∈ tables_1) => atoms_spec (ws := Jvm.Cond.code x code maxLocals ret :: tables_1) hat d (List.mem_cons_of_mem _ hd)
  have hfit : Fit s := fun {y c} hc i hi => by
    obtain ⟨ha, rfl⟩ := Array.getElem?_eq_some_iff.mp hc
    have q := List.all_eq_true.mp ((Array.all_eq_true_iff_forall_mem.mp hF) _ (Array.getElem_mem ha)) i (List.mem_range.mpr hi)
    simpa [Array.getElem?_eq_getElem hi] using q
  obtain ⟨hsets, hown0⟩ := atoms_of _ (rest_1_c_eq ▸ (show rest_1_c.before _ s = true from hrest))
  have hr0 := Cond.before_iff.mp hown0
  obtain ⟨i0, ei0⟩ := isL_v g3
  obtain rfl : w0 = (.long i0) := Option.some.inj ei0
  obtain ⟨i1, ei1⟩ := isL_v g5
  obtain rfl : w1 = (.long i1) := Option.some.inj ei1
  obtain ⟨i2, ei2⟩ := is_v g6
  obtain rfl : w2 = (.int i2) := Option.some.inj ei2
  have s1 := hsets _ (List.mem_of_getElem? (i := 1) rfl)
  have s2 := hsets _ (List.mem_of_getElem? (i := 2) rfl)
  have hSA := Sta.start (own_stv (Cond.before_iff.mp s2)) (Or.inl s1)
  obtain ⟨n, o, h1, h2, h3, _, L, rfl, ⟨rfl, N⟩, hq⟩ := rm0 l s _ hw tables_1 i0 i1 i2 s.heap s.heap.size (Nat.le_refl _) hSA p e ha hc hk s m _ below hf ((Spec.applies_iff_loose hf).mp happ).1 ⟨rfl, State.Warmed39.refl s, rfl⟩ trivial
  refine ⟨n, _, h1, h2, h3, hpost _ _ _ _ _ _ ⟨Cond.after_iff.mpr rfl, Cond.after_iff.mpr (eq_i res_at (Term.int_eval (1)) rfl), trivial⟩ ⟨hq.1, hq.2.1, (hq.2.2.sift fun y hy => Or.inr (N y hy)).mono (by decide) (by decide)⟩⟩
theorem main_1_1 : Claimed_1_1 := comes_1 fun _ _ _ _ _ _ h hF => ⟨h.1, hF⟩
theorem main_1_2 : Claimed_1_2 := comes_1 fun _ _ _ _ _ _ h hF => ⟨h.2.1, hF⟩
end Jvm.Pilot.@@N@@
namespace Jvm.Pilot.@@N@@
open Jvm Jvm.ClassFile Sem Op Lib Jvm.Free Jvm.Stand Jvm.Pilot.@@N@@.Jvm.D
/-! MADE BY PROGRAM (witnessworld.py) out of the Statement's table words and the real class files: 20 classes; the members and pool entries that the words name. The judged class is class 1, her method 1. -/
namespace start1
open Jvm.ClassFile
def u (s : String) : CpInfo := .utf8 (stringToUtf16 s)
/-- a pool by its gaps: so many unusable entries, then the entry; so many at the end -/
def gap : Nat → List CpInfo → List CpInfo
  | 0, r => r
  | n + 1, r => .unusable :: gap n r
def poolList (es : List (Nat × CpInfo)) (last : Nat) : List CpInfo := es.foldr (fun e r => gap e.1 (e.2 :: r)) (gap last [])
def pool (es : List (Nat × CpInfo)) (last : Nat) : Array CpInfo := ⟨poolList es last⟩
def fileOf (pool : Array CpInfo) (this : Nat) (attrs : Array Attribute := #[]) (ms : Array MethodInfo := #[]) (fl : Nat := 33) (sup : Nat := 0) (ifs : Array Nat := #[]) (fds : Array FieldInfo := #[]) : ClassFile where
  minorVersion := 0
  majorVersion := 65
  constantPool := pool
  accessFlags := fl
  thisClass := this
  superClass := sup
  interfaces := ifs
  fields := fds
  methods := ms
  attributes := attrs
def plain (name : String) (sup : Option ClassId) : Class where
  name := name
  kind := .ordinary
  loader := none
  accessFlags := 33
  super := sup
  interfaces := #[]
  cf := none
  fields := #[]
  methods := #[]
  instanceTypes := #[]
  staticTypes := #[]
  resolved := #[]
  callSites := []
  init := .initialized
  statics := none
  mirror := none

def pool0 : Array CpInfo := pool [(5, u "<init>"), (0, u "()V"), (1, .class_ 10), (1, u "java/lang/Object")] 113

def k0c0 : Code := { maxStack := 0, maxLocals := 1, code := object_method_1_code, exceptionTable := #[], attributes := #[] }
def k0m0 : Method := { name := "<init>", desc := "()V", sig := { parameters := [], returnType := none }, accessFlags := 1, code := some k0c0 }
/-- java/lang/Object -/
def k0 : Class := { plain "java/lang/Object" none with
  accessFlags := 33
  interfaces := #[]
  cf := some (fileOf pool0 8 #[] #[{ accessFlags := 1, nameIndex := 5, descriptorIndex := 6, attributes := #[] }] 33 0 #[] #[])
  fields := #[]
  methods := #[k0m0]
  instanceTypes := #[]
  staticTypes := #[]
  resolved := Array.replicate 124 none
  statics := none }

def pool1 : Array CpInfo := pool [(2, .class_ 4), (0, .nameAndType 5 6), (0, u "java/lang/Object"), (0, u "<init>"), (0, u "()V"), (2, .long 9223372036854775807), (1, .class_ 12), (0, u "com/example/earnest_reactor/earnestreactor/cli/LatencyHistogram"), (0, .methodref 11 3), (0, .methodref 11 15), (0, .nameAndType 16 17), (0, u "record"), (0, u "(J)V"), (0, .double 4636737291354636288), (1, .methodref 11 21), (0, .nameAndType 22 23), (0, u "percentile"), (0, u "(D)J"), (0, .methodref 11 25), (0, .nameAndType 26 27), (0, u "add"), (0, u "(Lcom/example/earnest_reactor/earnestreactor/cli/LatencyHistogram;)V"), (0, .methodref 29 30), (0, .class_ 31), (0, .nameAndType 32 33), (0, u "java/lang/Math"), (0, u "min"), (0, u "(JJ)J"), (0, .methodref 29 35), (0, .nameAndType 36 33), (0, u "max"), (0, .double 4632233691727265792), (1, .class_ 40), (0, u "com/example/earnest_reactor/earnestreactor/cli/LatencyHistogramAddPinLaw"), (2, u "law"), (0, u "(JJI)Z")] 3

def k1m0 : Method := { name := "<init>", desc := "()V", sig := { parameters := [], returnType := none }, accessFlags := 1, code := none }
def k1c1 : Code := { maxStack := 4, maxLocals := 21, code := code, exceptionTable := #[], attributes := #[] }
def k1m1 : Method := { name := "law", desc := "(JJI)Z", sig := { parameters := [.long, .long, .int], returnType := some .boolean }, accessFlags := 9, code := some k1c1 }
/-- com/example/earnest_reactor/earnestreactor/cli/LatencyHistogramAddPinLaw -/
def k1 : Class := { plain "com/example/earnest_reactor/earnestreactor/cli/LatencyHistogramAddPinLaw" (some 0) with
  accessFlags := 49
  interfaces := #[]
  cf := some (fileOf pool1 39 #[] #[{ accessFlags := 1, nameIndex := 5, descriptorIndex := 6, attributes := #[] }, { accessFlags := 9, nameIndex := 43, descriptorIndex := 44, attributes := #[] }] 49 2 #[] #[])
  fields := #[]
  methods := #[k1m0, k1m1]
  instanceTypes := #[]
  staticTypes := #[]
  resolved := Array.replicate 48 none
  statics := none }

def pool2 : Array CpInfo := pool [(1, .class_ 2), (0, u "com/example/earnest_reactor/earnestreactor/cli/LatencyHistogram"), (0, .methodref 4 5), (0, .class_ 6), (0, .nameAndType 7 8), (0, u "java/lang/Object"), (0, u "<init>"), (0, u "()V"), (0, .class_ 10), (0, u "java/lang/Long"), (0, .long 9223372036854775807), (1, .methodref 1 14), (0, .nameAndType 15 16), (0, u "bucket"), (0, u "(J)I"), (0, .fieldref 1 18), (0, .nameAndType 19 20), (0, u "counts"), (0, u "[J"), (0, .fieldref 1 22), (0, .nameAndType 23 24), (0, u "total"), (0, u "J"), (0, .double 4636737291354636288), (1, .methodref 28 29), (0, .class_ 30), (0, .nameAndType 31 32), (0, u "java/lang/Math"), (0, u "ceil"), (0, u "(D)D"), (0, .methodref 28 34), (0, .nameAndType 35 36), (0, u "max"), (0, u "(JJ)J"), (0, .methodref 1 38), (0, .nameAndType 39 40), (0, u "lowest"), (0, u "(I)J"), (0, .long 2048), (1, .methodref 9 44), (0, .nameAndType 45 16), (0, u "numberOfLeadingZeros"), (0, u "SUB_BITS"), (0, u "I"), (2, u "SUB_BUCKETS"), (3, u "record"), (0, u "(J)V"), (0, u "add"), (0, u "(Lcom/example/earnest_reactor/earnestreactor/cli/LatencyHistogram;)V"), (1, u "percentile"), (0, u "(D)J")] 2

def k2c0 : Code := { maxStack := 3, maxLocals := 1, code := prog_2_method_1_code, exceptionTable := #[], attributes := #[] }
def k2m0 : Method := { name := "<init>", desc := "()V", sig := { parameters := [], returnType := none }, accessFlags := 0, code := some k2c0 }
def k2c1 : Code := { maxStack := 6, maxLocals := 3, code := prog_2_method_2_code, exceptionTable := #[], attributes := #[] }
def k2m1 : Method := { name := "record", desc := "(J)V", sig := { parameters := [.long], returnType := none }, accessFlags := 0, code := some k2c1 }
def k2c2 : Code := { maxStack := 6, maxLocals := 3, code := prog_2_method_3_code, exceptionTable := #[], attributes := #[] }
def k2m2 : Method := { name := "add", desc := "(Lcom/example/earnest_reactor/earnestreactor/cli/LatencyHistogram;)V", sig := { parameters := [(.object "com/example/earnest_reactor/earnestreactor/cli/LatencyHistogram")], returnType := none }, accessFlags := 0, code := some k2c2 }
def k2c3 : Code := { maxStack := 6, maxLocals := 8, code := prog_2_method_4_code, exceptionTable := #[], attributes := #[] }
def k2m3 : Method := { name := "percentile", desc := "(D)J", sig := { parameters := [.double], returnType := some .long }, accessFlags := 0, code := some k2c3 }
def k2c4 : Code := { maxStack := 4, maxLocals := 4, code := prog_2_method_5_code, exceptionTable := #[], attributes := #[] }
def k2m4 : Method := { name := "bucket", desc := "(J)I", sig := { parameters := [.long], returnType := some .int }, accessFlags := 10, code := some k2c4 }
def k2c5 : Code := { maxStack := 3, maxLocals := 4, code := prog_2_method_6_code, exceptionTable := #[], attributes := #[] }
def k2m5 : Method := { name := "lowest", desc := "(I)J", sig := { parameters := [.int], returnType := some .long }, accessFlags := 10, code := some k2c5 }
/-- com/example/earnest_reactor/earnestreactor/cli/LatencyHistogram -/
def k2 : Class := { plain "com/example/earnest_reactor/earnestreactor/cli/LatencyHistogram" (some 0) with
  accessFlags := 32
  interfaces := #[]
  cf := some (fileOf pool2 1 #[] #[{ accessFlags := 0, nameIndex := 7, descriptorIndex := 8, attributes := #[] }, { accessFlags := 0, nameIndex := 54, descriptorIndex := 55, attributes := #[] }, { accessFlags := 0, nameIndex := 56, descriptorIndex := 57, attributes := #[] }, { accessFlags := 0, nameIndex := 59, descriptorIndex := 60, attributes := #[] }, { accessFlags := 10, nameIndex := 15, descriptorIndex := 16, attributes := #[] }, { accessFlags := 10, nameIndex := 39, descriptorIndex := 40, attributes := #[] }] 32 4 #[] #[{ accessFlags := 26, nameIndex := 46, descriptorIndex := 47, attributes := #[] }, { accessFlags := 26, nameIndex := 50, descriptorIndex := 47, attributes := #[] }, { accessFlags := 18, nameIndex := 19, descriptorIndex := 20, attributes := #[] }, { accessFlags := 2, nameIndex := 23, descriptorIndex := 24, attributes := #[] }])
  fields := #[{ name := "SUB_BITS", type := .int, accessFlags := 26, slot := 0, constantValue := 0 }, { name := "SUB_BUCKETS", type := .int, accessFlags := 26, slot := 1, constantValue := 0 }, { name := "counts", type := (.array .long), accessFlags := 18, slot := 0, constantValue := 0 }, { name := "total", type := .long, accessFlags := 2, slot := 1, constantValue := 0 }]
  methods := #[k2m0, k2m1, k2m2, k2m3, k2m4, k2m5]
  instanceTypes := #[(.array .long), .long]
  staticTypes := #[.int, .int]
  resolved := Array.replicate 63 none
  statics := none }

def pool3 : Array CpInfo := pool [(1, .class_ 2), (0, u "java/io/Serializable"), (0, .class_ 4), (0, u "java/lang/Object")] 2

/-- java/io/Serializable -/
def k3 : Class := { plain "java/io/Serializable" (some 0) with
  accessFlags := 1537
  interfaces := #[]
  cf := some (fileOf pool3 1 #[] #[] 1537 3 #[] #[])
  fields := #[]
  methods := #[]
  instanceTypes := #[]
  staticTypes := #[]
  resolved := Array.replicate 7 none
  statics := none }

def pool4 : Array CpInfo := pool [(2, .class_ 4), (1, u "java/lang/Object"), (0, u "<init>"), (0, u "()V"), (1, .class_ 10), (1, u "java/lang/Number"), (2, .class_ 14), (0, u "java/io/Serializable"), (0, u "serialVersionUID"), (0, u "J")] 20

def k4m0 : Method := { name := "<init>", desc := "()V", sig := { parameters := [], returnType := none }, accessFlags := 1, code := none }
/-- java/lang/Number -/
def k4 : Class := { plain "java/lang/Number" (some 0) with
  accessFlags := 1057
  interfaces := #[3]
  cf := some (fileOf pool4 8 #[] #[{ accessFlags := 1, nameIndex := 5, descriptorIndex := 6, attributes := #[] }] 1057 2 #[13] #[{ accessFlags := 26, nameIndex := 15, descriptorIndex := 16, attributes := #[] }])
  fields := #[{ name := "serialVersionUID", type := .long, accessFlags := 26, slot := 0, constantValue := 0 }]
  methods := #[k4m0]
  instanceTypes := #[]
  staticTypes := #[.long]
  resolved := Array.replicate 37 none
  statics := none }

def pool5 : Array CpInfo := pool [(1, .class_ 2), (0, u "java/lang/Comparable"), (0, .class_ 4), (0, u "java/lang/Object")] 7

/-- java/lang/Comparable -/
def k5 : Class := { plain "java/lang/Comparable" (some 0) with
  accessFlags := 1537
  interfaces := #[]
  cf := some (fileOf pool5 1 #[] #[] 1537 3 #[] #[])
  fields := #[]
  methods := #[]
  instanceTypes := #[]
  staticTypes := #[]
  resolved := Array.replicate 12 none
  statics := none }

def pool6 : Array CpInfo := pool [(1, .class_ 2), (0, u "java/lang/constant/Constable"), (0, .class_ 4), (0, u "java/lang/Object")] 6

/-- java/lang/constant/Constable -/
def k6 : Class := { plain "java/lang/constant/Constable" (some 0) with
  accessFlags := 1537
  interfaces := #[]
  cf := some (fileOf pool6 1 #[] #[] 1537 3 #[] #[])
  fields := #[]
  methods := #[]
  instanceTypes := #[]
  staticTypes := #[]
  resolved := Array.replicate 11 none
  statics := none }

def pool7 : Array CpInfo := pool [(1, .class_ 2), (0, u "java/lang/constant/ConstantDesc"), (0, .class_ 4), (0, u "java/lang/Object")] 32

/-- java/lang/constant/ConstantDesc -/
def k7 : Class := { plain "java/lang/constant/ConstantDesc" (some 0) with
  accessFlags := 1537
  interfaces := #[]
  cf := some (fileOf pool7 1 #[] #[] 1537 3 #[] #[])
  fields := #[]
  methods := #[]
  instanceTypes := #[]
  staticTypes := #[]
  resolved := Array.replicate 37 none
  statics := none }

def pool8 : Array CpInfo := pool [(1, .class_ 2), (0, u "java/lang/Long"), (15, .class_ 20), (1, u "java/lang/Integer"), (79, u "numberOfLeadingZeros"), (0, u "(J)I"), (133, .class_ 237), (1, u "java/lang/Long$LongCache"), (33, .class_ 272), (0, u "java/lang/Number"), (2, u "value"), (0, u "J"), (31, .methodref 18 309), (0, .nameAndType 100 310), (0, u "(I)I"), (50, u "TYPE"), (0, u "Ljava/lang/Class;"), (0, .class_ 364), (0, u "java/lang/Comparable"), (0, .class_ 366), (0, u "java/lang/constant/Constable"), (0, .class_ 368), (0, u "java/lang/constant/ConstantDesc"), (0, u "MIN_VALUE"), (1, u "MAX_VALUE"), (4, u "SIZE"), (0, u "I"), (1, u "BYTES"), (1, u "serialVersionUID")] 142

def k8c0 : Code := { maxStack := 3, maxLocals := 3, code := jdk_35_method_48_code, exceptionTable := #[], attributes := #[] }
def k8m0 : Method := { name := "numberOfLeadingZeros", desc := "(J)I", sig := { parameters := [.long], returnType := some .int }, accessFlags := 9, code := some k8c0 }
/-- java/lang/Long -/
def k8 : Class := { plain "java/lang/Long" (some 4) with
  accessFlags := 49
  interfaces := #[5, 6, 7]
  cf := some (fileOf pool8 1 #[.nestMembers #[235]] #[{ accessFlags := 9, nameIndex := 100, descriptorIndex := 101, attributes := #[] }] 49 271 #[363, 365, 367] #[{ accessFlags := 25, nameIndex := 369, descriptorIndex := 276, attributes := #[] }, { accessFlags := 25, nameIndex := 371, descriptorIndex := 276, attributes := #[] }, { accessFlags := 25, nameIndex := 361, descriptorIndex := 362, attributes := #[] }, { accessFlags := 18, nameIndex := 275, descriptorIndex := 276, attributes := #[] }, { accessFlags := 25, nameIndex := 376, descriptorIndex := 377, attributes := #[] }, { accessFlags := 25, nameIndex := 379, descriptorIndex := 377, attributes := #[] }, { accessFlags := 26, nameIndex := 381, descriptorIndex := 276, attributes := #[] }])
  fields := #[{ name := "MIN_VALUE", type := .long, accessFlags := 25, slot := 0, constantValue := 0 }, { name := "MAX_VALUE", type := .long, accessFlags := 25, slot := 1, constantValue := 0 }, { name := "TYPE", type := (.object "java/lang/Class"), accessFlags := 25, slot := 2, constantValue := 0 }, { name := "value", type := .long, accessFlags := 18, slot := 0, constantValue := 0 }, { name := "SIZE", type := .int, accessFlags := 25, slot := 3, constantValue := 0 }, { name := "BYTES", type := .int, accessFlags := 25, slot := 4, constantValue := 0 }, { name := "serialVersionUID", type := .long, accessFlags := 26, slot := 5, constantValue := 0 }]
  methods := #[k8m0]
  instanceTypes := #[.long]
  staticTypes := #[.long, .long, (.object "java/lang/Class"), .int, .int, .long]
  resolved := Array.replicate 524 none
  statics := none }

def pool9 : Array CpInfo := pool [(1, .class_ 2), (0, u "java/lang/Integer"), (16, u "digits"), (0, u "[C"), (32, u "numberOfLeadingZeros"), (0, u "(I)I"), (30, u "DigitOnes"), (0, u "[B"), (2, u "DigitTens"), (99, .class_ 190), (0, u "java/lang/Integer$IntegerCache"), (3, u "I"), (8, .class_ 204), (0, u "java/lang/Number"), (2, u "value"), (56, .integer 65536), (37, u "TYPE"), (0, u "Ljava/lang/Class;"), (0, .class_ 305), (0, u "java/lang/Comparable"), (0, .class_ 307), (0, u "java/lang/constant/Constable"), (0, .class_ 309), (0, u "java/lang/constant/ConstantDesc"), (0, u "MIN_VALUE"), (1, u "MAX_VALUE"), (3, u "SIZE"), (1, u "BYTES"), (1, u "serialVersionUID"), (0, u "J")] 131

def k9c0 : Code := { maxStack := 3, maxLocals := 2, code := jdk_33_method_47_code, exceptionTable := #[], attributes := #[] }
def k9m0 : Method := { name := "numberOfLeadingZeros", desc := "(I)I", sig := { parameters := [.int], returnType := some .int }, accessFlags := 9, code := some k9c0 }
/-- java/lang/Integer -/
def k9 : Class := { plain "java/lang/Integer" (some 4) with
  accessFlags := 49
  interfaces := #[5, 6, 7]
  cf := some (fileOf pool9 1 #[.nestMembers #[189]] #[{ accessFlags := 9, nameIndex := 53, descriptorIndex := 54, attributes := #[] }] 49 203 #[304, 306, 308] #[{ accessFlags := 25, nameIndex := 310, descriptorIndex := 194, attributes := #[] }, { accessFlags := 25, nameIndex := 312, descriptorIndex := 194, attributes := #[] }, { accessFlags := 25, nameIndex := 302, descriptorIndex := 303, attributes := #[] }, { accessFlags := 24, nameIndex := 19, descriptorIndex := 20, attributes := #[] }, { accessFlags := 24, nameIndex := 89, descriptorIndex := 86, attributes := #[] }, { accessFlags := 24, nameIndex := 85, descriptorIndex := 86, attributes := #[] }, { accessFlags := 18, nameIndex := 207, descriptorIndex := 194, attributes := #[] }, { accessFlags := 25, nameIndex := 316, descriptorIndex := 194, attributes := #[] }, { accessFlags := 25, nameIndex := 318, descriptorIndex := 194, attributes := #[] }, { accessFlags := 26, nameIndex := 320, descriptorIndex := 321, attributes := #[] }])
  fields := #[{ name := "MIN_VALUE", type := .int, accessFlags := 25, slot := 0, constantValue := 0 }, { name := "MAX_VALUE", type := .int, accessFlags := 25, slot := 1, constantValue := 0 }, { name := "TYPE", type := (.object "java/lang/Class"), accessFlags := 25, slot := 2, constantValue := 0 }, { name := "digits", type := (.array .char), accessFlags := 24, slot := 3, constantValue := 0 }, { name := "DigitTens", type := (.array .byte), accessFlags := 24, slot := 4, constantValue := 0 }, { name := "DigitOnes", type := (.array .byte), accessFlags := 24, slot := 5, constantValue := 0 }, { name := "value", type := .int, accessFlags := 18, slot := 0, constantValue := 0 }, { name := "SIZE", type := .int, accessFlags := 25, slot := 6, constantValue := 0 }, { name := "BYTES", type := .int, accessFlags := 25, slot := 7, constantValue := 0 }, { name := "serialVersionUID", type := .long, accessFlags := 26, slot := 8, constantValue := 0 }]
  methods := #[k9m0]
  instanceTypes := #[.int]
  staticTypes := #[.int, .int, (.object "java/lang/Class"), (.array .char), (.array .byte), (.array .byte), .int, .int, .long]
  resolved := Array.replicate 453 none
  statics := none }

def pool10 : Array CpInfo := pool [(1, .class_ 2), (0, u "java/lang/Math"), (1, .class_ 6), (1, u "java/lang/Object"), (0, u "<init>"), (0, u "()V"), (1, .class_ 12), (1, u "java/lang/StrictMath"), (1, u "(D)D"), (38, .methodref 10 54), (0, .nameAndType 55 14), (0, u "ceil"), (23, .methodref 80 81), (0, .class_ 82), (0, .nameAndType 83 84), (0, u "java/lang/Double"), (0, u "doubleToRawLongBits"), (0, u "(D)J"), (2, .long 9218868437227405312), (10, .class_ 100), (1, u "java/lang/Math$RandomNumberGeneratorHolder"), (20, u "(JJ)J"), (50, u "negativeZeroFloatBits"), (0, u "J"), (2, u "negativeZeroDoubleBits"), (21, u "max"), (2, u "min"), (43, u "$assertionsDisabled"), (0, u "Z"), (33, u "getExponent"), (0, u "(D)I"), (40, .long 1023), (15, u "twoToTheDoubleScaleDown"), (0, u "D"), (4, u "twoToTheDoubleScaleUp"), (9, u "E"), (3, u "PI"), (2, u "TAU"), (2, u "DEGREES_TO_RADIANS"), (0, u "RADIANS_TO_DEGREES")] 94

def k10m0 : Method := { name := "<init>", desc := "()V", sig := { parameters := [], returnType := none }, accessFlags := 2, code := none }
def k10c1 : Code := { maxStack := 2, maxLocals := 2, code := jdk_29_method_16_code, exceptionTable := #[], attributes := #[] }
def k10m1 : Method := { name := "ceil", desc := "(D)D", sig := { parameters := [.double], returnType := some .double }, accessFlags := 9, code := some k10c1 }
def k10c2 : Code := { maxStack := 4, maxLocals := 4, code := jdk_29_method_66_code, exceptionTable := #[], attributes := #[] }
def k10m2 : Method := { name := "max", desc := "(JJ)J", sig := { parameters := [.long, .long], returnType := some .long }, accessFlags := 9, code := some k10c2 }
def k10c3 : Code := { maxStack := 4, maxLocals := 4, code := jdk_29_method_70_code, exceptionTable := #[], attributes := #[] }
def k10m3 : Method := { name := "min", desc := "(JJ)J", sig := { parameters := [.long, .long], returnType := some .long }, accessFlags := 9, code := some k10c3 }
def k10c4 : Code := { maxStack := 4, maxLocals := 2, code := jdk_29_method_92_code, exceptionTable := #[], attributes := #[] }
def k10m4 : Method := { name := "getExponent", desc := "(D)I", sig := { parameters := [.double], returnType := some .int }, accessFlags := 9, code := some k10c4 }
/-- java/lang/Math -/
def k10 : Class := { plain "java/lang/Math" (some 0) with
  accessFlags := 49
  interfaces := #[]
  cf := some (fileOf pool10 1 #[.nestMembers #[98]] #[{ accessFlags := 2, nameIndex := 7, descriptorIndex := 8, attributes := #[] }, { accessFlags := 9, nameIndex := 55, descriptorIndex := 14, attributes := #[] }, { accessFlags := 9, nameIndex := 198, descriptorIndex := 121, attributes := #[] }, { accessFlags := 9, nameIndex := 201, descriptorIndex := 121, attributes := #[] }, { accessFlags := 9, nameIndex := 280, descriptorIndex := 281, attributes := #[] }] 49 4 #[] #[{ accessFlags := 25, nameIndex := 354, descriptorIndex := 339, attributes := #[] }, { accessFlags := 25, nameIndex := 358, descriptorIndex := 339, attributes := #[] }, { accessFlags := 25, nameIndex := 361, descriptorIndex := 339, attributes := #[] }, { accessFlags := 26, nameIndex := 364, descriptorIndex := 339, attributes := #[] }, { accessFlags := 26, nameIndex := 365, descriptorIndex := 339, attributes := #[] }, { accessFlags := 26, nameIndex := 172, descriptorIndex := 173, attributes := #[] }, { accessFlags := 26, nameIndex := 176, descriptorIndex := 173, attributes := #[] }, { accessFlags := 8, nameIndex := 344, descriptorIndex := 339, attributes := #[] }, { accessFlags := 8, nameIndex := 338, descriptorIndex := 339, attributes := #[] }, { accessFlags := 4120, nameIndex := 245, descriptorIndex := 246, attributes := #[] }])
  fields := #[{ name := "E", type := .double, accessFlags := 25, slot := 0, constantValue := 0 }, { name := "PI", type := .double, accessFlags := 25, slot := 1, constantValue := 0 }, { name := "TAU", type := .double, accessFlags := 25, slot := 2, constantValue := 0 }, { name := "DEGREES_TO_RADIANS", type := .double, accessFlags := 26, slot := 3, constantValue := 0 }, { name := "RADIANS_TO_DEGREES", type := .double, accessFlags := 26, slot := 4, constantValue := 0 }, { name := "negativeZeroFloatBits", type := .long, accessFlags := 26, slot := 5, constantValue := 0 }, { name := "negativeZeroDoubleBits", type := .long, accessFlags := 26, slot := 6, constantValue := 0 }, { name := "twoToTheDoubleScaleUp", type := .double, accessFlags := 8, slot := 7, constantValue := 0 }, { name := "twoToTheDoubleScaleDown", type := .double, accessFlags := 8, slot := 8, constantValue := 0 }, { name := "$assertionsDisabled", type := .boolean, accessFlags := 4120, slot := 9, constantValue := 0 }]
  methods := #[k10m0, k10m1, k10m2, k10m3, k10m4]
  instanceTypes := #[]
  staticTypes := #[.double, .double, .double, .double, .double, .long, .long, .double, .double, .boolean]
  resolved := Array.replicate 460 none
  statics := none }

def pool11 : Array CpInfo := pool [(1, .class_ 2), (0, u "java/lang/StrictMath"), (1, .class_ 6), (1, u "java/lang/Object"), (0, u "<init>"), (0, u "()V"), (5, u "(D)D"), (16, .class_ 33), (1, u "java/lang/Math"), (24, .double 9223372036854775808), (1, .methodref 1 61), (0, .nameAndType 62 63), (0, u "floorOrCeil"), (0, u "(DDDD)D"), (2, .methodref 31 67), (0, .nameAndType 68 69), (0, u "getExponent"), (0, u "(D)I"), (0, .fieldref 1 71), (0, .nameAndType 72 73), (0, u "$assertionsDisabled"), (0, u "Z"), (3, .methodref 78 79), (0, .class_ 80), (0, .nameAndType 81 82), (0, u "java/lang/Double"), (0, u "doubleToRawLongBits"), (0, u "(D)J"), (2, .long 4503599627370495), (28, .class_ 116), (1, u "java/lang/StrictMath$RandomNumberGeneratorHolder"), (222, u "E"), (0, u "D"), (3, u "PI"), (2, u "TAU"), (26, u "ceil")] 61

def k11m0 : Method := { name := "<init>", desc := "()V", sig := { parameters := [], returnType := none }, accessFlags := 2, code := none }
def k11c1 : Code := { maxStack := 8, maxLocals := 2, code := jdk_128_method_16_code, exceptionTable := #[], attributes := #[] }
def k11m1 : Method := { name := "ceil", desc := "(D)D", sig := { parameters := [.double], returnType := some .double }, accessFlags := 9, code := some k11c1 }
def k11c2 : Code := { maxStack := 6, maxLocals := 15, code := jdk_128_method_18_code, exceptionTable := #[], attributes := #[] }
def k11m2 : Method := { name := "floorOrCeil", desc := "(DDDD)D", sig := { parameters := [.double, .double, .double, .double], returnType := some .double }, accessFlags := 10, code := some k11c2 }
/-- java/lang/StrictMath -/
def k11 : Class := { plain "java/lang/StrictMath" (some 0) with
  accessFlags := 49
  interfaces := #[]
  cf := some (fileOf pool11 1 #[.nestMembers #[114]] #[{ accessFlags := 2, nameIndex := 7, descriptorIndex := 8, attributes := #[] }, { accessFlags := 9, nameIndex := 374, descriptorIndex := 14, attributes := #[] }, { accessFlags := 10, nameIndex := 62, descriptorIndex := 63, attributes := #[] }] 49 4 #[] #[{ accessFlags := 25, nameIndex := 339, descriptorIndex := 340, attributes := #[] }, { accessFlags := 25, nameIndex := 344, descriptorIndex := 340, attributes := #[] }, { accessFlags := 25, nameIndex := 347, descriptorIndex := 340, attributes := #[] }, { accessFlags := 4120, nameIndex := 72, descriptorIndex := 73, attributes := #[] }])
  fields := #[{ name := "E", type := .double, accessFlags := 25, slot := 0, constantValue := 0 }, { name := "PI", type := .double, accessFlags := 25, slot := 1, constantValue := 0 }, { name := "TAU", type := .double, accessFlags := 25, slot := 2, constantValue := 0 }, { name := "$assertionsDisabled", type := .boolean, accessFlags := 4120, slot := 3, constantValue := 0 }]
  methods := #[k11m0, k11m1, k11m2]
  instanceTypes := #[]
  staticTypes := #[.double, .double, .double, .boolean]
  resolved := Array.replicate 436 none
  statics := some 0 }

def pool12 : Array CpInfo := pool [(1, .class_ 2), (0, u "java/lang/Double"), (46, u "(D)J"), (64, .class_ 116), (1, u "java/lang/Number"), (3, u "value"), (0, u "D"), (14, u "doubleToRawLongBits"), (36, u "TYPE"), (0, u "Ljava/lang/Class;"), (0, .class_ 176), (0, u "java/lang/Comparable"), (0, .class_ 178), (0, u "java/lang/constant/Constable"), (0, .class_ 180), (0, u "java/lang/constant/ConstantDesc"), (0, u "POSITIVE_INFINITY"), (3, u "NEGATIVE_INFINITY"), (2, u "NaN"), (2, u "MAX_VALUE"), (0, u "MIN_NORMAL"), (0, u "MIN_VALUE"), (2, u "SIZE"), (0, u "I"), (1, u "PRECISION"), (1, u "MAX_EXPONENT"), (1, u "MIN_EXPONENT"), (1, u "BYTES"), (3, u "serialVersionUID"), (0, u "J")] 79

def k12m0 : Method := { name := "doubleToRawLongBits", desc := "(D)J", sig := { parameters := [.double], returnType := some .long }, accessFlags := 265, code := none }
/-- java/lang/Double -/
def k12 : Class := { plain "java/lang/Double" (some 4) with
  accessFlags := 49
  interfaces := #[5, 6, 7]
  cf := some (fileOf pool12 1 #[] #[{ accessFlags := 265, nameIndex := 136, descriptorIndex := 49, attributes := #[] }] 49 114 #[175, 177, 179] #[{ accessFlags := 25, nameIndex := 181, descriptorIndex := 121, attributes := #[] }, { accessFlags := 25, nameIndex := 185, descriptorIndex := 121, attributes := #[] }, { accessFlags := 25, nameIndex := 188, descriptorIndex := 121, attributes := #[] }, { accessFlags := 25, nameIndex := 191, descriptorIndex := 121, attributes := #[] }, { accessFlags := 25, nameIndex := 192, descriptorIndex := 121, attributes := #[] }, { accessFlags := 25, nameIndex := 193, descriptorIndex := 121, attributes := #[] }, { accessFlags := 25, nameIndex := 196, descriptorIndex := 197, attributes := #[] }, { accessFlags := 25, nameIndex := 199, descriptorIndex := 197, attributes := #[] }, { accessFlags := 25, nameIndex := 201, descriptorIndex := 197, attributes := #[] }, { accessFlags := 25, nameIndex := 203, descriptorIndex := 197, attributes := #[] }, { accessFlags := 25, nameIndex := 205, descriptorIndex := 197, attributes := #[] }, { accessFlags := 25, nameIndex := 173, descriptorIndex := 174, attributes := #[] }, { accessFlags := 18, nameIndex := 120, descriptorIndex := 121, attributes := #[] }, { accessFlags := 26, nameIndex := 209, descriptorIndex := 210, attributes := #[] }])
  fields := #[{ name := "POSITIVE_INFINITY", type := .double, accessFlags := 25, slot := 0, constantValue := 0 }, { name := "NEGATIVE_INFINITY", type := .double, accessFlags := 25, slot := 1, constantValue := 0 }, { name := "NaN", type := .double, accessFlags := 25, slot := 2, constantValue := 0 }, { name := "MAX_VALUE", type := .double, accessFlags := 25, slot := 3, constantValue := 0 }, { name := "MIN_NORMAL", type := .double, accessFlags := 25, slot := 4, constantValue := 0 }, { name := "MIN_VALUE", type := .double, accessFlags := 25, slot := 5, constantValue := 0 }, { name := "SIZE", type := .int, accessFlags := 25, slot := 6, constantValue := 0 }, { name := "PRECISION", type := .int, accessFlags := 25, slot := 7, constantValue := 0 }, { name := "MAX_EXPONENT", type := .int, accessFlags := 25, slot := 8, constantValue := 0 }, { name := "MIN_EXPONENT", type := .int, accessFlags := 25, slot := 9, constantValue := 0 }, { name := "BYTES", type := .int, accessFlags := 25, slot := 10, constantValue := 0 }, { name := "TYPE", type := (.object "java/lang/Class"), accessFlags := 25, slot := 11, constantValue := 0 }, { name := "value", type := .double, accessFlags := 18, slot := 0, constantValue := 0 }, { name := "serialVersionUID", type := .long, accessFlags := 26, slot := 12, constantValue := 0 }]
  methods := #[k12m0]
  instanceTypes := #[.double]
  staticTypes := #[.double, .double, .double, .double, .double, .double, .int, .int, .int, .int, .int, (.object "java/lang/Class"), .long]
  resolved := Array.replicate 290 none
  statics := none }

def pool13 : Array CpInfo := pool [(1, u "java/lang/Cloneable"), (0, .class_ 1), (0, u "java/lang/Object"), (0, .class_ 3)] 3

/-- java/lang/Cloneable -/
def k13 : Class := { plain "java/lang/Cloneable" (some 0) with
  accessFlags := 1537
  interfaces := #[]
  cf := some (fileOf pool13 2 #[] #[] 1537 4 #[] #[])
  fields := #[]
  methods := #[]
  instanceTypes := #[]
  staticTypes := #[]
  resolved := Array.replicate 8 none
  statics := none }

/-- the primitive byte -/
def k14 : Class := { plain "byte" none with kind := .primitive 'B', accessFlags := 0x411 }
/-- [B -/
def k15 : Class := { plain "[B" (some 0) with kind := .array 14 .byte, interfaces := #[13, 3], accessFlags := 1041 }

/-- the primitive int -/
def k16 : Class := { plain "int" none with kind := .primitive 'I', accessFlags := 0x411 }
/-- [I -/
def k17 : Class := { plain "[I" (some 0) with kind := .array 16 .int, interfaces := #[13, 3], accessFlags := 1041 }

/-- the primitive long -/
def k18 : Class := { plain "long" none with kind := .primitive 'J', accessFlags := 0x411 }
/-- [J -/
def k19 : Class := { plain "[J" (some 0) with kind := .array 18 .long, interfaces := #[13, 3], accessFlags := 1041 }

def heap : Heap := #[{ cls := 11, slots := #[.double 0, .double 0, .double 0, .int 1], vm := .statics 11 }]
def classes : Array Class := #[k0, k1, k2, k3, k4, k5, k6, k7, k8, k9, k10, k11, k12, k13, k14, k15, k16, k17, k18, k19]
def interned : List (Array UInt16 × Addr) := []
def slotsUsed : Nat := 4
def theMethod : MethodId := ⟨1, 1⟩
def args0 : Array Value := #[.long 5, .long 5, .int 5]
def aboutOver (below : List Frame) : State where
  vm := { classes := classes, interned := interned.toArray }
  heap := heap
  slotsUsed := slotsUsed
  threads := #[{ frames := .invoking theMethod args0 :: below }]
def below0 : List Frame := [.native { method := ⟨0, 0⟩, args := #[] }]
def about1 : State := aboutOver below0
def p0 : Program := .bare "" "" ""
def e0 : Env := launch0.env 0 0 0
theorem w_frames : about1.frames = Frame.invoking theMethod args0 :: below0 := rfl
set_option maxRecDepth 65536 in
theorem w_args : argsFit about1.vm theMethod args0 = true := by decide +kernel
set_option maxRecDepth 65536 in
theorem w_heap : heapFits about1 = true := by decide +kernel
set_option maxRecDepth 65536 in
theorem w_runnable : about1.curStatus? = some .runnable := by decide +kernel
set_option maxRecDepth 65536 in
theorem w_alone : about1.alone = true := by decide +kernel
set_option maxRecDepth 65536 in
theorem w_named : about1.methodNamed? x = some theMethod := by decide +kernel
set_option maxRecDepth 65536 in
theorem w_hears : about1.hears theMethod below0 = true := by decide +kernel
set_option maxRecDepth 65536 in
theorem w_ripe : about1.ripe theMethod args0 below0 = true := by decide +kernel
theorem w_running : about1.status = .running := rfl
set_option maxRecDepth 65536 in
theorem w_room : about1.hasRoom e0.platform room_1 = true :=
  launch0.hasRoom_least _ room_1 (by decide +kernel) (by decide +kernel) (by decide +kernel) (by decide +kernel) (by decide +kernel) (by decide +kernel)
theorem allAtoms_all (ts : List Jvm.Cond) (a : Array Jvm.Value) (st : Jvm.State) : (allAtoms ts).before a st = ts.all (fun c => c.before a st) := by
  induction ts with
  | nil => rfl
  | cons c t ih =>
    show (Jvm.Cond.and c (allAtoms t)).before a st = _
    rw [Jvm.Cond.before_and, ih, List.all_cons]
def words1 : List Jvm.Cond := Jvm.Cond.code x code maxLocals ret :: tables_1
/-- a 'code' word, met by the world's own term for the bytes: nothing is compared byte by byte -/
theorem code_word {y : MethodName} {bytes : ByteArray} {mx : Nat} {rt : Option FieldType} {a : Array Value} {s : State} {m : MethodId} {meth : Method} {c : Code} (h1 : s.methodNamed? y = some m) (h2 : s.vm.method? m = some meth) (h3 : meth.code = some c) (h4 : c.code = bytes)
    (h5 : (c.maxLocals == mx && c.exceptionTable.isEmpty && decide (c.maxStack ≤ mostOperands) && decide (meth.sig.returnType = rt) && !meth.locks && decide (parseMethodDescriptor y.desc = some meth.sig)) = true) : (Jvm.Cond.code y bytes mx rt).before a s = true := by
  simp only [Bool.and_eq_true, beq_iff_eq, Bool.not_eq_true', decide_eq_true_eq] at h5
  obtain ⟨⟨⟨⟨⟨g1, g2⟩, g3⟩, g4⟩, g5⟩, g6⟩ := h5
  simp [Cond.before, Cond.holds, Cond.value, h1, h2, h3, h4, g1, g2, g3, g4, g5, g6]
def isCode : Jvm.Cond → Bool
  | .code _ _ _ _ => true
  | _ => false
theorem all_split {L : List Jvm.Cond} {P : Jvm.Cond → Bool} (h1 : L.all (fun c => isCode c || P c) = true) (h2 : ∀ c ∈ L.filter isCode, P c = true) : L.all P = true := by
  refine List.all_eq_true.mpr fun c hc => ?_
  have h := List.all_eq_true.mp h1 c hc
  rcases Bool.eq_false_or_eq_true (isCode c) with hi | hi
  · exact h2 c (List.mem_filter.mpr ⟨hc, hi⟩)
  · simpa [hi] using h
set_option maxRecDepth 65536 in
theorem w_c0 : (Jvm.Cond.code x code maxLocals ret).before args0 about1 = true := code_word (m := ⟨1, 1⟩) (meth := k1m1) (c := k1c1) (by decide +kernel) rfl rfl rfl (by decide +kernel)
set_option maxRecDepth 65536 in
theorem w_c1 : (Jvm.Cond.code ({ cls := "com/example/earnest_reactor/earnestreactor/cli/LatencyHistogram", name := "<init>", desc := "()V" } : Jvm.MethodName) prog_2_method_1_code (1 : Nat) (Option.none : Option Jvm.ClassFile.FieldType)).before args0 about1 = true := code_word (m := ⟨2, 0⟩) (meth := k2m0) (c := k2c0) (by decide +kernel) rfl rfl rfl (by decide +kernel)
set_option maxRecDepth 65536 in
theorem w_c2 : (Jvm.Cond.code ({ cls := "java/lang/Object", name := "<init>", desc := "()V" } : Jvm.MethodName) object_method_1_code (1 : Nat) (Option.none : Option Jvm.ClassFile.FieldType)).before args0 about1 = true := code_word (m := ⟨0, 0⟩) (meth := k0m0) (c := k0c0) (by decide +kernel) rfl rfl rfl (by decide +kernel)
set_option maxRecDepth 65536 in
theorem w_c3 : (Jvm.Cond.code ({ cls := "com/example/earnest_reactor/earnestreactor/cli/LatencyHistogram", name := "bucket", desc := "(J)I" } : Jvm.MethodName) prog_2_method_5_code (4 : Nat) (Option.some Jvm.ClassFile.FieldType.int)).before args0 about1 = true := code_word (m := ⟨2, 4⟩) (meth := k2m4) (c := k2c4) (by decide +kernel) rfl rfl rfl (by decide +kernel)
set_option maxRecDepth 65536 in
theorem w_c4 : (Jvm.Cond.code ({ cls := "java/lang/Long", name := "numberOfLeadingZeros", desc := "(J)I" } : Jvm.MethodName) jdk_35_method_48_code (3 : Nat) (Option.some Jvm.ClassFile.FieldType.int)).before args0 about1 = true := code_word (m := ⟨8, 0⟩) (meth := k8m0) (c := k8c0) (by decide +kernel) rfl rfl rfl (by decide +kernel)
set_option maxRecDepth 65536 in
theorem w_c5 : (Jvm.Cond.code ({ cls := "java/lang/Integer", name := "numberOfLeadingZeros", desc := "(I)I" } : Jvm.MethodName) jdk_33_method_47_code (2 : Nat) (Option.some Jvm.ClassFile.FieldType.int)).before args0 about1 = true := code_word (m := ⟨9, 0⟩) (meth := k9m0) (c := k9c0) (by decide +kernel) rfl rfl rfl (by decide +kernel)
set_option maxRecDepth 65536 in
theorem w_c6 : (Jvm.Cond.code ({ cls := "com/example/earnest_reactor/earnestreactor/cli/LatencyHistogram", name := "percentile", desc := "(D)J" } : Jvm.MethodName) prog_2_method_4_code (8 : Nat) (Option.some Jvm.ClassFile.FieldType.long)).before args0 about1 = true := code_word (m := ⟨2, 3⟩) (meth := k2m3) (c := k2c3) (by decide +kernel) rfl rfl rfl (by decide +kernel)
set_option maxRecDepth 65536 in
theorem w_c7 : (Jvm.Cond.code ({ cls := "com/example/earnest_reactor/earnestreactor/cli/LatencyHistogram", name := "add", desc := "(Lcom/example/earnest_reactor/earnestreactor/cli/LatencyHistogram;)V" } : Jvm.MethodName) prog_2_method_3_code (3 : Nat) (Option.none : Option Jvm.ClassFile.FieldType)).before args0 about1 = true := code_word (m := ⟨2, 2⟩) (meth := k2m2) (c := k2c2) (by decide +kernel) rfl rfl rfl (by decide +kernel)
set_option maxRecDepth 65536 in
theorem w_c8 : (Jvm.Cond.code ({ cls := "com/example/earnest_reactor/earnestreactor/cli/LatencyHistogram", name := "record", desc := "(J)V" } : Jvm.MethodName) prog_2_method_2_code (3 : Nat) (Option.none : Option Jvm.ClassFile.FieldType)).before args0 about1 = true := code_word (m := ⟨2, 1⟩) (meth := k2m1) (c := k2c1) (by decide +kernel) rfl rfl rfl (by decide +kernel)
set_option maxRecDepth 65536 in
theorem w_c9 : (Jvm.Cond.code ({ cls := "java/lang/Math", name := "ceil", desc := "(D)D" } : Jvm.MethodName) jdk_29_method_16_code (2 : Nat) (Option.some Jvm.ClassFile.FieldType.double)).before args0 about1 = true := code_word (m := ⟨10, 1⟩) (meth := k10m1) (c := k10c1) (by decide +kernel) rfl rfl rfl (by decide +kernel)
set_option maxRecDepth 65536 in
theorem w_c10 : (Jvm.Cond.code ({ cls := "java/lang/StrictMath", name := "ceil", desc := "(D)D" } : Jvm.MethodName) jdk_128_method_16_code (2 : Nat) (Option.some Jvm.ClassFile.FieldType.double)).before args0 about1 = true := code_word (m := ⟨11, 1⟩) (meth := k11m1) (c := k11c1) (by decide +kernel) rfl rfl rfl (by decide +kernel)
set_option maxRecDepth 65536 in
theorem w_c11 : (Jvm.Cond.code ({ cls := "java/lang/StrictMath", name := "floorOrCeil", desc := "(DDDD)D" } : Jvm.MethodName) jdk_128_method_18_code (15 : Nat) (Option.some Jvm.ClassFile.FieldType.double)).before args0 about1 = true := code_word (m := ⟨11, 2⟩) (meth := k11m2) (c := k11c2) (by decide +kernel) rfl rfl rfl (by decide +kernel)
set_option maxRecDepth 65536 in
theorem w_c12 : (Jvm.Cond.code ({ cls := "java/lang/Math", name := "getExponent", desc := "(D)I" } : Jvm.MethodName) jdk_29_method_92_code (2 : Nat) (Option.some Jvm.ClassFile.FieldType.int)).before args0 about1 = true := code_word (m := ⟨10, 4⟩) (meth := k10m4) (c := k10c4) (by decide +kernel) rfl rfl rfl (by decide +kernel)
set_option maxRecDepth 65536 in
theorem w_c13 : (Jvm.Cond.code ({ cls := "java/lang/Math", name := "max", desc := "(JJ)J" } : Jvm.MethodName) jdk_29_method_66_code (4 : Nat) (Option.some Jvm.ClassFile.FieldType.long)).before args0 about1 = true := code_word (m := ⟨10, 2⟩) (meth := k10m2) (c := k10c2) (by decide +kernel) rfl rfl rfl (by decide +kernel)
set_option maxRecDepth 65536 in
theorem w_c14 : (Jvm.Cond.code ({ cls := "com/example/earnest_reactor/earnestreactor/cli/LatencyHistogram", name := "lowest", desc := "(I)J" } : Jvm.MethodName) prog_2_method_6_code (4 : Nat) (Option.some Jvm.ClassFile.FieldType.long)).before args0 about1 = true := code_word (m := ⟨2, 5⟩) (meth := k2m5) (c := k2c5) (by decide +kernel) rfl rfl rfl (by decide +kernel)
set_option maxRecDepth 65536 in
theorem w_c15 : (Jvm.Cond.code ({ cls := "java/lang/Math", name := "min", desc := "(JJ)J" } : Jvm.MethodName) jdk_29_method_70_code (4 : Nat) (Option.some Jvm.ClassFile.FieldType.long)).before args0 about1 = true := code_word (m := ⟨10, 3⟩) (meth := k10m3) (c := k10c3) (by decide +kernel) rfl rfl rfl (by decide +kernel)
def codes1 : List Jvm.Cond := [Jvm.Cond.code x code maxLocals ret, Jvm.Cond.code ({ cls := "com/example/earnest_reactor/earnestreactor/cli/LatencyHistogram", name := "<init>", desc := "()V" } : Jvm.MethodName) prog_2_method_1_code (1 : Nat) (Option.none : Option Jvm.ClassFile.FieldType), Jvm.Cond.code ({ cls := "java/lang/Object", name := "<init>", desc := "()V" } : Jvm.MethodName) object_method_1_code (1 : Nat) (Option.none : Option Jvm.ClassFile.FieldType), Jvm.Cond.code ({ cls := "com/example/earnest_reactor/earnestreactor/cli/LatencyHistogram", name := "bucket", desc := "(J)I" } : Jvm.MethodName) prog_2_method_5_code (4 : Nat) (Option.some Jvm.ClassFile.FieldType.int), Jvm.Cond.code ({ cls := "java/lang/Long", name := "numberOfLeadingZeros", desc := "(J)I" } : Jvm.MethodName) jdk_35_method_48_code (3 : Nat) (Option.some Jvm.ClassFile.FieldType.int), Jvm.Cond.code ({ cls := "java/lang/Integer", name := "numberOfLeadingZeros", desc := "(I)I" } : Jvm.MethodName) jdk_33_method_47_code (2 : Nat) (Option.some Jvm.ClassFile.FieldType.int), Jvm.Cond.code ({ cls := "com/example/earnest_reactor/earnestreactor/cli/LatencyHistogram", name := "percentile", desc := "(D)J" } : Jvm.MethodName) prog_2_method_4_code (8 : Nat) (Option.some Jvm.ClassFile.FieldType.long), Jvm.Cond.code ({ cls := "com/example/earnest_reactor/earnestreactor/cli/LatencyHistogram", name := "add", desc := "(Lcom/example/earnest_reactor/earnestreactor/cli/LatencyHistogram;)V" } : Jvm.MethodName) prog_2_method_3_code (3 : Nat) (Option.none : Option Jvm.ClassFile.FieldType), Jvm.Cond.code ({ cls := "com/example/earnest_reactor/earnestreactor/cli/LatencyHistogram", name := "record", desc := "(J)V" } : Jvm.MethodName) prog_2_method_2_code (3 : Nat) (Option.none : Option Jvm.ClassFile.FieldType), Jvm.Cond.code ({ cls := "java/lang/Math", name := "ceil", desc := "(D)D" } : Jvm.MethodName) jdk_29_method_16_code (2 : Nat) (Option.some Jvm.ClassFile.FieldType.double), Jvm.Cond.code ({ cls := "java/lang/StrictMath", name := "ceil", desc := "(D)D" } : Jvm.MethodName) jdk_128_method_16_code (2 : Nat) (Option.some Jvm.ClassFile.FieldType.double), Jvm.Cond.code ({ cls := "java/lang/StrictMath", name := "floorOrCeil", desc := "(DDDD)D" } : Jvm.MethodName) jdk_128_method_18_code (15 : Nat) (Option.some Jvm.ClassFile.FieldType.double), Jvm.Cond.code ({ cls := "java/lang/Math", name := "getExponent", desc := "(D)I" } : Jvm.MethodName) jdk_29_method_92_code (2 : Nat) (Option.some Jvm.ClassFile.FieldType.int), Jvm.Cond.code ({ cls := "java/lang/Math", name := "max", desc := "(JJ)J" } : Jvm.MethodName) jdk_29_method_66_code (4 : Nat) (Option.some Jvm.ClassFile.FieldType.long), Jvm.Cond.code ({ cls := "com/example/earnest_reactor/earnestreactor/cli/LatencyHistogram", name := "lowest", desc := "(I)J" } : Jvm.MethodName) prog_2_method_6_code (4 : Nat) (Option.some Jvm.ClassFile.FieldType.long), Jvm.Cond.code ({ cls := "java/lang/Math", name := "min", desc := "(JJ)J" } : Jvm.MethodName) jdk_29_method_70_code (4 : Nat) (Option.some Jvm.ClassFile.FieldType.long)]
set_option maxRecDepth 65536 in
theorem codes_eq : words1.filter isCode = codes1 := rfl
theorem w_codes : ∀ c ∈ words1.filter isCode, c.before args0 about1 = true := by
  rw [codes_eq]
  intro c hc
  simp only [codes1, List.mem_cons, List.not_mem_nil, or_false] at hc
  rcases hc with rfl | rfl | rfl | rfl | rfl | rfl | rfl | rfl | rfl | rfl | rfl | rfl | rfl | rfl | rfl | rfl
  · exact w_c0
  · exact w_c1
  · exact w_c2
  · exact w_c3
  · exact w_c4
  · exact w_c5
  · exact w_c6
  · exact w_c7
  · exact w_c8
  · exact w_c9
  · exact w_c10
  · exact w_c11
  · exact w_c12
  · exact w_c13
  · exact w_c14
  · exact w_c15
set_option maxRecDepth 65536 in
theorem w_t1 : (words1.take 24).all (fun c => isCode c || c.before args0 about1) = true := by decide +kernel
set_option maxRecDepth 65536 in
theorem w_t2 : ((words1.drop 24).take 24).all (fun c => isCode c || c.before args0 about1) = true := by decide +kernel
set_option maxRecDepth 65536 in
theorem w_t3 : (((words1.drop 24).drop 24).take 24).all (fun c => isCode c || c.before args0 about1) = true := by decide +kernel
set_option maxRecDepth 65536 in
theorem w_t4 : (((words1.drop 24).drop 24).drop 24).all (fun c => isCode c || c.before args0 about1) = true := by decide +kernel
theorem w_tables : (allAtoms (Jvm.Cond.code x code maxLocals ret :: tables_1)).before args0 about1 = true := by
  rw [allAtoms_all]
  show words1.all (fun c => c.before args0 about1) = true
  refine all_split ?_ w_codes
  rw [← List.take_append_drop 24 words1, List.all_append, w_t1, ← List.take_append_drop 24 (words1.drop 24), List.all_append, w_t2, ← List.take_append_drop 24 ((words1.drop 24).drop 24), List.all_append, w_t3, w_t4]
  rfl
set_option maxRecDepth 65536 in
theorem w_rest : rest_1_c.before args0 about1 = true := by decide +kernel
set_option maxRecDepth 65536 in
theorem w_case : (Jvm.Cond.and given_1 narrow_1).before args0 about1 = true := by decide +kernel
theorem w_applies : (headSpec (Jvm.Cond.code x code maxLocals ret :: tables_1) room_1).applies x e0.platform about1 = true :=
  (Spec.applies_iff w_frames).mpr ⟨w_running, w_runnable, w_alone, w_named, w_hears, w_ripe, w_room, w_tables⟩
theorem atStart : AtStart classFile x code maxLocals ret World_1 tables_1 room_1 Calls_1 rest_1 Pre_1 launch0 p0 e0 about1 theMethod args0 below0 :=
  ⟨lists_1, trivial, launch0.admits_env _ _ _, launch0.least_env, fairChoices_fair.cas, fairChoices_fair.clock, w_frames, w_args, w_heap, w_applies, trivial, w_rest, w_case⟩
end start1
theorem witness_1 : WitnessClaimed_1 := ⟨start1.p0, start1.e0, start1.about1, start1.theMethod, start1.args0, start1.below0, start1.atStart⟩
end Jvm.Pilot.@@N@@
