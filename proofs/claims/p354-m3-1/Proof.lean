import JvmDerived
import JvmDerived.Pilot.@@N@@Statement
import JvmDerived.Pilot.@@N@@Code
set_option linter.unusedVariables false
set_option linter.unusedSimpArgs false
namespace Jvm.Pilot.@@N@@
open Jvm Jvm.ClassFile Sem Op Lib Jvm.Free Jvm.Stand Jvm.LawKit Jvm.RoadKit Bundle Jvm.Pilot.@@N@@.Jvm.D
section OwnKit
variable {p : Program} {l : Launch} {e : Env} {R : Room} {s : State} {m : MethodId} {args : Array Value} {below : List Frame} {meth : Method} {c : Code} {T : State} {locs : List Loc} {cells slots : Nat} {Q : Option Value → Heap → List Loc → Prop} {F : Option Value → State → Prop} {KC KS : Nat} {bs : ByteArray} {pc pc' : Nat} {Ls l' : Array Slot} {st : List Value}
/-- from U the run comes to its end: it returns v, and F says what it leaves -/
def own_End (p : Program) (e : Env) (below : List Frame) (F : Option Value → State → Prop) (U : State) : Prop :=
  ∃ s₂ v, Steps p.tables e below U s₂ ∧ s₂.status = .running ∧ Ended s₂ below (.returned v) ∧ F v s₂
def own_F (s : State) (Q : Option Value → Heap → List Loc → Prop) (KC KS : Nat) : Option Value → State → Prop := fun v s₂ => ∃ L, Q v s₂.heap L ∧ FrameEnd s (.returned v) s₂ L KC KS
def own_FS (s : State) (Q : Option Value → Heap → List Loc → Prop) (KC KS : Nat) : Option Value → State → Prop := fun v s₂ => ∃ L, Q v s₂.heap L ∧ ReturnedEndW s (.returned v) s₂ L KC KS
theorem own_body {U : State} (h : own_End p e below (own_F s Q KC KS) U) : ∃ s₂ o, Steps p.tables e below U s₂ ∧ s₂.status = .running ∧ Ended s₂ below o ∧ ∃ v L, o = .returned v ∧ Q v s₂.heap L ∧ FrameEnd s o s₂ L KC KS := by
  obtain ⟨s2, v, h1, h2, h3, L, h4, h5⟩ := h
  exact ⟨s2, _, h1, h2, h3, v, L, rfl, h4, h5⟩
theorem own_bodyS {U : State} (h : own_End p e below (own_FS s Q KC KS) U) : ∃ s₂ o, Steps p.tables e below U s₂ ∧ s₂.status = .running ∧ Ended s₂ below o ∧ ∃ v L, o = .returned v ∧ Q v s₂.heap L ∧ ReturnedEndW s o s₂ L KC KS := by
  obtain ⟨s2, v, h1, h2, h3, L, h4, h5⟩ := h
  exact ⟨s2, _, h1, h2, h3, v, L, rfl, h4, h5⟩
theorem own_step {U U' : State} (k : ∀ t, Steps p.tables e below U' t → Steps p.tables e below U t) (h : own_End p e below F U') : own_End p e below F U := by
  obtain ⟨s2, v, h1, h2⟩ := h
  exact ⟨s2, v, k _ h1, h2⟩
theorem own_trans {U U' : State} (k : Steps p.tables e below U U') (h : own_End p e below F U') : own_End p e below F U := by
  obtain ⟨s2, v, h1, h2⟩ := h
  exact ⟨s2, v, k.trans h1, h2⟩
theorem own_mono {cells' slots' : Nat} (X : Stand p l e R s m args below meth c T locs cells slots) (hc : cells ≤ cells') (hs : slots ≤ slots') : Stand p l e R s m args below meth c T locs cells' slots' := X.mono hc hs
theorem own_selPriv {y : MethodName} {n : Nat} (wi : (Cond.instantiable y.cls n).before args s = true) (hp : s.PrivateAt y) (hi : (Cond.instanceMethod y).before args s = true) (hy : y.cls ≠ "java/lang/invoke/MethodHandle" ∧ y.cls ≠ "java/lang/invoke/VarHandle") : (Cond.selects y.cls y y).before args s = true := by
  obtain ⟨c, k, h1, h2, -, h4, -⟩ := Cond.instantiable_spec wi
  exact selects_self_of_private h1 h2 (by simp only [Bool.or_eq_false_iff] at h4; exact h4.1) hp hi hy
theorem own_sta0 {Z : State} {h h' : Heap} {C n d : String} {v : Value} (S : Sta Z h C n d v) (K : Keep h h' []) : Sta Z h' C n d v := by
  obtain ⟨cf, i, k, f, st, cell, h1, h2, h3, h4, h5, h6, h7⟩ := S
  exact ⟨cf, i, k, f, st, cell, h1, h2, h3, h4, K.2.1 _ _ h5 nin0, h6, h7⟩
theorem own_sta1 {Z : State} {h h' : Heap} {C n d D : String} {v : Value} {a : Addr} (S : Sta Z h C n d v) (K : Keep h h' [a]) (E : Exa Z h a D) : Sta Z h' C n d v := by
  obtain ⟨cf, i, k, f, st, cell, h1, h2, h3, h4, h5, h6, h7⟩ := S
  obtain ⟨c', k', g1, -, -, g4, -⟩ := E
  have ne : st ≠ a := fun q => by subst q; cases h5.symm.trans g1; rw [g4] at h6; cases h6
  exact ⟨cf, i, k, f, st, cell, h1, h2, h3, h4, K.2.1 _ _ h5 (ninS ne nin0), h6, h7⟩
theorem own_cat1 {w : Value} (h : w.isRef = true) : w.category = 1 := by rcases ref_cases h with rfl | ⟨z, rfl⟩ <;> rfl
theorem own_nar {w : Value} {t : FieldType} (h : w.isRef = true) (ht : t.isReference = true) : narrow t w = w := by rcases ref_cases h with rfl | ⟨z, rfl⟩ <;> cases t <;> first | rfl | cases ht
theorem own_fit {w : Value} {t : FieldType} (h : w.isRef = true) (ht : t.isReference = true) : fits t w = true := by rcases ref_cases h with rfl | ⟨z, rfl⟩ <;> cases t <;> first | rfl | cases ht
/-- what the frame says where the run leaves -/
def own_Lv (F : Option Value → State → Prop) (s T : State) (locs : List Loc) (cells slots : Nat) (v : Option Value) : Prop := ∀ fs, s.WarmedH (T.setFrames fs).vm → s.sameButNew ({ T.setFrames fs with vm := s.vm } : State) locs cells slots → F v (T.setFrames fs)
theorem own_lv {v : Option Value} (hQ : Q v T.heap locs) (hc : cells ≤ KC) (hs : slots ≤ KS) : own_Lv (own_F s Q KC KS) s T locs cells slots v := fun fs hW hsm => ⟨locs, hQ, ⟨_, rfl⟩, hW, hsm.mono hc hs⟩
theorem own_lvS {v : Option Value} {vm₁ : Vm} {n : Nat} (hS : s.Since vm₁ n) (hn : n ≤ T.heap.size) (hQ : Q v T.heap locs) (hc : cells ≤ KC) (hs : slots ≤ KS) : own_Lv (own_FS s Q KC KS) (s.setVm vm₁) T locs cells slots v := fun fs hW hsm => by
  obtain ⟨a, b, c'⟩ := hS.ended (U := T.setFrames fs) hW hn hsm
  exact ⟨locs, hQ, ⟨_, rfl⟩, a, b, c'.mono hc hs⟩
theorem own_retW (X : Stand p l e R s m args below meth c T locs cells slots) (hx : p.tables.exec = Jvm.exec) (hlk : meth.locks = false) (hby : c.code = bs) {w : Value} {t : FieldType} {i : Instr} {rest : List Value} (hret : meth.sig.returnType = some t) (hn : narrow t w = w)
    (hi : (i = .ireturn ∧ (t = .int ∨ t = .boolean ∨ t = .byte ∨ t = .char ∨ t = .short) ∧ ∃ z, w = .int z) ∨ (i = .lreturn ∧ t = .long ∧ ∃ z, w = .long z) ∨ (i = .dreturn ∧ t = .double ∧ ∃ z, w = .double z) ∨ (i = .freturn ∧ t = .float ∧ ∃ z, w = .float z) ∨ (i = .areturn ∧ t.isReference = true ∧ w.isRef = true))
    (hd : decode bs pc = .ok (i, 1)) (hF : own_Lv F s T locs cells slots (some w)) : own_End p e below F (T.setTop (mkF m pc Ls (w :: rest))) := by
  obtain ⟨fs, hr, hrun, hended, hW, hsame⟩ := X.leave (v := some w) (fun h => by rw [hret] at h; cases h) hlk
  exact ⟨_, _, retOut X hx hret hn hi (hb hby hd) hr, hrun, hended, hF fs hW hsame⟩
theorem own_ireturn (X : Stand p l e R s m args below meth c T locs cells slots) (hx : p.tables.exec = Jvm.exec) (hlk : meth.locks = false) (hby : c.code = bs) {z : Int32} {rest : List Value} (hret : meth.sig.returnType = some .int)
    (hd : decode bs pc = .ok (.ireturn, 1)) (hF : own_Lv F s T locs cells slots (some (.int z))) : own_End p e below F (T.setTop (mkF m pc Ls (.int z :: rest))) :=
  own_retW X hx hlk hby hret rfl (Or.inl ⟨rfl, Or.inl rfl, _, rfl⟩) hd hF
theorem own_zreturn (X : Stand p l e R s m args below meth c T locs cells slots) (hx : p.tables.exec = Jvm.exec) (hlk : meth.locks = false) (hby : c.code = bs) {z : Int32} {rest : List Value} (hret : meth.sig.returnType = some .boolean) (hz : z = 0 ∨ z = 1)
    (hd : decode bs pc = .ok (.ireturn, 1)) (hF : own_Lv F s T locs cells slots (some (.int z))) : own_End p e below F (T.setTop (mkF m pc Ls (.int z :: rest))) :=
  own_retW X hx hlk hby hret (by rcases hz with rfl | rfl <;> rfl) (Or.inl ⟨rfl, Or.inr (Or.inl rfl), _, rfl⟩) hd hF
theorem own_breturn (X : Stand p l e R s m args below meth c T locs cells slots) (hx : p.tables.exec = Jvm.exec) (hlk : meth.locks = false) (hby : c.code = bs) {z : Int32} {rest : List Value} (hret : meth.sig.returnType = some .byte) (hz : z.toInt8.toInt32 = z)
    (hd : decode bs pc = .ok (.ireturn, 1)) (hF : own_Lv F s T locs cells slots (some (.int z))) : own_End p e below F (T.setTop (mkF m pc Ls (.int z :: rest))) :=
  own_retW X hx hlk hby hret (show Value.int z.toInt8.toInt32 = .int z by rw [hz]) (Or.inl ⟨rfl, Or.inr (Or.inr (Or.inl rfl)), _, rfl⟩) hd hF
theorem own_lreturn (X : Stand p l e R s m args below meth c T locs cells slots) (hx : p.tables.exec = Jvm.exec) (hlk : meth.locks = false) (hby : c.code = bs) {z : Int64} {rest : List Value} (hret : meth.sig.returnType = some .long)
    (hd : decode bs pc = .ok (.lreturn, 1)) (hF : own_Lv F s T locs cells slots (some (.long z))) : own_End p e below F (T.setTop (mkF m pc Ls (.long z :: rest))) :=
  own_retW X hx hlk hby hret rfl (Or.inr (Or.inl ⟨rfl, rfl, _, rfl⟩)) hd hF
theorem own_areturn (X : Stand p l e R s m args below meth c T locs cells slots) (hx : p.tables.exec = Jvm.exec) (hlk : meth.locks = false) (hby : c.code = bs) {w : Value} {t : FieldType} {rest : List Value} (hret : meth.sig.returnType = some t) (ht : t.isReference = true) (hw : w.isRef = true)
    (hd : decode bs pc = .ok (.areturn, 1)) (hF : own_Lv F s T locs cells slots (some w)) : own_End p e below F (T.setTop (mkF m pc Ls (w :: rest))) :=
  own_retW X hx hlk hby hret (own_nar hw ht) (Or.inr (Or.inr (Or.inr (Or.inr ⟨rfl, ht, hw⟩)))) hd hF
theorem own_return (X : Stand p l e R s m args below meth c T locs cells slots) (hx : p.tables.exec = Jvm.exec) (hlk : meth.locks = false) (hby : c.code = bs) (hret : meth.sig.returnType = none)
    (hd : decode bs pc = .ok (.return_, 1)) (hF : own_Lv F s T locs cells slots none) : own_End p e below F (T.setTop (mkF m pc Ls [])) := by
  obtain ⟨fs, hr, hrun, hended, hW, hsame⟩ := X.leave (v := none) (fun _ => rfl) hlk
  exact ⟨_, _, X.returnOut hx hret (hb hby hd) hr, hrun, hended, hF fs hW hsame⟩
section Plain
theorem own_iload (X : Stand p l e R s m args below meth c T locs cells slots) (hx : p.tables.exec = Jvm.exec) (hby : c.code = bs) {k : Nat} {v : Int32} (hd : decode bs pc = .ok (.iload k, 2)) (hp : pc + 2 = pc') (hl : Ls[k]? = some (.val (.int v))) (h : own_End p e below F (T.setTop (mkF m pc' Ls (.int v :: st)))) : own_End p e below F (T.setTop (mkF m pc Ls st)) := by
  subst hp; exact own_step (fun t k => XS.iload X.here hx rfl (hb hby hd) hl k) h
theorem own_iloadN (X : Stand p l e R s m args below meth c T locs cells slots) (hx : p.tables.exec = Jvm.exec) (hby : c.code = bs) {k : Fin 4} {v : Int32} (hd : decode bs pc = .ok (.iload_n k, 1)) (hp : pc + 1 = pc') (hl : Ls[k.val]? = some (.val (.int v))) (h : own_End p e below F (T.setTop (mkF m pc' Ls (.int v :: st)))) : own_End p e below F (T.setTop (mkF m pc Ls st)) := by
  subst hp; exact own_step (fun t k => XS.iloadN X.here hx rfl (hb hby hd) hl k) h
theorem own_lload (X : Stand p l e R s m args below meth c T locs cells slots) (hx : p.tables.exec = Jvm.exec) (hby : c.code = bs) {k : Nat} {v : Int64} (hd : decode bs pc = .ok (.lload k, 2)) (hp : pc + 2 = pc') (hl : Ls[k]? = some (.val (.long v))) (h : own_End p e below F (T.setTop (mkF m pc' Ls (.long v :: st)))) : own_End p e below F (T.setTop (mkF m pc Ls st)) := by
  subst hp; exact own_step (fun t k => XS.lload X.here hx rfl (hb hby hd) hl k) h
theorem own_lloadN (X : Stand p l e R s m args below meth c T locs cells slots) (hx : p.tables.exec = Jvm.exec) (hby : c.code = bs) {k : Fin 4} {v : Int64} (hd : decode bs pc = .ok (.lload_n k, 1)) (hp : pc + 1 = pc') (hl : Ls[k.val]? = some (.val (.long v))) (h : own_End p e below F (T.setTop (mkF m pc' Ls (.long v :: st)))) : own_End p e below F (T.setTop (mkF m pc Ls st)) := by
  subst hp; exact own_step (fun t k => XS.lloadN X.here hx rfl (hb hby hd) hl k) h
theorem own_aload (X : Stand p l e R s m args below meth c T locs cells slots) (hx : p.tables.exec = Jvm.exec) (hby : c.code = bs) {k : Nat} {v : Value} (hd : decode bs pc = .ok (.aload k, 2)) (hp : pc + 2 = pc') (hl : Ls[k]? = some (.val v)) (hv : v.isRef = true) (h : own_End p e below F (T.setTop (mkF m pc' Ls (v :: st)))) : own_End p e below F (T.setTop (mkF m pc Ls st)) := by
  subst hp; exact own_step (fun t k => XS.aload X.here hx rfl (hb hby hd) hl hv k) h
theorem own_aloadN (X : Stand p l e R s m args below meth c T locs cells slots) (hx : p.tables.exec = Jvm.exec) (hby : c.code = bs) {k : Fin 4} {v : Value} (hd : decode bs pc = .ok (.aload_n k, 1)) (hp : pc + 1 = pc') (hl : Ls[k.val]? = some (.val v)) (hv : v.isRef = true) (h : own_End p e below F (T.setTop (mkF m pc' Ls (v :: st)))) : own_End p e below F (T.setTop (mkF m pc Ls st)) := by
  subst hp; exact own_step (fun t k => XS.aloadN X.here hx rfl (hb hby hd) hl hv k) h
theorem own_istore (X : Stand p l e R s m args below meth c T locs cells slots) (hx : p.tables.exec = Jvm.exec) (hby : c.code = bs) {k : Nat} {x : Int32} (hd : decode bs pc = .ok (.istore k, 2)) (hp : pc + 2 = pc') (hl : storeLocals Ls k (.int x) = some l') (h : own_End p e below F (T.setTop (mkF m pc' l' st))) : own_End p e below F (T.setTop (mkF m pc Ls (.int x :: st))) := by
  subst hp; exact own_step (fun t k => XS.istore X.here hx rfl (hb hby hd) rfl hl k) h
theorem own_istoreN (X : Stand p l e R s m args below meth c T locs cells slots) (hx : p.tables.exec = Jvm.exec) (hby : c.code = bs) {k : Fin 4} {x : Int32} (hd : decode bs pc = .ok (.istore_n k, 1)) (hp : pc + 1 = pc') (hl : storeLocals Ls k.val (.int x) = some l') (h : own_End p e below F (T.setTop (mkF m pc' l' st))) : own_End p e below F (T.setTop (mkF m pc Ls (.int x :: st))) := by
  subst hp; exact own_step (fun t k => XS.istoreN X.here hx rfl (hb hby hd) rfl hl k) h
theorem own_lstore (X : Stand p l e R s m args below meth c T locs cells slots) (hx : p.tables.exec = Jvm.exec) (hby : c.code = bs) {k : Nat} {x : Int64} (hd : decode bs pc = .ok (.lstore k, 2)) (hp : pc + 2 = pc') (hl : storeLocals Ls k (.long x) = some l') (h : own_End p e below F (T.setTop (mkF m pc' l' st))) : own_End p e below F (T.setTop (mkF m pc Ls (.long x :: st))) := by
  subst hp; exact own_step (fun t k => XS.lstore X.here hx rfl (hb hby hd) rfl hl k) h
theorem own_lstoreN (X : Stand p l e R s m args below meth c T locs cells slots) (hx : p.tables.exec = Jvm.exec) (hby : c.code = bs) {k : Fin 4} {x : Int64} (hd : decode bs pc = .ok (.lstore_n k, 1)) (hp : pc + 1 = pc') (hl : storeLocals Ls k.val (.long x) = some l') (h : own_End p e below F (T.setTop (mkF m pc' l' st))) : own_End p e below F (T.setTop (mkF m pc Ls (.long x :: st))) := by
  subst hp; exact own_step (fun t k => XS.lstoreN X.here hx rfl (hb hby hd) rfl hl k) h
theorem own_astore (X : Stand p l e R s m args below meth c T locs cells slots) (hx : p.tables.exec = Jvm.exec) (hby : c.code = bs) {k : Nat} {x : Value} (hd : decode bs pc = .ok (.astore k, 2)) (hp : pc + 2 = pc') (hv : x.isRef = true) (hl : storeLocals Ls k x = some l') (h : own_End p e below F (T.setTop (mkF m pc' l' st))) : own_End p e below F (T.setTop (mkF m pc Ls (x :: st))) := by
  subst hp; exact own_step (fun t k => XS.astore X.here hx rfl (hb hby hd) rfl hv hl k) h
theorem own_astoreN (X : Stand p l e R s m args below meth c T locs cells slots) (hx : p.tables.exec = Jvm.exec) (hby : c.code = bs) {k : Fin 4} {x : Value} (hd : decode bs pc = .ok (.astore_n k, 1)) (hp : pc + 1 = pc') (hv : x.isRef = true) (hl : storeLocals Ls k.val x = some l') (h : own_End p e below F (T.setTop (mkF m pc' l' st))) : own_End p e below F (T.setTop (mkF m pc Ls (x :: st))) := by
  subst hp; exact own_step (fun t k => XS.astoreN X.here hx rfl (hb hby hd) rfl hv hl k) h
theorem own_iinc (X : Stand p l e R s m args below meth c T locs cells slots) (hx : p.tables.exec = Jvm.exec) (hby : c.code = bs) {k : Nat} {cst : Int} {x y : Int32} (hd : decode bs pc = .ok (.iinc k cst, 3)) (hp : pc + 3 = pc') (hl : Ls[k]? = some (.val (.int x))) (hy : x + Int32.ofInt cst = y) (hl' : storeLocals Ls k (.int y) = some l') (h : own_End p e below F (T.setTop (mkF m pc' l' st))) : own_End p e below F (T.setTop (mkF m pc Ls st)) := by
  subst hp hy; exact own_step (fun t k => XS.iinc X.here hx rfl (hb hby hd) hl hl' k) h
theorem own_iconst (X : Stand p l e R s m args below meth c T locs cells slots) (hx : p.tables.exec = Jvm.exec) (hby : c.code = bs) {i : Int} {n : Int32} (hd : decode bs pc = .ok (.iconst i, 1)) (hp : pc + 1 = pc') (hn : Int32.ofInt i = n) (h : own_End p e below F (T.setTop (mkF m pc' Ls (.int n :: st)))) : own_End p e below F (T.setTop (mkF m pc Ls st)) := by
  subst hp hn; exact own_step (fun t k => XS.iconst X.here hx rfl (hb hby hd) k) h
theorem own_bipush (X : Stand p l e R s m args below meth c T locs cells slots) (hx : p.tables.exec = Jvm.exec) (hby : c.code = bs) {i : Int} {n : Int32} (hd : decode bs pc = .ok (.bipush i, 2)) (hp : pc + 2 = pc') (hn : (Int8.ofInt i).toInt32 = n) (h : own_End p e below F (T.setTop (mkF m pc' Ls (.int n :: st)))) : own_End p e below F (T.setTop (mkF m pc Ls st)) := by
  subst hp hn; exact own_step (fun t k => XS.bipush X.here hx rfl (hb hby hd) k) h
theorem own_sipush (X : Stand p l e R s m args below meth c T locs cells slots) (hx : p.tables.exec = Jvm.exec) (hby : c.code = bs) {i : Int} {n : Int32} (hd : decode bs pc = .ok (.sipush i, 3)) (hp : pc + 3 = pc') (hn : (Int16.ofInt i).toInt32 = n) (h : own_End p e below F (T.setTop (mkF m pc' Ls (.int n :: st)))) : own_End p e below F (T.setTop (mkF m pc Ls st)) := by
  subst hp hn; exact own_step (fun t k => XS.sipush X.here hx rfl (hb hby hd) k) h
theorem own_lconst (X : Stand p l e R s m args below meth c T locs cells slots) (hx : p.tables.exec = Jvm.exec) (hby : c.code = bs) {i : Fin 2} {n : Int64} (hd : decode bs pc = .ok (.lconst i, 1)) (hp : pc + 1 = pc') (hn : Int64.ofNat i.val = n) (h : own_End p e below F (T.setTop (mkF m pc' Ls (.long n :: st)))) : own_End p e below F (T.setTop (mkF m pc Ls st)) := by
  subst hp hn; exact own_step (fun t k => XS.lconst X.here hx rfl (hb hby hd) k) h
theorem own_aconst_null (X : Stand p l e R s m args below meth c T locs cells slots) (hx : p.tables.exec = Jvm.exec) (hby : c.code = bs) (hd : decode bs pc = .ok (.aconst_null, 1)) (hp : pc + 1 = pc') (h : own_End p e below F (T.setTop (mkF m pc' Ls (.null :: st)))) : own_End p e below F (T.setTop (mkF m pc Ls st)) := by
  subst hp; exact own_step (fun t k => XS.aconstNull X.here hx rfl (hb hby hd) k) h
theorem own_goto (X : Stand p l e R s m args below meth c T locs cells slots) (hx : p.tables.exec = Jvm.exec) (hby : c.code = bs) {o : Int} (hd : decode bs pc = .ok (.goto o, 3)) (ho : 0 ≤ (pc : Int) + o) (hp : ((pc : Int) + o).toNat = pc') (h : own_End p e below F (T.setTop (mkF m pc' Ls st))) : own_End p e below F (T.setTop (mkF m pc Ls st)) :=
  own_step (fun t k => XS.goto X.here hx rfl (pc0 := pc) (pc' := pc') rfl (hb hby hd) ho hp k) h
theorem own_dup (X : Stand p l e R s m args below meth c T locs cells slots) (hx : p.tables.exec = Jvm.exec) (hby : c.code = bs) {x : Value} (hd : decode bs pc = .ok (.dup, 1)) (hp : pc + 1 = pc') (hc : x.category = 1) (h : own_End p e below F (T.setTop (mkF m pc' Ls (x :: x :: st)))) : own_End p e below F (T.setTop (mkF m pc Ls (x :: st))) := by
  subst hp; exact own_step (fun t k => XS.dup X.here hx rfl (hb hby hd) rfl hc k) h
theorem own_dup_x1 (X : Stand p l e R s m args below meth c T locs cells slots) (hx : p.tables.exec = Jvm.exec) (hby : c.code = bs) {x y : Value} (hd : decode bs pc = .ok (.dup_x1, 1)) (hp : pc + 1 = pc') (hc : x.category = 1) (hc2 : y.category = 1) (h : own_End p e below F (T.setTop (mkF m pc' Ls (x :: y :: x :: st)))) : own_End p e below F (T.setTop (mkF m pc Ls (x :: y :: st))) := by
  subst hp; exact own_step (fun t k => XS.dupX1 X.here hx rfl (hb hby hd) rfl hc hc2 k) h
theorem own_pop (X : Stand p l e R s m args below meth c T locs cells slots) (hx : p.tables.exec = Jvm.exec) (hby : c.code = bs) {x : Value} (hd : decode bs pc = .ok (.pop, 1)) (hp : pc + 1 = pc') (hc : x.category = 1) (h : own_End p e below F (T.setTop (mkF m pc' Ls st))) : own_End p e below F (T.setTop (mkF m pc Ls (x :: st))) := by
  subst hp; exact own_step (fun t k => XS.pop X.here hx rfl (hb hby hd) rfl hc k) h
theorem own_pop2 (X : Stand p l e R s m args below meth c T locs cells slots) (hx : p.tables.exec = Jvm.exec) (hby : c.code = bs) {x : Int64} (hd : decode bs pc = .ok (.pop2, 1)) (hp : pc + 1 = pc') (h : own_End p e below F (T.setTop (mkF m pc' Ls st))) : own_End p e below F (T.setTop (mkF m pc Ls (.long x :: st))) := by
  subst hp
  refine own_step (fun t k => ?_) h
  have hd' := hb hby hd
  have hc : (Value.long x).category = 2 := rfl
  jvm_step X.here [X.here.top, hx, hd', Op.pop2.wp_sem, hc]
  exact k
theorem own_iadd (X : Stand p l e R s m args below meth c T locs cells slots) (hx : p.tables.exec = Jvm.exec) (hby : c.code = bs) {x y : Int32} (hd : decode bs pc = .ok (.iadd, 1)) (hp : pc + 1 = pc') (h : own_End p e below F (T.setTop (mkF m pc' Ls (.int (x + y) :: st)))) : own_End p e below F (T.setTop (mkF m pc Ls (.int y :: .int x :: st))) := by
  subst hp; exact own_step (fun t k => XS.iadd X.here hx rfl (hb hby hd) rfl k) h
theorem own_isub (X : Stand p l e R s m args below meth c T locs cells slots) (hx : p.tables.exec = Jvm.exec) (hby : c.code = bs) {x y : Int32} (hd : decode bs pc = .ok (.isub, 1)) (hp : pc + 1 = pc') (h : own_End p e below F (T.setTop (mkF m pc' Ls (.int (x - y) :: st)))) : own_End p e below F (T.setTop (mkF m pc Ls (.int y :: .int x :: st))) := by
  subst hp; exact own_step (fun t k => XS.isub X.here hx rfl (hb hby hd) rfl k) h
theorem own_imul (X : Stand p l e R s m args below meth c T locs cells slots) (hx : p.tables.exec = Jvm.exec) (hby : c.code = bs) {x y : Int32} (hd : decode bs pc = .ok (.imul, 1)) (hp : pc + 1 = pc') (h : own_End p e below F (T.setTop (mkF m pc' Ls (.int (x * y) :: st)))) : own_End p e below F (T.setTop (mkF m pc Ls (.int y :: .int x :: st))) := by
  subst hp; exact own_step (fun t k => XS.imul X.here hx rfl (hb hby hd) rfl k) h
theorem own_iand (X : Stand p l e R s m args below meth c T locs cells slots) (hx : p.tables.exec = Jvm.exec) (hby : c.code = bs) {x y : Int32} (hd : decode bs pc = .ok (.iand, 1)) (hp : pc + 1 = pc') (h : own_End p e below F (T.setTop (mkF m pc' Ls (.int (x &&& y) :: st)))) : own_End p e below F (T.setTop (mkF m pc Ls (.int y :: .int x :: st))) := by
  subst hp; exact own_step (fun t k => XS.iand X.here hx rfl (hb hby hd) rfl k) h
theorem own_ior (X : Stand p l e R s m args below meth c T locs cells slots) (hx : p.tables.exec = Jvm.exec) (hby : c.code = bs) {x y : Int32} (hd : decode bs pc = .ok (.ior, 1)) (hp : pc + 1 = pc') (h : own_End p e below F (T.setTop (mkF m pc' Ls (.int (x ||| y) :: st)))) : own_End p e below F (T.setTop (mkF m pc Ls (.int y :: .int x :: st))) := by
  subst hp; exact own_step (fun t k => XS.ior X.here hx rfl (hb hby hd) rfl k) h
theorem own_ixor (X : Stand p l e R s m args below meth c T locs cells slots) (hx : p.tables.exec = Jvm.exec) (hby : c.code = bs) {x y : Int32} (hd : decode bs pc = .ok (.ixor, 1)) (hp : pc + 1 = pc') (h : own_End p e below F (T.setTop (mkF m pc' Ls (.int (x ^^^ y) :: st)))) : own_End p e below F (T.setTop (mkF m pc Ls (.int y :: .int x :: st))) := by
  subst hp; exact own_step (fun t k => XS.ixor X.here hx rfl (hb hby hd) rfl k) h
theorem own_ladd (X : Stand p l e R s m args below meth c T locs cells slots) (hx : p.tables.exec = Jvm.exec) (hby : c.code = bs) {x y : Int64} (hd : decode bs pc = .ok (.ladd, 1)) (hp : pc + 1 = pc') (h : own_End p e below F (T.setTop (mkF m pc' Ls (.long (x + y) :: st)))) : own_End p e below F (T.setTop (mkF m pc Ls (.long y :: .long x :: st))) := by
  subst hp; exact own_step (fun t k => XS.ladd X.here hx rfl (hb hby hd) rfl k) h
theorem own_lsub (X : Stand p l e R s m args below meth c T locs cells slots) (hx : p.tables.exec = Jvm.exec) (hby : c.code = bs) {x y : Int64} (hd : decode bs pc = .ok (.lsub, 1)) (hp : pc + 1 = pc') (h : own_End p e below F (T.setTop (mkF m pc' Ls (.long (x - y) :: st)))) : own_End p e below F (T.setTop (mkF m pc Ls (.long y :: .long x :: st))) := by
  subst hp; exact own_step (fun t k => XS.lsub X.here hx rfl (hb hby hd) rfl k) h
theorem own_lmul (X : Stand p l e R s m args below meth c T locs cells slots) (hx : p.tables.exec = Jvm.exec) (hby : c.code = bs) {x y : Int64} (hd : decode bs pc = .ok (.lmul, 1)) (hp : pc + 1 = pc') (h : own_End p e below F (T.setTop (mkF m pc' Ls (.long (x * y) :: st)))) : own_End p e below F (T.setTop (mkF m pc Ls (.long y :: .long x :: st))) := by
  subst hp; exact own_step (fun t k => XS.lmul X.here hx rfl (hb hby hd) rfl k) h
theorem own_land (X : Stand p l e R s m args below meth c T locs cells slots) (hx : p.tables.exec = Jvm.exec) (hby : c.code = bs) {x y : Int64} (hd : decode bs pc = .ok (.land, 1)) (hp : pc + 1 = pc') (h : own_End p e below F (T.setTop (mkF m pc' Ls (.long (x &&& y) :: st)))) : own_End p e below F (T.setTop (mkF m pc Ls (.long y :: .long x :: st))) := by
  subst hp; exact own_step (fun t k => XS.land X.here hx rfl (hb hby hd) rfl k) h
theorem own_lor (X : Stand p l e R s m args below meth c T locs cells slots) (hx : p.tables.exec = Jvm.exec) (hby : c.code = bs) {x y : Int64} (hd : decode bs pc = .ok (.lor, 1)) (hp : pc + 1 = pc') (h : own_End p e below F (T.setTop (mkF m pc' Ls (.long (x ||| y) :: st)))) : own_End p e below F (T.setTop (mkF m pc Ls (.long y :: .long x :: st))) := by
  subst hp; exact own_step (fun t k => XS.lor X.here hx rfl (hb hby hd) rfl k) h
theorem own_lxor (X : Stand p l e R s m args below meth c T locs cells slots) (hx : p.tables.exec = Jvm.exec) (hby : c.code = bs) {x y : Int64} (hd : decode bs pc = .ok (.lxor, 1)) (hp : pc + 1 = pc') (h : own_End p e below F (T.setTop (mkF m pc' Ls (.long (x ^^^ y) :: st)))) : own_End p e below F (T.setTop (mkF m pc Ls (.long y :: .long x :: st))) := by
  subst hp; exact own_step (fun t k => XS.lxor X.here hx rfl (hb hby hd) rfl k) h
theorem own_ishl (X : Stand p l e R s m args below meth c T locs cells slots) (hx : p.tables.exec = Jvm.exec) (hby : c.code = bs) {x y : Int32} (hd : decode bs pc = .ok (.ishl, 1)) (hp : pc + 1 = pc') (h : own_End p e below F (T.setTop (mkF m pc' Ls (.int (x <<< (y &&& 31)) :: st)))) : own_End p e below F (T.setTop (mkF m pc Ls (.int y :: .int x :: st))) := by
  subst hp; exact own_step (fun t k => XS.ishl X.here hx rfl (hb hby hd) rfl k) h
theorem own_ishr (X : Stand p l e R s m args below meth c T locs cells slots) (hx : p.tables.exec = Jvm.exec) (hby : c.code = bs) {x y : Int32} (hd : decode bs pc = .ok (.ishr, 1)) (hp : pc + 1 = pc') (h : own_End p e below F (T.setTop (mkF m pc' Ls (.int (x >>> (y &&& 31)) :: st)))) : own_End p e below F (T.setTop (mkF m pc Ls (.int y :: .int x :: st))) := by
  subst hp; exact own_step (fun t k => XS.ishr X.here hx rfl (hb hby hd) rfl k) h
theorem own_iushr (X : Stand p l e R s m args below meth c T locs cells slots) (hx : p.tables.exec = Jvm.exec) (hby : c.code = bs) {x y : Int32} (hd : decode bs pc = .ok (.iushr, 1)) (hp : pc + 1 = pc') (h : own_End p e below F (T.setTop (mkF m pc' Ls (.int ((x.toUInt32 >>> (y &&& 31).toUInt32).toInt32) :: st)))) : own_End p e below F (T.setTop (mkF m pc Ls (.int y :: .int x :: st))) := by
  subst hp; exact own_step (fun t k => XS.iushr X.here hx rfl (hb hby hd) rfl k) h
theorem own_lshl (X : Stand p l e R s m args below meth c T locs cells slots) (hx : p.tables.exec = Jvm.exec) (hby : c.code = bs) {x : Int64} {y : Int32} (hd : decode bs pc = .ok (.lshl, 1)) (hp : pc + 1 = pc') (h : own_End p e below F (T.setTop (mkF m pc' Ls (.long (x <<< (y &&& 0x3f).toInt64) :: st)))) : own_End p e below F (T.setTop (mkF m pc Ls (.int y :: .long x :: st))) := by
  subst hp; exact own_step (fun t k => XS.lshl X.here hx rfl (hb hby hd) rfl k) h
theorem own_lshr (X : Stand p l e R s m args below meth c T locs cells slots) (hx : p.tables.exec = Jvm.exec) (hby : c.code = bs) {x : Int64} {y : Int32} (hd : decode bs pc = .ok (.lshr, 1)) (hp : pc + 1 = pc') (h : own_End p e below F (T.setTop (mkF m pc' Ls (.long (x >>> (y &&& 0x3f).toInt64) :: st)))) : own_End p e below F (T.setTop (mkF m pc Ls (.int y :: .long x :: st))) := by
  subst hp; exact own_step (fun t k => XS.lshr X.here hx rfl (hb hby hd) rfl k) h
theorem own_lushr (X : Stand p l e R s m args below meth c T locs cells slots) (hx : p.tables.exec = Jvm.exec) (hby : c.code = bs) {x : Int64} {y : Int32} (hd : decode bs pc = .ok (.lushr, 1)) (hp : pc + 1 = pc') (h : own_End p e below F (T.setTop (mkF m pc' Ls (.long ((x.toUInt64 >>> (y &&& 0x3f).toInt64.toUInt64).toInt64) :: st)))) : own_End p e below F (T.setTop (mkF m pc Ls (.int y :: .long x :: st))) := by
  subst hp; exact own_step (fun t k => XS.lushr X.here hx rfl (hb hby hd) rfl k) h
theorem own_lcmp (X : Stand p l e R s m args below meth c T locs cells slots) (hx : p.tables.exec = Jvm.exec) (hby : c.code = bs) {x y : Int64} (hd : decode bs pc = .ok (.lcmp, 1)) (hp : pc + 1 = pc') (h : own_End p e below F (T.setTop (mkF m pc' Ls (.int (lcmpW x y) :: st)))) : own_End p e below F (T.setTop (mkF m pc Ls (.long y :: .long x :: st))) := by
  subst hp; exact own_step (fun t k => XS.lcmp X.here hx rfl (hb hby hd) rfl k) h
theorem own_ineg (X : Stand p l e R s m args below meth c T locs cells slots) (hx : p.tables.exec = Jvm.exec) (hby : c.code = bs) {x : Int32} (hd : decode bs pc = .ok (.ineg, 1)) (hp : pc + 1 = pc') (h : own_End p e below F (T.setTop (mkF m pc' Ls (.int (-x) :: st)))) : own_End p e below F (T.setTop (mkF m pc Ls (.int x :: st))) := by
  subst hp; exact own_step (fun t k => XS.ineg X.here hx rfl (hb hby hd) rfl k) h
theorem own_i2b (X : Stand p l e R s m args below meth c T locs cells slots) (hx : p.tables.exec = Jvm.exec) (hby : c.code = bs) {x : Int32} (hd : decode bs pc = .ok (.i2b, 1)) (hp : pc + 1 = pc') (h : own_End p e below F (T.setTop (mkF m pc' Ls (.int (x.toInt8.toInt32) :: st)))) : own_End p e below F (T.setTop (mkF m pc Ls (.int x :: st))) := by
  subst hp; exact own_step (fun t k => XS.i2b X.here hx rfl (hb hby hd) rfl k) h
theorem own_i2s (X : Stand p l e R s m args below meth c T locs cells slots) (hx : p.tables.exec = Jvm.exec) (hby : c.code = bs) {x : Int32} (hd : decode bs pc = .ok (.i2s, 1)) (hp : pc + 1 = pc') (h : own_End p e below F (T.setTop (mkF m pc' Ls (.int (x.toInt16.toInt32) :: st)))) : own_End p e below F (T.setTop (mkF m pc Ls (.int x :: st))) := by
  subst hp; exact own_step (fun t k => XS.i2s X.here hx rfl (hb hby hd) rfl k) h
theorem own_i2c (X : Stand p l e R s m args below meth c T locs cells slots) (hx : p.tables.exec = Jvm.exec) (hby : c.code = bs) {x : Int32} (hd : decode bs pc = .ok (.i2c, 1)) (hp : pc + 1 = pc') (h : own_End p e below F (T.setTop (mkF m pc' Ls (.int (x.toUInt32.toUInt16.toUInt32.toInt32) :: st)))) : own_End p e below F (T.setTop (mkF m pc Ls (.int x :: st))) := by
  subst hp; exact own_step (fun t k => XS.i2c X.here hx rfl (hb hby hd) rfl k) h
theorem own_i2l (X : Stand p l e R s m args below meth c T locs cells slots) (hx : p.tables.exec = Jvm.exec) (hby : c.code = bs) {x : Int32} (hd : decode bs pc = .ok (.i2l, 1)) (hp : pc + 1 = pc') (h : own_End p e below F (T.setTop (mkF m pc' Ls (.long (x.toInt64) :: st)))) : own_End p e below F (T.setTop (mkF m pc Ls (.int x :: st))) := by
  subst hp; exact own_step (fun t k => XS.i2l X.here hx rfl (hb hby hd) rfl k) h
theorem own_lneg (X : Stand p l e R s m args below meth c T locs cells slots) (hx : p.tables.exec = Jvm.exec) (hby : c.code = bs) {x : Int64} (hd : decode bs pc = .ok (.lneg, 1)) (hp : pc + 1 = pc') (h : own_End p e below F (T.setTop (mkF m pc' Ls (.long (-x) :: st)))) : own_End p e below F (T.setTop (mkF m pc Ls (.long x :: st))) := by
  subst hp; exact own_step (fun t k => XS.lneg X.here hx rfl (hb hby hd) rfl k) h
theorem own_l2i (X : Stand p l e R s m args below meth c T locs cells slots) (hx : p.tables.exec = Jvm.exec) (hby : c.code = bs) {x : Int64} (hd : decode bs pc = .ok (.l2i, 1)) (hp : pc + 1 = pc') (h : own_End p e below F (T.setTop (mkF m pc' Ls (.int (x.toInt32) :: st)))) : own_End p e below F (T.setTop (mkF m pc Ls (.long x :: st))) := by
  subst hp; exact own_step (fun t k => XS.l2i X.here hx rfl (hb hby hd) rfl k) h
theorem own_idiv (X : Stand p l e R s m args below meth c T locs cells slots) (hx : p.tables.exec = Jvm.exec) (hby : c.code = bs) {x y : Int32} (hd : decode bs pc = .ok (.idiv, 1)) (hp : pc + 1 = pc') (hy : ¬ y = 0) (h : own_End p e below F (T.setTop (mkF m pc' Ls (.int (x / y) :: st)))) : own_End p e below F (T.setTop (mkF m pc Ls (.int y :: .int x :: st))) := by
  subst hp; exact own_step (fun t k => XS.idiv X.here hx rfl (hb hby hd) rfl hy k) h
theorem own_irem (X : Stand p l e R s m args below meth c T locs cells slots) (hx : p.tables.exec = Jvm.exec) (hby : c.code = bs) {x y : Int32} (hd : decode bs pc = .ok (.irem, 1)) (hp : pc + 1 = pc') (hy : ¬ y = 0) (h : own_End p e below F (T.setTop (mkF m pc' Ls (.int (x % y) :: st)))) : own_End p e below F (T.setTop (mkF m pc Ls (.int y :: .int x :: st))) := by
  subst hp; exact own_step (fun t k => iremM X hx rfl (hb hby hd) rfl hy k) h
theorem own_ldiv (X : Stand p l e R s m args below meth c T locs cells slots) (hx : p.tables.exec = Jvm.exec) (hby : c.code = bs) {x y : Int64} (hd : decode bs pc = .ok (.ldiv, 1)) (hp : pc + 1 = pc') (hy : ¬ y = 0) (h : own_End p e below F (T.setTop (mkF m pc' Ls (.long (x / y) :: st)))) : own_End p e below F (T.setTop (mkF m pc Ls (.long y :: .long x :: st))) := by
  subst hp; exact own_step (fun t k => XS.ldiv X.here hx rfl (hb hby hd) rfl hy k) h
theorem own_lrem (X : Stand p l e R s m args below meth c T locs cells slots) (hx : p.tables.exec = Jvm.exec) (hby : c.code = bs) {x y : Int64} (hd : decode bs pc = .ok (.lrem, 1)) (hp : pc + 1 = pc') (hy : ¬ y = 0) (h : own_End p e below F (T.setTop (mkF m pc' Ls (.long (x % y) :: st)))) : own_End p e below F (T.setTop (mkF m pc Ls (.long y :: .long x :: st))) := by
  subst hp; exact own_step (fun t k => XS.lrem X.here hx rfl (hb hby hd) rfl hy (by rw [lrem_mod]; exact k)) h
/-- the branch's condition, and its contrary -/
abbrev own_ct (cd : ClassFile.Cond) (x y : Int32) : Prop := match cd with | .eq => x = y | .ne => ¬ x = y | .lt => x < y | .ge => ¬ x < y | .gt => y < x | .le => ¬ y < x
abbrev own_cf (cd : ClassFile.Cond) (x y : Int32) : Prop := match cd with | .eq => ¬ x = y | .ne => x = y | .lt => ¬ x < y | .ge => x < y | .gt => ¬ y < x | .le => y < x
abbrev own_ctL (cd : ClassFile.Cond) (x y : Int64) : Prop := match cd with | .eq => x = y | .ne => ¬ x = y | .lt => x < y | .ge => ¬ x < y | .gt => y < x | .le => ¬ y < x
abbrev own_cfL (cd : ClassFile.Cond) (x y : Int64) : Prop := match cd with | .eq => ¬ x = y | .ne => x = y | .lt => ¬ x < y | .ge => x < y | .gt => ¬ y < x | .le => y < x
theorem own_ct_y {cd : ClassFile.Cond} {x y : Int32} (h : own_ct cd x y) : if_icmp.holds cd x y = true := by
  cases cd
  · exact (teq h).1
  · exact (feq h).2
  · exact (tlt h).1
  · exact (flt h).2.1
  · exact (tlt h).2.2.1
  · exact (flt h).2.2.2
theorem own_ct_n {cd : ClassFile.Cond} {x y : Int32} (h : own_cf cd x y) : if_icmp.holds cd x y = false := by
  cases cd
  · exact (feq h).1
  · exact (teq h).2
  · exact (flt h).1
  · exact (tlt h).2.1
  · exact (flt h).2.2.1
  · exact (tlt h).2.2.2
theorem own_ct_or (cd : ClassFile.Cond) (x y : Int32) : own_ct cd x y ∨ own_cf cd x y := by
  cases cd
  · exact Decidable.em _
  · exact (Decidable.em _).symm
  · exact Decidable.em _
  · exact (Decidable.em _).symm
  · exact Decidable.em _
  · exact (Decidable.em _).symm
theorem own_ctL_or (cd : ClassFile.Cond) (x y : Int64) : own_ctL cd x y ∨ own_cfL cd x y := by
  cases cd
  · exact Decidable.em _
  · exact (Decidable.em _).symm
  · exact Decidable.em _
  · exact (Decidable.em _).symm
  · exact Decidable.em _
  · exact (Decidable.em _).symm
theorem own_ctL_y {cd : ClassFile.Cond} {x y : Int64} (h : own_ctL cd x y) : own_ct cd (lcmpW x y) 0 := by
  cases cd
  · exact (lw_eq x y).mpr h
  · exact fun q => h ((lw_eq x y).mp q)
  · exact (lw_lt x y).mpr h
  · exact fun q => h ((lw_lt x y).mp q)
  · exact (lw_gt x y).mpr h
  · exact fun q => h ((lw_gt x y).mp q)
theorem own_ctL_n {cd : ClassFile.Cond} {x y : Int64} (h : own_cfL cd x y) : own_cf cd (lcmpW x y) 0 := by
  cases cd
  · exact fun q => h ((lw_eq x y).mp q)
  · exact (lw_eq x y).mpr h
  · exact fun q => h ((lw_lt x y).mp q)
  · exact (lw_lt x y).mpr h
  · exact fun q => h ((lw_gt x y).mp q)
  · exact (lw_gt x y).mpr h
theorem own_ifY (X : Stand p l e R s m args below meth c T locs cells slots) (hx : p.tables.exec = Jvm.exec) (hby : c.code = bs) {cd : ClassFile.Cond} {x : Int32} {o : Int} (hd : decode bs pc = .ok (.ifCond cd o, 3)) (ho : 0 ≤ (pc : Int) + o) (hp : ((pc : Int) + o).toNat = pc') (hc : own_ct cd x 0) (h : own_End p e below F (T.setTop (mkF m pc' Ls st))) : own_End p e below F (T.setTop (mkF m pc Ls (.int x :: st))) :=
  own_step (fun t k => XS.ifYes X.here hx rfl (pc0 := pc) (pc' := pc') rfl (hb hby hd) rfl ((if0 _ _).trans (own_ct_y hc)) ho hp k) h
theorem own_ifN (X : Stand p l e R s m args below meth c T locs cells slots) (hx : p.tables.exec = Jvm.exec) (hby : c.code = bs) {cd : ClassFile.Cond} {x : Int32} {o : Int} (hd : decode bs pc = .ok (.ifCond cd o, 3)) (hp : pc + 3 = pc') (hc : own_cf cd x 0) (h : own_End p e below F (T.setTop (mkF m pc' Ls st))) : own_End p e below F (T.setTop (mkF m pc Ls (.int x :: st))) := by
  subst hp; exact own_step (fun t k => XS.ifNo X.here hx rfl (hb hby hd) rfl ((if0 _ _).trans (own_ct_n hc)) k) h
theorem own_icY (X : Stand p l e R s m args below meth c T locs cells slots) (hx : p.tables.exec = Jvm.exec) (hby : c.code = bs) {cd : ClassFile.Cond} {x y : Int32} {o : Int} (hd : decode bs pc = .ok (.if_icmp cd o, 3)) (ho : 0 ≤ (pc : Int) + o) (hp : ((pc : Int) + o).toNat = pc') (hc : own_ct cd x y) (h : own_End p e below F (T.setTop (mkF m pc' Ls st))) : own_End p e below F (T.setTop (mkF m pc Ls (.int y :: .int x :: st))) :=
  own_step (fun t k => XS.icmpYes X.here hx rfl (pc0 := pc) (pc' := pc') rfl (hb hby hd) rfl (own_ct_y hc) ho hp k) h
theorem own_icN (X : Stand p l e R s m args below meth c T locs cells slots) (hx : p.tables.exec = Jvm.exec) (hby : c.code = bs) {cd : ClassFile.Cond} {x y : Int32} {o : Int} (hd : decode bs pc = .ok (.if_icmp cd o, 3)) (hp : pc + 3 = pc') (hc : own_cf cd x y) (h : own_End p e below F (T.setTop (mkF m pc' Ls st))) : own_End p e below F (T.setTop (mkF m pc Ls (.int y :: .int x :: st))) := by
  subst hp; exact own_step (fun t k => XS.icmpNo X.here hx rfl (hb hby hd) rfl (own_ct_n hc) k) h
theorem own_if2 (X : Stand p l e R s m args below meth c T locs cells slots) (hx : p.tables.exec = Jvm.exec) (hby : c.code = bs) {cd : ClassFile.Cond} {x : Int32} {o : Int} {pc1 pc2 : Nat} (hd : decode bs pc = .ok (.ifCond cd o, 3)) (ho : 0 ≤ (pc : Int) + o) (hp : ((pc : Int) + o).toNat = pc1) (hp2 : pc + 3 = pc2) (h1 : own_ct cd x 0 → own_End p e below F (T.setTop (mkF m pc1 Ls st))) (h2 : own_cf cd x 0 → own_End p e below F (T.setTop (mkF m pc2 Ls st))) : own_End p e below F (T.setTop (mkF m pc Ls (.int x :: st))) :=
  (own_ct_or cd x 0).elim (fun q => own_ifY X hx hby hd ho hp q (h1 q)) (fun q => own_ifN X hx hby hd hp2 q (h2 q))
theorem own_ic2 (X : Stand p l e R s m args below meth c T locs cells slots) (hx : p.tables.exec = Jvm.exec) (hby : c.code = bs) {cd : ClassFile.Cond} {x y : Int32} {o : Int} {pc1 pc2 : Nat} (hd : decode bs pc = .ok (.if_icmp cd o, 3)) (ho : 0 ≤ (pc : Int) + o) (hp : ((pc : Int) + o).toNat = pc1) (hp2 : pc + 3 = pc2) (h1 : own_ct cd x y → own_End p e below F (T.setTop (mkF m pc1 Ls st))) (h2 : own_cf cd x y → own_End p e below F (T.setTop (mkF m pc2 Ls st))) : own_End p e below F (T.setTop (mkF m pc Ls (.int y :: .int x :: st))) :=
  (own_ct_or cd x y).elim (fun q => own_icY X hx hby hd ho hp q (h1 q)) (fun q => own_icN X hx hby hd hp2 q (h2 q))
theorem own_ifL2 (X : Stand p l e R s m args below meth c T locs cells slots) (hx : p.tables.exec = Jvm.exec) (hby : c.code = bs) {cd : ClassFile.Cond} {x y : Int64} {o : Int} {pc1 pc2 : Nat} (hd : decode bs pc = .ok (.ifCond cd o, 3)) (ho : 0 ≤ (pc : Int) + o) (hp : ((pc : Int) + o).toNat = pc1) (hp2 : pc + 3 = pc2) (h1 : own_ctL cd x y → own_End p e below F (T.setTop (mkF m pc1 Ls st))) (h2 : own_cfL cd x y → own_End p e below F (T.setTop (mkF m pc2 Ls st))) : own_End p e below F (T.setTop (mkF m pc Ls (.int (lcmpW x y) :: st))) :=
  (own_ctL_or cd x y).elim (fun q => own_ifY X hx hby hd ho hp (own_ctL_y q) (h1 q)) (fun q => own_ifN X hx hby hd hp2 (own_ctL_n q) (h2 q))
theorem own_ifnullY (X : Stand p l e R s m args below meth c T locs cells slots) (hx : p.tables.exec = Jvm.exec) (hby : c.code = bs) {o : Int} (hd : decode bs pc = .ok (.ifnull o, 3)) (ho : 0 ≤ (pc : Int) + o) (hp : ((pc : Int) + o).toNat = pc') (h : own_End p e below F (T.setTop (mkF m pc' Ls st))) : own_End p e below F (T.setTop (mkF m pc Ls (.null :: st))) :=
  own_step (fun t k => XS.ifnullYes X.here hx rfl (pc0 := pc) (pc' := pc') rfl (hb hby hd) rfl ho hp k) h
theorem own_ifnullN (X : Stand p l e R s m args below meth c T locs cells slots) (hx : p.tables.exec = Jvm.exec) (hby : c.code = bs) {o : Int} {b : Addr} (hd : decode bs pc = .ok (.ifnull o, 3)) (hp : pc + 3 = pc') (h : own_End p e below F (T.setTop (mkF m pc' Ls st))) : own_End p e below F (T.setTop (mkF m pc Ls (.ref b :: st))) := by
  subst hp; exact own_step (fun t k => XS.ifnullNo X.here hx rfl (hb hby hd) rfl k) h
theorem own_ifnonnullY (X : Stand p l e R s m args below meth c T locs cells slots) (hx : p.tables.exec = Jvm.exec) (hby : c.code = bs) {o : Int} {b : Addr} (hd : decode bs pc = .ok (.ifnonnull o, 3)) (ho : 0 ≤ (pc : Int) + o) (hp : ((pc : Int) + o).toNat = pc') (h : own_End p e below F (T.setTop (mkF m pc' Ls st))) : own_End p e below F (T.setTop (mkF m pc Ls (.ref b :: st))) :=
  own_step (fun t k => XS.ifnonnullYes X.here hx rfl (pc0 := pc) (pc' := pc') rfl (hb hby hd) rfl ho hp k) h
theorem own_ifnonnullN (X : Stand p l e R s m args below meth c T locs cells slots) (hx : p.tables.exec = Jvm.exec) (hby : c.code = bs) {o : Int} (hd : decode bs pc = .ok (.ifnonnull o, 3)) (hp : pc + 3 = pc') (h : own_End p e below F (T.setTop (mkF m pc' Ls st))) : own_End p e below F (T.setTop (mkF m pc Ls (.null :: st))) := by
  subst hp; exact own_step (fun t k => XS.ifnonnullNo X.here hx rfl (hb hby hd) rfl k) h
theorem own_acmp (X : Stand p l e R s m args below meth c T locs cells slots) (hx : p.tables.exec = Jvm.exec) (hby : c.code = bs) {cd : ACond} {x y : Value} {o : Int} {same : Bool} (hd : decode bs pc = .ok (.if_acmp cd o, 3)) (h1 : x.isRef = true) (h2 : y.isRef = true) (hq : decide (x = y) = same) (ho : 0 ≤ (pc : Int) + o) (hp : pc' = if acV cd same = true then ((pc : Int) + o).toNat else pc + 3) (h : own_End p e below F (T.setTop (mkF m pc' Ls st))) : own_End p e below F (T.setTop (mkF m pc Ls (y :: x :: st))) :=
  own_step (fun t k => Jvm.RoadKit.acmp (g := mkF m pc Ls (y :: x :: st)) X hx rfl h1 h2 (pc0 := pc) (pc' := pc') (same := same) rfl (hb hby hd) rfl hq ho hp k) h
end Plain
section Words
variable {Z : State} {a0 : Array Value}
theorem own_ldcInt (X : Stand p l e R s m args below meth c T locs cells slots) (hx : p.tables.exec = Jvm.exec) (hZ : Z.Warmed39 s.vm) (hby : c.code = bs) {own : String} {index : Nat} {v : Int32} (hown : s.vm.findClass own = some m.cls) (w : (Cond.constant own index v).before a0 Z = true) (hd : decode bs pc = .ok (.ldc index, 2)) (hp : pc + 2 = pc') (h : own_End p e below F (T.setTop (mkF m pc' Ls (.int v :: st)))) : own_End p e below F (T.setTop (mkF m pc Ls st)) := by
  subst hp; exact own_step (X.ldcInt hx hown (mvT hZ w) (g := mkF m pc Ls st) rfl (hb hby hd)) h
theorem own_ldc2Long (X : Stand p l e R s m args below meth c T locs cells slots) (hx : p.tables.exec = Jvm.exec) (hZ : Z.Warmed39 s.vm) (hby : c.code = bs) {own : String} {index : Nat} {v : Int64} (hown : s.vm.findClass own = some m.cls) (w : (Cond.constantLong own index v).before a0 Z = true) (hd : decode bs pc = .ok (.ldc2_w index, 3)) (hp : pc + 3 = pc') (h : own_End p e below F (T.setTop (mkF m pc' Ls (.long v :: st)))) : own_End p e below F (T.setTop (mkF m pc Ls st)) := by
  subst hp; exact own_step (X.ldc2Long hx hown (mvT hZ w) (g := mkF m pc Ls st) rfl (hb hby hd)) h
end Words
section Heap
variable {Z : State} {a0 : Array Value} {h : Heap}
theorem own_getF (X : Stand p l e R s m args below meth c T locs cells slots) (hx : p.tables.exec = Jvm.exec) (hZ : Z.Warmed39 s.vm) (hby : c.code = bs) {own R0 O n d host : String} {index : Nat} {a : Addr} {v : Value} (hown : s.vm.findClass own = some m.cls) (w : (Cond.fieldLink own index R0 n d).before a0 Z = true ∨ (Cond.fieldLinkNest own index R0 n d host).before a0 Z = true) (via : Via Z R0 O n d) (eT : T.heap = h) (Fd : Fld Z h a O n d v) (hd : decode bs pc = .ok (.getfield index, 3)) (hp : pc + 3 = pc')
    (k : ∀ T', Stand p l e R s m args below meth c T' locs cells slots → T'.heap = h → own_End p e below F (T'.setTop (mkF m pc' Ls (v :: st)))) : own_End p e below F (T.setTop (mkF m pc Ls (.ref a :: st))) := by
  subst hp
  obtain ⟨T', X', e', stp⟩ := getF X hx hZ hown w via eT Fd (g := mkF m pc Ls (.ref a :: st)) rfl rfl (hb hby hd)
  exact own_step stp (k T' X' e')
theorem own_getS (X : Stand p l e R s m args below meth c T locs cells slots) (hx : p.tables.exec = Jvm.exec) (hZ : Z.Warmed39 s.vm) (hby : c.code = bs) {own R0 O n d host : String} {index : Nat} {v : Value} (hown : s.vm.findClass own = some m.cls) (w : (Cond.fieldLink own index R0 n d).before a0 Z = true ∨ (Cond.fieldLinkNest own index R0 n d host).before a0 Z = true) (via : Via Z R0 O n d) (eT : T.heap = h) (Fd : Sta Z h O n d v) (hd : decode bs pc = .ok (.getstatic index, 3)) (hp : pc + 3 = pc')
    (k : ∀ T', Stand p l e R s m args below meth c T' locs cells slots → T'.heap = h → own_End p e below F (T'.setTop (mkF m pc' Ls (v :: st)))) : own_End p e below F (T.setTop (mkF m pc Ls st)) := by
  subst hp
  obtain ⟨T', X', e', stp⟩ := getS2 X hx hZ hown w via eT Fd (g := mkF m pc Ls st) rfl (hb hby hd)
  exact own_step stp (k T' X' e')
theorem own_putF (X : Stand p l e R s m args below meth c T locs cells slots) (hx : p.tables.exec = Jvm.exec) (hZ : Z.Warmed39 s.vm) (hby : c.code = bs) {own R0 O n d host C : String} {index kk : Nat} {ty : FieldType} {a : Addr} {v old : Value} (hown : s.vm.findClass own = some m.cls) (w : (Cond.fieldLink own index R0 n d).before a0 Z = true ∨ (Cond.fieldLinkNest own index R0 n d host).before a0 Z = true) (via : Via Z R0 O n d) (eT : T.heap = h) (Fd : Fld Z h a O n d old) (E : Exa Z h a C)
    (La : (Cond.lays C O n d).before a0 Z = true ∨ ((Cond.laysFinal C O n d).before a0 Z = true ∧ own = O ∧ meth.name = "<init>")) (wi : (Cond.instantiable C kk).before a0 Z = true) (hty : parseFieldDescriptor d = some ty) (hn : narrow ty v = v) (hf : fits ty v = true) (hd : decode bs pc = .ok (.putfield index, 3)) (hp : pc + 3 = pc')
    (k : ∀ T' h', Stand p l e R s m args below meth c T' (locs ++ [⟨a, Jvm.RoadKit.slotOf Z O n d⟩]) cells slots → T'.heap = h' → Wr h h' a (Jvm.RoadKit.slotOf Z O n d) v → own_End p e below F (T'.setTop (mkF m pc' Ls st))) : own_End p e below F (T.setTop (mkF m pc Ls (v :: .ref a :: st))) := by
  subst hp
  obtain ⟨T', h', X', e', W', stp⟩ := putF X hx hZ hown w via eT Fd E La wi hty hn hf (g := mkF m pc Ls (v :: .ref a :: st)) rfl rfl (hb hby hd)
  exact own_step stp (k T' h' X' e' W')
theorem own_putN (X : Stand p l e R s m args below meth c T locs cells slots) (hx : p.tables.exec = Jvm.exec) (hZ : Z.Warmed39 s.vm) (hby : c.code = bs) {own R0 O n d C : String} {index kk : Nat} {ty : FieldType} {a : Addr} {v v' old : Value} (hown : s.vm.findClass own = some m.cls) (w : (Cond.fieldLink own index R0 n d).before a0 Z = true) (via : Via Z R0 O n d) (eT : T.heap = h) (Fd : Fld Z h a O n d old) (E : Exa Z h a C)
    (La : (Cond.lays C O n d).before a0 Z = true ∨ ((Cond.laysFinal C O n d).before a0 Z = true ∧ own = O ∧ meth.name = "<init>")) (wi : (Cond.instantiable C kk).before a0 Z = true) (hty : parseFieldDescriptor d = some ty) (hn : narrow ty v = v') (hf : fits ty v' = true) (hd : decode bs pc = .ok (.putfield index, 3)) (hp : pc + 3 = pc')
    (k : ∀ T' h', Stand p l e R s m args below meth c T' (locs ++ [⟨a, Jvm.RoadKit.slotOf Z O n d⟩]) cells slots → T'.heap = h' → Wr h h' a (Jvm.RoadKit.slotOf Z O n d) v' → own_End p e below F (T'.setTop (mkF m pc' Ls st))) : own_End p e below F (T.setTop (mkF m pc Ls (v :: .ref a :: st))) := by
  subst hp
  obtain ⟨T', h', X', e', W', stp⟩ := putFN X hx hZ hown w via eT Fd E La wi hty hn hf (g := mkF m pc Ls (v :: .ref a :: st)) rfl rfl (hb hby hd)
  exact own_step stp (k T' h' X' e' W')
theorem own_new (X : Stand p l e R s m args below meth c T locs cells slots) (hx : p.tables.exec = Jvm.exec) (hZ : Z.Warmed39 s.vm) (hby : c.code = bs) {own C : String} {index n : Nat} (hown : s.vm.findClass own = some m.cls) (w : (Cond.classLink own index C).before a0 Z = true) (wi : (Cond.instantiable C n).before a0 Z = true) (wz : (Cond.initialized C).before a0 Z = true) (eT : T.heap = h) (hd : decode bs pc = .ok (.new index, 3)) (hp : pc + 3 = pc') (hc : cells + 1 ≤ R.cells) (hl : slots + n ≤ R.slots)
    (k : ∀ T' h' (b : Addr), b = h.size → Stand p l e R s m args below meth c T' locs (cells + 1) (slots + n) → T'.heap = h' → Ext h h' → Exa Z h' b C → (∀ {O nm d : String} {ty : FieldType}, Laid Z a0 C O nm d → parseFieldDescriptor d = some ty → Fld Z h' b O nm d (defaultValue ty)) → own_End p e below F (T'.setTop (mkF m pc' Ls (.ref b :: st)))) : own_End p e below F (T.setTop (mkF m pc Ls st)) := by
  subst hp
  obtain ⟨T', h', X', e', E', A', D', -, stp⟩ := newO X hx hZ hown w wi wz eT (g := mkF m pc Ls st) rfl (hb hby hd) hc hl
  exact own_step stp (k T' h' h.size rfl X' e' E' A' D')
theorem own_newP (X : Stand p l e R s m args below meth c T locs cells slots) (hx : p.tables.exec = Jvm.exec) (hZ : Z.Warmed39 s.vm) (hby : c.code = bs) {aty : ArrayType} {n : Int32} {cap : Nat} (w : (Cond.arrayClass (newarray.typeOf aty)).before a0 Z = true) (eT : T.heap = h) (hd : decode bs pc = .ok (.newarray aty, 2)) (hp : pc + 2 = pc') (hn : ¬ n < 0) (hcap : n.toNatClampNeg ≤ cap) (hb' : cap * 8 ≤ 536870912) (hc : cells + 1 ≤ R.cells) (hl : slots + cap ≤ R.slots)
    (k : ∀ T' h' cA (b : Addr), b = h.size → Stand p l e R s m args below meth c T' locs (cells + 1) (slots + cap) → T'.heap = h' → Ext h h' → Arr Z h' b (newA cA (newarray.typeOf aty) n) (newarray.typeOf aty) → own_End p e below F (T'.setTop (mkF m pc' Ls (.ref b :: st)))) : own_End p e below F (T.setTop (mkF m pc Ls (.int n :: st))) := by
  subst hp
  obtain ⟨T', h', cA, X', e', E', A', stp⟩ := newP X hx hZ w eT (g := mkF m pc Ls (.int n :: st)) rfl (hb hby hd) rfl hn hcap hb' hc hl
  exact own_step stp (k T' h' cA h.size rfl X' e' E' A')
theorem own_newPE (X : Stand p l e R s m args below meth c T locs cells slots) (hx : p.tables.exec = Jvm.exec) (hZ : Z.Warmed39 s.vm) (hby : c.code = bs) {aty : ArrayType} {n : Int32} {cap : Nat} {ad : String} (had : "[" ++ (newarray.typeOf aty).toString = ad) (w : (Cond.arrayClass (newarray.typeOf aty)).before a0 Z = true) (eT : T.heap = h) (hd : decode bs pc = .ok (.newarray aty, 2)) (hp : pc + 2 = pc') (hn : ¬ n < 0) (hcap : n.toNatClampNeg ≤ cap) (hb' : cap * 8 ≤ 536870912) (hc : cells + 1 ≤ R.cells) (hl : slots + cap ≤ R.slots)
    (k : ∀ T' h' cA (b : Addr), b = h.size → Stand p l e R s m args below meth c T' locs (cells + 1) (slots + cap) → T'.heap = h' → Ext h h' → Arr Z h' b (newA cA (newarray.typeOf aty) n) (newarray.typeOf aty) → Exa Z h' b ad → own_End p e below F (T'.setTop (mkF m pc' Ls (.ref b :: st)))) : own_End p e below F (T.setTop (mkF m pc Ls (.int n :: st))) := by
  subst hp
  obtain ⟨T', h', cA, X', e', E', A', Ex', stp⟩ := newPE X hx hZ w eT (g := mkF m pc Ls (.int n :: st)) rfl (hb hby hd) rfl hn hcap hb' hc hl had
  exact own_step stp (k T' h' cA h.size rfl X' e' E' A' Ex')
theorem own_newR (X : Stand p l e R s m args below meth c T locs cells slots) (hx : p.tables.exec = Jvm.exec) (hZ : Z.Warmed39 s.vm) (hby : c.code = bs) {own C : String} {index : Nat} {n : Int32} {cap : Nat} (hown : s.vm.findClass own = some m.cls) (w1 : (Cond.classLink own index C).before a0 Z = true) (w2 : (Cond.arrayOver (.object C)).before a0 Z = true) (eT : T.heap = h) (hd : decode bs pc = .ok (.anewarray index, 3)) (hp : pc + 3 = pc') (hn : ¬ n < 0) (hcap : n.toNatClampNeg ≤ cap) (hb' : cap * 8 ≤ 536870912) (hc : cells + 1 ≤ R.cells) (hl : slots + cap ≤ R.slots)
    (k : ∀ T' h' cA (b : Addr), b = h.size → Stand p l e R s m args below meth c T' locs (cells + 1) (slots + cap) → T'.heap = h' → Ext h h' → Arr Z h' b (newA cA (.object C) n) (.object C) → Ovr Z cA C → own_End p e below F (T'.setTop (mkF m pc' Ls (.ref b :: st)))) : own_End p e below F (T.setTop (mkF m pc Ls (.int n :: st))) := by
  subst hp
  obtain ⟨T', h', cA, X', e', E', A', O', stp⟩ := newR X hx hZ hown w1 w2 eT (g := mkF m pc Ls (.int n :: st)) rfl (hb hby hd) rfl hn hcap hb' hc hl
  exact own_step stp (k T' h' cA h.size rfl X' e' E' A' O')
theorem own_iastore (X : Stand p l e R s m args below meth c T locs cells slots) (hx : p.tables.exec = Jvm.exec) (hZ : Z.Warmed39 s.vm) (hby : c.code = bs) {a : Addr} {cl : Cell} (eT : T.heap = h) (A : Arr Z h a cl .int) {j : Int32} {x : Int32} (hj : ¬ (j < 0 ∨ cl.slots.size ≤ j.toNatClampNeg)) (hd : decode bs pc = .ok (.iastore, 1)) (hp : pc + 1 = pc')
    (k : ∀ T' h', Stand p l e R s m args below meth c T' (locs ++ [⟨a, j.toNatClampNeg⟩]) cells slots → T'.heap = h' → Wr h h' a j.toNatClampNeg (.int x) → own_End p e below F (T'.setTop (mkF m pc' Ls st))) : own_End p e below F (T.setTop (mkF m pc Ls (.int x :: .int j :: .ref a :: st))) := by
  subst hp
  obtain ⟨T', h', X', e', W', stp⟩ := stI X hx hZ eT A hj (g := mkF m pc Ls (.int x :: .int j :: .ref a :: st)) rfl rfl (hb hby hd)
  exact own_step stp (k T' h' X' e' W')
theorem own_lastore (X : Stand p l e R s m args below meth c T locs cells slots) (hx : p.tables.exec = Jvm.exec) (hZ : Z.Warmed39 s.vm) (hby : c.code = bs) {a : Addr} {cl : Cell} (eT : T.heap = h) (A : Arr Z h a cl .long) {j : Int32} {x : Int64} (hj : ¬ (j < 0 ∨ cl.slots.size ≤ j.toNatClampNeg)) (hd : decode bs pc = .ok (.lastore, 1)) (hp : pc + 1 = pc')
    (k : ∀ T' h', Stand p l e R s m args below meth c T' (locs ++ [⟨a, j.toNatClampNeg⟩]) cells slots → T'.heap = h' → Wr h h' a j.toNatClampNeg (.long x) → own_End p e below F (T'.setTop (mkF m pc' Ls st))) : own_End p e below F (T.setTop (mkF m pc Ls (.long x :: .int j :: .ref a :: st))) := by
  subst hp
  obtain ⟨T', h', X', e', W', stp⟩ := stJ X hx hZ eT A hj (g := mkF m pc Ls (.long x :: .int j :: .ref a :: st)) rfl rfl (hb hby hd)
  exact own_step stp (k T' h' X' e' W')
theorem own_castore (X : Stand p l e R s m args below meth c T locs cells slots) (hx : p.tables.exec = Jvm.exec) (hZ : Z.Warmed39 s.vm) (hby : c.code = bs) {a : Addr} {cl : Cell} (eT : T.heap = h) (A : Arr Z h a cl .char) {j : Int32} {x : Int32} (hj : ¬ (j < 0 ∨ cl.slots.size ≤ j.toNatClampNeg)) (hd : decode bs pc = .ok (.castore, 1)) (hp : pc + 1 = pc')
    (k : ∀ T' h', Stand p l e R s m args below meth c T' (locs ++ [⟨a, j.toNatClampNeg⟩]) cells slots → T'.heap = h' → Wr h h' a j.toNatClampNeg (.int (nar .char x)) → own_End p e below F (T'.setTop (mkF m pc' Ls st))) : own_End p e below F (T.setTop (mkF m pc Ls (.int x :: .int j :: .ref a :: st))) := by
  subst hp
  obtain ⟨T', h', X', e', W', stp⟩ := stC X hx hZ eT A hj (g := mkF m pc Ls (.int x :: .int j :: .ref a :: st)) rfl rfl (hb hby hd)
  exact own_step stp (k T' h' X' e' W')
theorem own_bastore (X : Stand p l e R s m args below meth c T locs cells slots) (hx : p.tables.exec = Jvm.exec) (hZ : Z.Warmed39 s.vm) (hby : c.code = bs) {a : Addr} {cl : Cell} (eT : T.heap = h) (A : Arr Z h a cl .byte) {j : Int32} {x : Int32} (hj : ¬ (j < 0 ∨ cl.slots.size ≤ j.toNatClampNeg)) (hd : decode bs pc = .ok (.bastore, 1)) (hp : pc + 1 = pc')
    (k : ∀ T' h', Stand p l e R s m args below meth c T' (locs ++ [⟨a, j.toNatClampNeg⟩]) cells slots → T'.heap = h' → Wr h h' a j.toNatClampNeg (.int (nar .byte x)) → own_End p e below F (T'.setTop (mkF m pc' Ls st))) : own_End p e below F (T.setTop (mkF m pc Ls (.int x :: .int j :: .ref a :: st))) := by
  subst hp
  obtain ⟨T', h', X', e', W', stp⟩ := stB X hx hZ eT A hj (g := mkF m pc Ls (.int x :: .int j :: .ref a :: st)) rfl rfl (hb hby hd)
  exact own_step stp (k T' h' X' e' W')
theorem own_stR (X : Stand p l e R s m args below meth c T locs cells slots) (hx : p.tables.exec = Jvm.exec) (hZ : Z.Warmed39 s.vm) (hby : c.code = bs) {a : Addr} {cl : Cell} {ty : FieldType} (eT : T.heap = h) (A : Arr Z h a cl ty) {j : Int32} {v : Value} (hj : ¬ (j < 0 ∨ cl.slots.size ≤ j.toNatClampNeg)) (hty : ty.isReference = true) (S : Sto Z h a v) (hd : decode bs pc = .ok (.aastore, 1)) (hp : pc + 1 = pc')
    (k : ∀ T' h', Stand p l e R s m args below meth c T' (locs ++ [⟨a, j.toNatClampNeg⟩]) cells slots → T'.heap = h' → Wr h h' a j.toNatClampNeg v → own_End p e below F (T'.setTop (mkF m pc' Ls st))) : own_End p e below F (T.setTop (mkF m pc Ls (v :: .int j :: .ref a :: st))) := by
  subst hp
  obtain ⟨T', h', X', e', W', stp⟩ := stR X hx hZ eT A hj hty S (g := mkF m pc Ls (v :: .int j :: .ref a :: st)) rfl rfl (hb hby hd)
  exact own_step stp (k T' h' X' e' W')
theorem own_iaload (X : Stand p l e R s m args below meth c T locs cells slots) (hx : p.tables.exec = Jvm.exec) (hZ : Z.Warmed39 s.vm) (hby : c.code = bs) {a : Addr} {cl : Cell} (eT : T.heap = h) (A : Arr Z h a cl .int) {j : Int32} {v : Value} (hj : ¬ (j < 0 ∨ cl.slots.size ≤ j.toNatClampNeg)) (hv : cl.slots[j.toNatClampNeg]? = some v) (hd : decode bs pc = .ok (.iaload, 1)) (hp : pc + 1 = pc') (k : own_End p e below F (T.setTop (mkF m pc' Ls (v :: st)))) : own_End p e below F (T.setTop (mkF m pc Ls (.int j :: .ref a :: st))) := by
  subst hp
  exact own_step (fun t q => X.iaload hx (j := j) (v := v) (by rw [eT]; exact A.1) (State.isArrayOf_alike hZ.alike A.2.1) A.2.2 hj hv (g := mkF m pc Ls (.int j :: .ref a :: st)) rfl rfl (hb hby hd) _ q) k
theorem own_laload (X : Stand p l e R s m args below meth c T locs cells slots) (hx : p.tables.exec = Jvm.exec) (hZ : Z.Warmed39 s.vm) (hby : c.code = bs) {a : Addr} {cl : Cell} (eT : T.heap = h) (A : Arr Z h a cl .long) {j : Int32} {v : Value} (hj : ¬ (j < 0 ∨ cl.slots.size ≤ j.toNatClampNeg)) (hv : cl.slots[j.toNatClampNeg]? = some v) (hd : decode bs pc = .ok (.laload, 1)) (hp : pc + 1 = pc') (k : own_End p e below F (T.setTop (mkF m pc' Ls (v :: st)))) : own_End p e below F (T.setTop (mkF m pc Ls (.int j :: .ref a :: st))) := by
  subst hp
  exact own_step (fun t q => X.laload hx (j := j) (v := v) (by rw [eT]; exact A.1) (State.isArrayOf_alike hZ.alike A.2.1) A.2.2 hj hv (g := mkF m pc Ls (.int j :: .ref a :: st)) rfl rfl (hb hby hd) _ q) k
theorem own_caload (X : Stand p l e R s m args below meth c T locs cells slots) (hx : p.tables.exec = Jvm.exec) (hZ : Z.Warmed39 s.vm) (hby : c.code = bs) {a : Addr} {cl : Cell} (eT : T.heap = h) (A : Arr Z h a cl .char) {j : Int32} {v : Value} (hj : ¬ (j < 0 ∨ cl.slots.size ≤ j.toNatClampNeg)) (hv : cl.slots[j.toNatClampNeg]? = some v) (hd : decode bs pc = .ok (.caload, 1)) (hp : pc + 1 = pc') (k : own_End p e below F (T.setTop (mkF m pc' Ls (v :: st)))) : own_End p e below F (T.setTop (mkF m pc Ls (.int j :: .ref a :: st))) := by
  subst hp
  exact own_step (fun t q => X.caload hx (j := j) (v := v) (by rw [eT]; exact A.1) (State.isArrayOf_alike hZ.alike A.2.1) A.2.2 hj hv (g := mkF m pc Ls (.int j :: .ref a :: st)) rfl rfl (hb hby hd) _ q) k
theorem own_baload (X : Stand p l e R s m args below meth c T locs cells slots) (hx : p.tables.exec = Jvm.exec) (hZ : Z.Warmed39 s.vm) (hby : c.code = bs) {a : Addr} {cl : Cell} (eT : T.heap = h) (A : Arr Z h a cl .byte) {j : Int32} {v : Value} (hj : ¬ (j < 0 ∨ cl.slots.size ≤ j.toNatClampNeg)) (hv : cl.slots[j.toNatClampNeg]? = some v) (hd : decode bs pc = .ok (.baload, 1)) (hp : pc + 1 = pc') (k : own_End p e below F (T.setTop (mkF m pc' Ls (v :: st)))) : own_End p e below F (T.setTop (mkF m pc Ls (.int j :: .ref a :: st))) := by
  subst hp
  exact own_step (fun t q => X.baloadBytes hx (j := j) (v := v) (by rw [eT]; exact A.1) (State.isArrayOf_alike hZ.alike A.2.1) A.2.2 hj hv (g := mkF m pc Ls (.int j :: .ref a :: st)) rfl rfl (hb hby hd) _ q) k
theorem own_aaload (X : Stand p l e R s m args below meth c T locs cells slots) (hx : p.tables.exec = Jvm.exec) (hZ : Z.Warmed39 s.vm) (hby : c.code = bs) {a : Addr} {cl : Cell} {ty : FieldType} (eT : T.heap = h) (A : Arr Z h a cl ty) (hty : ty.isReference = true) {j : Int32} {v : Value} (hj : ¬ (j < 0 ∨ cl.slots.size ≤ j.toNatClampNeg)) (hv : cl.slots[j.toNatClampNeg]? = some v) (hd : decode bs pc = .ok (.aaload, 1)) (hp : pc + 1 = pc') (k : own_End p e below F (T.setTop (mkF m pc' Ls (v :: st)))) : own_End p e below F (T.setTop (mkF m pc Ls (.int j :: .ref a :: st))) := by
  subst hp
  exact own_step (fun t q => X.aaload hx (j := j) (v := v) (by rw [eT]; exact A.1) (State.isArrayOf_alike hZ.alike A.2.1) hty A.2.2 hj hv (g := mkF m pc Ls (.int j :: .ref a :: st)) rfl rfl (hb hby hd) _ q) k
theorem own_alen (X : Stand p l e R s m args below meth c T locs cells slots) (hx : p.tables.exec = Jvm.exec) (hZ : Z.Warmed39 s.vm) (hby : c.code = bs) {a : Addr} {cl : Cell} {ty : FieldType} {z : Int32} (eT : T.heap = h) (A : Arr Z h a cl ty) (S : cl.slots.size = z.toNatClampNeg) (M : ¬ z < 0) (hd : decode bs pc = .ok (.arraylength, 1)) (hp : pc + 1 = pc') (k : own_End p e below F (T.setTop (mkF m pc' Ls (.int z :: st)))) : own_End p e below F (T.setTop (mkF m pc Ls (.ref a :: st))) := by
  subst hp
  have hl := len_of S M
  exact own_step (fun t q => X.arraylength hx (by rw [eT]; exact A.1) (State.isArrayOf_alike hZ.alike A.2.1) (g := mkF m pc Ls (.ref a :: st)) rfl rfl (hb hby hd) _ (by rw [hl]; exact q)) k
theorem own_init (X : Stand p l e R s m args below meth c T locs cells slots) (hx : p.tables.exec = Jvm.exec) (hZ : Z.Warmed39 s.vm) (hby : c.code = bs) {own : String} {index : Nat} {a : Addr} {W : Nat} (hown : s.vm.findClass own = some m.cls) (w1 : (Cond.methodLink own index Lib.objectInit).before a0 Z = true) (w2 : (Cond.instanceMethod Lib.objectInit).before a0 Z = true) (w3 : (Cond.code Lib.objectInit ⟨#[0xb1]⟩ 1 none).before a0 Z = true) (eT : T.heap = h) (hsz : Ls.size = c.maxLocals) (hd : decode bs pc = .ok (.invokespecial index, 3)) (hp : pc + 3 = pc') (hf : 1 ≤ R.frames) (hW : (st.map fun v => v.category).sum ≤ W) (hl : W + 12 ≤ R.locals)
    (k : ∀ T', Stand p l e R s m args below meth c T' locs cells slots → T'.heap = h → own_End p e below F (T'.setTop (mkF m pc' Ls st))) : own_End p e below F (T.setTop (mkF m pc Ls (.ref a :: st))) := by
  subst hp
  obtain ⟨T', X', e', stp⟩ := initO X hx hZ hown w1 w2 w3 eT (g := mkF m pc Ls (.ref a :: st)) rfl hsz rfl (hb hby hd) hf (W := W) (by show 2 * 0 + _ ≤ _; omega) hl
  exact own_step stp (k T' X' e')
theorem own_cast (X : Stand p l e R s m args below meth c T locs cells slots) (hx : p.tables.exec = Jvm.exec) (hZ : Z.Warmed39 s.vm) (hby : c.code = bs) {own K : String} {index : Nat} {a : Addr} (hown : s.vm.findClass own = some m.cls) (w : (Cond.classLink own index K).before a0 Z = true) (eT : T.heap = h) (I : Ins Z h a K true) (hd : decode bs pc = .ok (.checkcast index, 3)) (hp : pc + 3 = pc')
    (k : ∀ T', Stand p l e R s m args below meth c T' locs cells slots → T'.heap = h → own_End p e below F (T'.setTop (mkF m pc' Ls (.ref a :: st)))) : own_End p e below F (T.setTop (mkF m pc Ls (.ref a :: st))) := by
  subst hp
  obtain ⟨T', X', e', stp⟩ := castY X hx hZ hown w eT I (g := mkF m pc Ls (.ref a :: st)) rfl rfl (hb hby hd)
  exact own_step stp (k T' X' e')
theorem own_inst (X : Stand p l e R s m args below meth c T locs cells slots) (hx : p.tables.exec = Jvm.exec) (hZ : Z.Warmed39 s.vm) (hby : c.code = bs) {own K : String} {index : Nat} {a : Addr} (hown : s.vm.findClass own = some m.cls) (w : (Cond.classLink own index K).before a0 Z = true) (eT : T.heap = h) (I : Ins Z h a K true) (hd : decode bs pc = .ok (.instanceof index, 3)) (hp : pc + 3 = pc')
    (k : ∀ T', Stand p l e R s m args below meth c T' locs cells slots → T'.heap = h → own_End p e below F (T'.setTop (mkF m pc' Ls (.int 1 :: st)))) : own_End p e below F (T.setTop (mkF m pc Ls (.ref a :: st))) := by
  subst hp
  obtain ⟨T', X', e', stp⟩ := instY X hx hZ hown w eT I (g := mkF m pc Ls (.ref a :: st)) rfl rfl (hb hby hd)
  exact own_step stp (k T' X' e')
theorem own_instNull (X : Stand p l e R s m args below meth c T locs cells slots) (hx : p.tables.exec = Jvm.exec) (hby : c.code = bs) {index : Nat} (hd : decode bs pc = .ok (.instanceof index, 3)) (hp : pc + 3 = pc') (k : own_End p e below F (T.setTop (mkF m pc' Ls (.int 0 :: st)))) : own_End p e below F (T.setTop (mkF m pc Ls (.null :: st))) := by
  subst hp
  exact own_step (fun t q => X.instanceofNull hx (g := mkF m pc Ls (.null :: st)) rfl rfl (hb hby hd) _ q) k
end Heap
end OwnKit

theorem wd_0 {a0 : Array Value} {Z : State} (hw : ∀ d ∈ tables_1, d.before a0 Z = true) : (Jvm.Cond.arrayClass Jvm.ClassFile.FieldType.long).before a0 Z = true := hw _ (List.mem_of_getElem? (i := 0) rfl)
theorem wd_1 {a0 : Array Value} {Z : State} (hw : ∀ d ∈ tables_1, d.before a0 Z = true) : (Jvm.Cond.constantLong "com/example/earnest_reactor/earnestreactor/core/TimerQueuePollPinLaw" (7 : Nat) (4611686018427387903 : Int64)).before a0 Z = true := hw _ (List.mem_of_getElem? (i := 1) rfl)
theorem wd_2 {a0 : Array Value} {Z : State} (hw : ∀ d ∈ tables_1, d.before a0 Z = true) : (Jvm.Cond.constant "com/example/earnest_reactor/earnestreactor/core/TimerQueuePollPinLaw" (9 : Nat) (2147483647 : Int32)).before a0 Z = true := hw _ (List.mem_of_getElem? (i := 2) rfl)
theorem wd_3 {a0 : Array Value} {Z : State} (hw : ∀ d ∈ tables_1, d.before a0 Z = true) : (Jvm.Cond.constantLong "com/example/earnest_reactor/earnestreactor/core/TimerQueuePollPinLaw" (10 : Nat) (2 : Int64)).before a0 Z = true := hw _ (List.mem_of_getElem? (i := 3) rfl)
theorem wd_4 {a0 : Array Value} {Z : State} (hw : ∀ d ∈ tables_1, d.before a0 Z = true) : (Jvm.Cond.classLink "com/example/earnest_reactor/earnestreactor/core/TimerQueuePollPinLaw" (12 : Nat) "com/example/earnest_reactor/earnestreactor/core/ScheduledTask").before a0 Z = true := hw _ (List.mem_of_getElem? (i := 4) rfl)
theorem wd_5 {a0 : Array Value} {Z : State} (hw : ∀ d ∈ tables_1, d.before a0 Z = true) : (Jvm.Cond.arrayOver (Jvm.ClassFile.FieldType.object "com/example/earnest_reactor/earnestreactor/core/ScheduledTask")).before a0 Z = true := hw _ (List.mem_of_getElem? (i := 5) rfl)
theorem wd_6 {a0 : Array Value} {Z : State} (hw : ∀ d ∈ tables_1, d.before a0 Z = true) : (Jvm.Cond.instantiable "com/example/earnest_reactor/earnestreactor/core/ScheduledTask" (5 : Nat)).before a0 Z = true := hw _ (List.mem_of_getElem? (i := 6) rfl)
theorem wd_7 {a0 : Array Value} {Z : State} (hw : ∀ d ∈ tables_1, d.before a0 Z = true) : (Jvm.Cond.initialized "com/example/earnest_reactor/earnestreactor/core/ScheduledTask").before a0 Z = true := hw _ (List.mem_of_getElem? (i := 7) rfl)
theorem wd_8 {a0 : Array Value} {Z : State} (hw : ∀ d ∈ tables_1, d.before a0 Z = true) : (Jvm.Cond.methodLink "com/example/earnest_reactor/earnestreactor/core/TimerQueuePollPinLaw" (14 : Nat) ({ cls := "com/example/earnest_reactor/earnestreactor/core/ScheduledTask", name := "<init>", desc := "(Lcom/example/earnest_reactor/earnestreactor/core/EventLoop;JJLjava/lang/Runnable;)V" } : Jvm.MethodName)).before a0 Z = true := hw _ (List.mem_of_getElem? (i := 8) rfl)
theorem wd_9 {a0 : Array Value} {Z : State} (hw : ∀ d ∈ tables_1, d.before a0 Z = true) : (Jvm.Cond.instanceMethod ({ cls := "com/example/earnest_reactor/earnestreactor/core/ScheduledTask", name := "<init>", desc := "(Lcom/example/earnest_reactor/earnestreactor/core/EventLoop;JJLjava/lang/Runnable;)V" } : Jvm.MethodName)).before a0 Z = true := hw _ (List.mem_of_getElem? (i := 9) rfl)
theorem wd_10 {a0 : Array Value} {Z : State} (hw : ∀ d ∈ tables_1, d.before a0 Z = true) : (Jvm.Cond.code ({ cls := "com/example/earnest_reactor/earnestreactor/core/ScheduledTask", name := "<init>", desc := "(Lcom/example/earnest_reactor/earnestreactor/core/EventLoop;JJLjava/lang/Runnable;)V" } : Jvm.MethodName) prog_31_method_1_code (7 : Nat) (Option.none : Option Jvm.ClassFile.FieldType)).before a0 Z = true := hw _ (List.mem_of_getElem? (i := 10) rfl)
theorem wd_11 {a0 : Array Value} {Z : State} (hw : ∀ d ∈ tables_1, d.before a0 Z = true) : (Jvm.Cond.methodLink "com/example/earnest_reactor/earnestreactor/core/ScheduledTask" (1 : Nat) ({ cls := "java/lang/Object", name := "<init>", desc := "()V" } : Jvm.MethodName)).before a0 Z = true := hw _ (List.mem_of_getElem? (i := 11) rfl)
theorem wd_12 {a0 : Array Value} {Z : State} (hw : ∀ d ∈ tables_1, d.before a0 Z = true) : (Jvm.Cond.instanceMethod ({ cls := "java/lang/Object", name := "<init>", desc := "()V" } : Jvm.MethodName)).before a0 Z = true := hw _ (List.mem_of_getElem? (i := 12) rfl)
theorem wd_13 {a0 : Array Value} {Z : State} (hw : ∀ d ∈ tables_1, d.before a0 Z = true) : (Jvm.Cond.code ({ cls := "java/lang/Object", name := "<init>", desc := "()V" } : Jvm.MethodName) object_method_1_code (1 : Nat) (Option.none : Option Jvm.ClassFile.FieldType)).before a0 Z = true := hw _ (List.mem_of_getElem? (i := 13) rfl)
theorem wd_14 {a0 : Array Value} {Z : State} (hw : ∀ d ∈ tables_1, d.before a0 Z = true) : (Jvm.Cond.fieldLink "com/example/earnest_reactor/earnestreactor/core/ScheduledTask" (7 : Nat) "com/example/earnest_reactor/earnestreactor/core/ScheduledTask" "queueIndex" "I").before a0 Z = true := hw _ (List.mem_of_getElem? (i := 14) rfl)
theorem wd_15 {a0 : Array Value} {Z : State} (hw : ∀ d ∈ tables_1, d.before a0 Z = true) : (Jvm.Cond.lays "com/example/earnest_reactor/earnestreactor/core/ScheduledTask" "com/example/earnest_reactor/earnestreactor/core/ScheduledTask" "queueIndex" "I").before a0 Z = true := hw _ (List.mem_of_getElem? (i := 15) rfl)
theorem wd_16 {a0 : Array Value} {Z : State} (hw : ∀ d ∈ tables_1, d.before a0 Z = true) : (Jvm.Cond.fieldLink "com/example/earnest_reactor/earnestreactor/core/ScheduledTask" (13 : Nat) "com/example/earnest_reactor/earnestreactor/core/ScheduledTask" "loop" "Lcom/example/earnest_reactor/earnestreactor/core/EventLoop;").before a0 Z = true := hw _ (List.mem_of_getElem? (i := 16) rfl)
theorem wd_17 {a0 : Array Value} {Z : State} (hw : ∀ d ∈ tables_1, d.before a0 Z = true) : (Jvm.Cond.laysFinal "com/example/earnest_reactor/earnestreactor/core/ScheduledTask" "com/example/earnest_reactor/earnestreactor/core/ScheduledTask" "loop" "Lcom/example/earnest_reactor/earnestreactor/core/EventLoop;").before a0 Z = true := hw _ (List.mem_of_getElem? (i := 17) rfl)
theorem wd_18 {a0 : Array Value} {Z : State} (hw : ∀ d ∈ tables_1, d.before a0 Z = true) : (Jvm.Cond.fieldLink "com/example/earnest_reactor/earnestreactor/core/ScheduledTask" (17 : Nat) "com/example/earnest_reactor/earnestreactor/core/ScheduledTask" "deadline" "J").before a0 Z = true := hw _ (List.mem_of_getElem? (i := 18) rfl)
theorem wd_19 {a0 : Array Value} {Z : State} (hw : ∀ d ∈ tables_1, d.before a0 Z = true) : (Jvm.Cond.laysFinal "com/example/earnest_reactor/earnestreactor/core/ScheduledTask" "com/example/earnest_reactor/earnestreactor/core/ScheduledTask" "deadline" "J").before a0 Z = true := hw _ (List.mem_of_getElem? (i := 19) rfl)
theorem wd_20 {a0 : Array Value} {Z : State} (hw : ∀ d ∈ tables_1, d.before a0 Z = true) : (Jvm.Cond.fieldLink "com/example/earnest_reactor/earnestreactor/core/ScheduledTask" (21 : Nat) "com/example/earnest_reactor/earnestreactor/core/ScheduledTask" "sequence" "J").before a0 Z = true := hw _ (List.mem_of_getElem? (i := 20) rfl)
theorem wd_21 {a0 : Array Value} {Z : State} (hw : ∀ d ∈ tables_1, d.before a0 Z = true) : (Jvm.Cond.laysFinal "com/example/earnest_reactor/earnestreactor/core/ScheduledTask" "com/example/earnest_reactor/earnestreactor/core/ScheduledTask" "sequence" "J").before a0 Z = true := hw _ (List.mem_of_getElem? (i := 21) rfl)
theorem wd_22 {a0 : Array Value} {Z : State} (hw : ∀ d ∈ tables_1, d.before a0 Z = true) : (Jvm.Cond.fieldLink "com/example/earnest_reactor/earnestreactor/core/ScheduledTask" (24 : Nat) "com/example/earnest_reactor/earnestreactor/core/ScheduledTask" "task" "Ljava/lang/Runnable;").before a0 Z = true := hw _ (List.mem_of_getElem? (i := 22) rfl)
theorem wd_23 {a0 : Array Value} {Z : State} (hw : ∀ d ∈ tables_1, d.before a0 Z = true) : (Jvm.Cond.laysFinal "com/example/earnest_reactor/earnestreactor/core/ScheduledTask" "com/example/earnest_reactor/earnestreactor/core/ScheduledTask" "task" "Ljava/lang/Runnable;").before a0 Z = true := hw _ (List.mem_of_getElem? (i := 23) rfl)
theorem wd_25 {a0 : Array Value} {Z : State} (hw : ∀ d ∈ tables_1, d.before a0 Z = true) : (Jvm.Cond.classLink "com/example/earnest_reactor/earnestreactor/core/TimerQueuePollPinLaw" (17 : Nat) "com/example/earnest_reactor/earnestreactor/core/TimerQueue").before a0 Z = true := hw _ (List.mem_of_getElem? (i := 25) rfl)
theorem wd_26 {a0 : Array Value} {Z : State} (hw : ∀ d ∈ tables_1, d.before a0 Z = true) : (Jvm.Cond.instantiable "com/example/earnest_reactor/earnestreactor/core/TimerQueue" (2 : Nat)).before a0 Z = true := hw _ (List.mem_of_getElem? (i := 26) rfl)
theorem wd_27 {a0 : Array Value} {Z : State} (hw : ∀ d ∈ tables_1, d.before a0 Z = true) : (Jvm.Cond.initialized "com/example/earnest_reactor/earnestreactor/core/TimerQueue").before a0 Z = true := hw _ (List.mem_of_getElem? (i := 27) rfl)
theorem wd_28 {a0 : Array Value} {Z : State} (hw : ∀ d ∈ tables_1, d.before a0 Z = true) : (Jvm.Cond.methodLink "com/example/earnest_reactor/earnestreactor/core/TimerQueuePollPinLaw" (19 : Nat) ({ cls := "com/example/earnest_reactor/earnestreactor/core/TimerQueue", name := "<init>", desc := "()V" } : Jvm.MethodName)).before a0 Z = true := hw _ (List.mem_of_getElem? (i := 28) rfl)
theorem wd_29 {a0 : Array Value} {Z : State} (hw : ∀ d ∈ tables_1, d.before a0 Z = true) : (Jvm.Cond.instanceMethod ({ cls := "com/example/earnest_reactor/earnestreactor/core/TimerQueue", name := "<init>", desc := "()V" } : Jvm.MethodName)).before a0 Z = true := hw _ (List.mem_of_getElem? (i := 29) rfl)
theorem wd_30 {a0 : Array Value} {Z : State} (hw : ∀ d ∈ tables_1, d.before a0 Z = true) : (Jvm.Cond.code ({ cls := "com/example/earnest_reactor/earnestreactor/core/TimerQueue", name := "<init>", desc := "()V" } : Jvm.MethodName) prog_35_method_1_code (1 : Nat) (Option.none : Option Jvm.ClassFile.FieldType)).before a0 Z = true := hw _ (List.mem_of_getElem? (i := 30) rfl)
theorem wd_31 {a0 : Array Value} {Z : State} (hw : ∀ d ∈ tables_1, d.before a0 Z = true) : (Jvm.Cond.methodLink "com/example/earnest_reactor/earnestreactor/core/TimerQueue" (1 : Nat) ({ cls := "java/lang/Object", name := "<init>", desc := "()V" } : Jvm.MethodName)).before a0 Z = true := hw _ (List.mem_of_getElem? (i := 31) rfl)
theorem wd_32 {a0 : Array Value} {Z : State} (hw : ∀ d ∈ tables_1, d.before a0 Z = true) : (Jvm.Cond.classLink "com/example/earnest_reactor/earnestreactor/core/TimerQueue" (9 : Nat) "com/example/earnest_reactor/earnestreactor/core/ScheduledTask").before a0 Z = true := hw _ (List.mem_of_getElem? (i := 32) rfl)
theorem wd_33 {a0 : Array Value} {Z : State} (hw : ∀ d ∈ tables_1, d.before a0 Z = true) : (Jvm.Cond.fieldLink "com/example/earnest_reactor/earnestreactor/core/TimerQueue" (11 : Nat) "com/example/earnest_reactor/earnestreactor/core/TimerQueue" "heap" "[Lcom/example/earnest_reactor/earnestreactor/core/ScheduledTask;").before a0 Z = true := hw _ (List.mem_of_getElem? (i := 33) rfl)
theorem wd_34 {a0 : Array Value} {Z : State} (hw : ∀ d ∈ tables_1, d.before a0 Z = true) : (Jvm.Cond.lays "com/example/earnest_reactor/earnestreactor/core/TimerQueue" "com/example/earnest_reactor/earnestreactor/core/TimerQueue" "heap" "[Lcom/example/earnest_reactor/earnestreactor/core/ScheduledTask;").before a0 Z = true := hw _ (List.mem_of_getElem? (i := 34) rfl)
theorem wd_35 {a0 : Array Value} {Z : State} (hw : ∀ d ∈ tables_1, d.before a0 Z = true) : (Jvm.Cond.methodLink "com/example/earnest_reactor/earnestreactor/core/TimerQueuePollPinLaw" (24 : Nat) ({ cls := "com/example/earnest_reactor/earnestreactor/core/TimerQueue", name := "poll", desc := "()Lcom/example/earnest_reactor/earnestreactor/core/ScheduledTask;" } : Jvm.MethodName)).before a0 Z = true := hw _ (List.mem_of_getElem? (i := 35) rfl)
theorem wd_36 {a0 : Array Value} {Z : State} (hw : ∀ d ∈ tables_1, d.before a0 Z = true) : (Jvm.Cond.declares ({ cls := "com/example/earnest_reactor/earnestreactor/core/TimerQueue", name := "poll", desc := "()Lcom/example/earnest_reactor/earnestreactor/core/ScheduledTask;" } : Jvm.MethodName)).before a0 Z = true := hw _ (List.mem_of_getElem? (i := 36) rfl)
theorem wd_37 {a0 : Array Value} {Z : State} (hw : ∀ d ∈ tables_1, d.before a0 Z = true) : (Jvm.Cond.instanceMethod ({ cls := "com/example/earnest_reactor/earnestreactor/core/TimerQueue", name := "poll", desc := "()Lcom/example/earnest_reactor/earnestreactor/core/ScheduledTask;" } : Jvm.MethodName)).before a0 Z = true := hw _ (List.mem_of_getElem? (i := 37) rfl)
theorem wd_38 {a0 : Array Value} {Z : State} (hw : ∀ d ∈ tables_1, d.before a0 Z = true) : (Jvm.Cond.selects "com/example/earnest_reactor/earnestreactor/core/TimerQueue" ({ cls := "com/example/earnest_reactor/earnestreactor/core/TimerQueue", name := "poll", desc := "()Lcom/example/earnest_reactor/earnestreactor/core/ScheduledTask;" } : Jvm.MethodName) ({ cls := "com/example/earnest_reactor/earnestreactor/core/TimerQueue", name := "poll", desc := "()Lcom/example/earnest_reactor/earnestreactor/core/ScheduledTask;" } : Jvm.MethodName)).before a0 Z = true := hw _ (List.mem_of_getElem? (i := 38) rfl)
theorem wd_39 {a0 : Array Value} {Z : State} (hw : ∀ d ∈ tables_1, d.before a0 Z = true) : (Jvm.Cond.code ({ cls := "com/example/earnest_reactor/earnestreactor/core/TimerQueue", name := "poll", desc := "()Lcom/example/earnest_reactor/earnestreactor/core/ScheduledTask;" } : Jvm.MethodName) prog_35_method_5_code (2 : Nat) (Option.some (Jvm.ClassFile.FieldType.object "com/example/earnest_reactor/earnestreactor/core/ScheduledTask"))).before a0 Z = true := hw _ (List.mem_of_getElem? (i := 39) rfl)
theorem wd_40 {a0 : Array Value} {Z : State} (hw : ∀ d ∈ tables_1, d.before a0 Z = true) : (Jvm.Cond.methodLink "com/example/earnest_reactor/earnestreactor/core/TimerQueuePollPinLaw" (28 : Nat) ({ cls := "com/example/earnest_reactor/earnestreactor/core/TimerQueuePollPinLaw", name := "expect", desc := "([J[JII[Lcom/example/earnest_reactor/earnestreactor/core/ScheduledTask;)Lcom/example/earnest_reactor/earnestreactor/core/ScheduledTask;" } : Jvm.MethodName)).before a0 Z = true := hw _ (List.mem_of_getElem? (i := 40) rfl)
theorem wd_41 {a0 : Array Value} {Z : State} (hw : ∀ d ∈ tables_1, d.before a0 Z = true) : (Jvm.Cond.static ({ cls := "com/example/earnest_reactor/earnestreactor/core/TimerQueuePollPinLaw", name := "expect", desc := "([J[JII[Lcom/example/earnest_reactor/earnestreactor/core/ScheduledTask;)Lcom/example/earnest_reactor/earnestreactor/core/ScheduledTask;" } : Jvm.MethodName)).before a0 Z = true := hw _ (List.mem_of_getElem? (i := 41) rfl)
theorem wd_42 {a0 : Array Value} {Z : State} (hw : ∀ d ∈ tables_1, d.before a0 Z = true) : (Jvm.Cond.initialized "com/example/earnest_reactor/earnestreactor/core/TimerQueuePollPinLaw").before a0 Z = true := hw _ (List.mem_of_getElem? (i := 42) rfl)
theorem wd_43 {a0 : Array Value} {Z : State} (hw : ∀ d ∈ tables_1, d.before a0 Z = true) : (Jvm.Cond.code ({ cls := "com/example/earnest_reactor/earnestreactor/core/TimerQueuePollPinLaw", name := "expect", desc := "([J[JII[Lcom/example/earnest_reactor/earnestreactor/core/ScheduledTask;)Lcom/example/earnest_reactor/earnestreactor/core/ScheduledTask;" } : Jvm.MethodName) method_5_code (5 : Nat) (Option.some (Jvm.ClassFile.FieldType.object "com/example/earnest_reactor/earnestreactor/core/ScheduledTask"))).before a0 Z = true := hw _ (List.mem_of_getElem? (i := 43) rfl)
theorem wd_44 {a0 : Array Value} {Z : State} (hw : ∀ d ∈ tables_1, d.before a0 Z = true) : (Jvm.Cond.methodLink "com/example/earnest_reactor/earnestreactor/core/TimerQueuePollPinLaw" (20 : Nat) ({ cls := "com/example/earnest_reactor/earnestreactor/core/TimerQueue", name := "add", desc := "(Lcom/example/earnest_reactor/earnestreactor/core/ScheduledTask;)V" } : Jvm.MethodName)).before a0 Z = true := hw _ (List.mem_of_getElem? (i := 44) rfl)
theorem wd_45 {a0 : Array Value} {Z : State} (hw : ∀ d ∈ tables_1, d.before a0 Z = true) : (Jvm.Cond.declares ({ cls := "com/example/earnest_reactor/earnestreactor/core/TimerQueue", name := "add", desc := "(Lcom/example/earnest_reactor/earnestreactor/core/ScheduledTask;)V" } : Jvm.MethodName)).before a0 Z = true := hw _ (List.mem_of_getElem? (i := 45) rfl)
theorem wd_46 {a0 : Array Value} {Z : State} (hw : ∀ d ∈ tables_1, d.before a0 Z = true) : (Jvm.Cond.instanceMethod ({ cls := "com/example/earnest_reactor/earnestreactor/core/TimerQueue", name := "add", desc := "(Lcom/example/earnest_reactor/earnestreactor/core/ScheduledTask;)V" } : Jvm.MethodName)).before a0 Z = true := hw _ (List.mem_of_getElem? (i := 46) rfl)
theorem wd_47 {a0 : Array Value} {Z : State} (hw : ∀ d ∈ tables_1, d.before a0 Z = true) : (Jvm.Cond.selects "com/example/earnest_reactor/earnestreactor/core/TimerQueue" ({ cls := "com/example/earnest_reactor/earnestreactor/core/TimerQueue", name := "add", desc := "(Lcom/example/earnest_reactor/earnestreactor/core/ScheduledTask;)V" } : Jvm.MethodName) ({ cls := "com/example/earnest_reactor/earnestreactor/core/TimerQueue", name := "add", desc := "(Lcom/example/earnest_reactor/earnestreactor/core/ScheduledTask;)V" } : Jvm.MethodName)).before a0 Z = true := hw _ (List.mem_of_getElem? (i := 47) rfl)
theorem wd_48 {a0 : Array Value} {Z : State} (hw : ∀ d ∈ tables_1, d.before a0 Z = true) : (Jvm.Cond.code ({ cls := "com/example/earnest_reactor/earnestreactor/core/TimerQueue", name := "add", desc := "(Lcom/example/earnest_reactor/earnestreactor/core/ScheduledTask;)V" } : Jvm.MethodName) prog_35_method_4_code (2 : Nat) (Option.none : Option Jvm.ClassFile.FieldType)).before a0 Z = true := hw _ (List.mem_of_getElem? (i := 48) rfl)
theorem wd_49 {a0 : Array Value} {Z : State} (hw : ∀ d ∈ tables_1, d.before a0 Z = true) : (Jvm.Cond.fieldLink "com/example/earnest_reactor/earnestreactor/core/TimerQueue" (15 : Nat) "com/example/earnest_reactor/earnestreactor/core/TimerQueue" "size" "I").before a0 Z = true := hw _ (List.mem_of_getElem? (i := 49) rfl)
theorem wd_50 {a0 : Array Value} {Z : State} (hw : ∀ d ∈ tables_1, d.before a0 Z = true) : (Jvm.Cond.lays "com/example/earnest_reactor/earnestreactor/core/TimerQueue" "com/example/earnest_reactor/earnestreactor/core/TimerQueue" "size" "I").before a0 Z = true := hw _ (List.mem_of_getElem? (i := 50) rfl)
theorem wd_51 {a0 : Array Value} {Z : State} (hw : ∀ d ∈ tables_1, d.before a0 Z = true) : (Jvm.Cond.methodLink "com/example/earnest_reactor/earnestreactor/core/TimerQueue" (26 : Nat) ({ cls := "com/example/earnest_reactor/earnestreactor/core/TimerQueue", name := "siftUp", desc := "(ILcom/example/earnest_reactor/earnestreactor/core/ScheduledTask;)V" } : Jvm.MethodName)).before a0 Z = true := hw _ (List.mem_of_getElem? (i := 51) rfl)
theorem wd_52 {a0 : Array Value} {Z : State} (hw : ∀ d ∈ tables_1, d.before a0 Z = true) : (Jvm.Cond.instanceMethod ({ cls := "com/example/earnest_reactor/earnestreactor/core/TimerQueue", name := "siftUp", desc := "(ILcom/example/earnest_reactor/earnestreactor/core/ScheduledTask;)V" } : Jvm.MethodName)).before a0 Z = true := hw _ (List.mem_of_getElem? (i := 52) rfl)
theorem wd_53 {a0 : Array Value} {Z : State} (hw : ∀ d ∈ tables_1, d.before a0 Z = true) : (Jvm.Cond.privateMethod ({ cls := "com/example/earnest_reactor/earnestreactor/core/TimerQueue", name := "siftUp", desc := "(ILcom/example/earnest_reactor/earnestreactor/core/ScheduledTask;)V" } : Jvm.MethodName)).before a0 Z = true := hw _ (List.mem_of_getElem? (i := 53) rfl)
theorem wd_54 {a0 : Array Value} {Z : State} (hw : ∀ d ∈ tables_1, d.before a0 Z = true) : (Jvm.Cond.code ({ cls := "com/example/earnest_reactor/earnestreactor/core/TimerQueue", name := "siftUp", desc := "(ILcom/example/earnest_reactor/earnestreactor/core/ScheduledTask;)V" } : Jvm.MethodName) prog_35_method_8_code (5 : Nat) (Option.none : Option Jvm.ClassFile.FieldType)).before a0 Z = true := hw _ (List.mem_of_getElem? (i := 54) rfl)
theorem wd_55 {a0 : Array Value} {Z : State} (hw : ∀ d ∈ tables_1, d.before a0 Z = true) : (Jvm.Cond.methodLink "com/example/earnest_reactor/earnestreactor/core/TimerQueue" (47 : Nat) ({ cls := "com/example/earnest_reactor/earnestreactor/core/TimerQueue", name := "place", desc := "(ILcom/example/earnest_reactor/earnestreactor/core/ScheduledTask;)V" } : Jvm.MethodName)).before a0 Z = true := hw _ (List.mem_of_getElem? (i := 55) rfl)
theorem wd_56 {a0 : Array Value} {Z : State} (hw : ∀ d ∈ tables_1, d.before a0 Z = true) : (Jvm.Cond.instanceMethod ({ cls := "com/example/earnest_reactor/earnestreactor/core/TimerQueue", name := "place", desc := "(ILcom/example/earnest_reactor/earnestreactor/core/ScheduledTask;)V" } : Jvm.MethodName)).before a0 Z = true := hw _ (List.mem_of_getElem? (i := 56) rfl)
theorem wd_57 {a0 : Array Value} {Z : State} (hw : ∀ d ∈ tables_1, d.before a0 Z = true) : (Jvm.Cond.privateMethod ({ cls := "com/example/earnest_reactor/earnestreactor/core/TimerQueue", name := "place", desc := "(ILcom/example/earnest_reactor/earnestreactor/core/ScheduledTask;)V" } : Jvm.MethodName)).before a0 Z = true := hw _ (List.mem_of_getElem? (i := 57) rfl)
theorem wd_58 {a0 : Array Value} {Z : State} (hw : ∀ d ∈ tables_1, d.before a0 Z = true) : (Jvm.Cond.code ({ cls := "com/example/earnest_reactor/earnestreactor/core/TimerQueue", name := "place", desc := "(ILcom/example/earnest_reactor/earnestreactor/core/ScheduledTask;)V" } : Jvm.MethodName) prog_35_method_10_code (3 : Nat) (Option.none : Option Jvm.ClassFile.FieldType)).before a0 Z = true := hw _ (List.mem_of_getElem? (i := 58) rfl)
theorem wd_59 {a0 : Array Value} {Z : State} (hw : ∀ d ∈ tables_1, d.before a0 Z = true) : (Jvm.Cond.methodLink "com/example/earnest_reactor/earnestreactor/core/TimerQueue" (38 : Nat) ({ cls := "com/example/earnest_reactor/earnestreactor/core/ScheduledTask", name := "queueIndex", desc := "(I)V" } : Jvm.MethodName)).before a0 Z = true := hw _ (List.mem_of_getElem? (i := 59) rfl)
theorem wd_60 {a0 : Array Value} {Z : State} (hw : ∀ d ∈ tables_1, d.before a0 Z = true) : (Jvm.Cond.declares ({ cls := "com/example/earnest_reactor/earnestreactor/core/ScheduledTask", name := "queueIndex", desc := "(I)V" } : Jvm.MethodName)).before a0 Z = true := hw _ (List.mem_of_getElem? (i := 60) rfl)
theorem wd_61 {a0 : Array Value} {Z : State} (hw : ∀ d ∈ tables_1, d.before a0 Z = true) : (Jvm.Cond.instanceMethod ({ cls := "com/example/earnest_reactor/earnestreactor/core/ScheduledTask", name := "queueIndex", desc := "(I)V" } : Jvm.MethodName)).before a0 Z = true := hw _ (List.mem_of_getElem? (i := 61) rfl)
theorem wd_62 {a0 : Array Value} {Z : State} (hw : ∀ d ∈ tables_1, d.before a0 Z = true) : (Jvm.Cond.selects "com/example/earnest_reactor/earnestreactor/core/ScheduledTask" ({ cls := "com/example/earnest_reactor/earnestreactor/core/ScheduledTask", name := "queueIndex", desc := "(I)V" } : Jvm.MethodName) ({ cls := "com/example/earnest_reactor/earnestreactor/core/ScheduledTask", name := "queueIndex", desc := "(I)V" } : Jvm.MethodName)).before a0 Z = true := hw _ (List.mem_of_getElem? (i := 62) rfl)
theorem wd_63 {a0 : Array Value} {Z : State} (hw : ∀ d ∈ tables_1, d.before a0 Z = true) : (Jvm.Cond.code ({ cls := "com/example/earnest_reactor/earnestreactor/core/ScheduledTask", name := "queueIndex", desc := "(I)V" } : Jvm.MethodName) prog_31_method_7_code (2 : Nat) (Option.none : Option Jvm.ClassFile.FieldType)).before a0 Z = true := hw _ (List.mem_of_getElem? (i := 63) rfl)
theorem wd_64 {a0 : Array Value} {Z : State} (hw : ∀ d ∈ tables_1, d.before a0 Z = true) : (Jvm.Cond.methodLink "com/example/earnest_reactor/earnestreactor/core/TimerQueue" (30 : Nat) ({ cls := "com/example/earnest_reactor/earnestreactor/core/TimerQueue", name := "removeAt", desc := "(I)V" } : Jvm.MethodName)).before a0 Z = true := hw _ (List.mem_of_getElem? (i := 64) rfl)
theorem wd_65 {a0 : Array Value} {Z : State} (hw : ∀ d ∈ tables_1, d.before a0 Z = true) : (Jvm.Cond.instanceMethod ({ cls := "com/example/earnest_reactor/earnestreactor/core/TimerQueue", name := "removeAt", desc := "(I)V" } : Jvm.MethodName)).before a0 Z = true := hw _ (List.mem_of_getElem? (i := 65) rfl)
theorem wd_66 {a0 : Array Value} {Z : State} (hw : ∀ d ∈ tables_1, d.before a0 Z = true) : (Jvm.Cond.privateMethod ({ cls := "com/example/earnest_reactor/earnestreactor/core/TimerQueue", name := "removeAt", desc := "(I)V" } : Jvm.MethodName)).before a0 Z = true := hw _ (List.mem_of_getElem? (i := 66) rfl)
theorem wd_67 {a0 : Array Value} {Z : State} (hw : ∀ d ∈ tables_1, d.before a0 Z = true) : (Jvm.Cond.code ({ cls := "com/example/earnest_reactor/earnestreactor/core/TimerQueue", name := "removeAt", desc := "(I)V" } : Jvm.MethodName) prog_35_method_7_code (4 : Nat) (Option.none : Option Jvm.ClassFile.FieldType)).before a0 Z = true := hw _ (List.mem_of_getElem? (i := 67) rfl)
theorem wd_68 {a0 : Array Value} {Z : State} (hw : ∀ d ∈ tables_1, d.before a0 Z = true) : (Jvm.Cond.methodLink "com/example/earnest_reactor/earnestreactor/core/TimerQueuePollPinLaw" (42 : Nat) ({ cls := "com/example/earnest_reactor/earnestreactor/core/TimerQueuePollPinLaw", name := "rank", desc := "([J[JII)I" } : Jvm.MethodName)).before a0 Z = true := hw _ (List.mem_of_getElem? (i := 68) rfl)
theorem wd_69 {a0 : Array Value} {Z : State} (hw : ∀ d ∈ tables_1, d.before a0 Z = true) : (Jvm.Cond.static ({ cls := "com/example/earnest_reactor/earnestreactor/core/TimerQueuePollPinLaw", name := "rank", desc := "([J[JII)I" } : Jvm.MethodName)).before a0 Z = true := hw _ (List.mem_of_getElem? (i := 69) rfl)
theorem wd_70 {a0 : Array Value} {Z : State} (hw : ∀ d ∈ tables_1, d.before a0 Z = true) : (Jvm.Cond.code ({ cls := "com/example/earnest_reactor/earnestreactor/core/TimerQueuePollPinLaw", name := "rank", desc := "([J[JII)I" } : Jvm.MethodName) method_4_code (5 : Nat) (Option.some Jvm.ClassFile.FieldType.int)).before a0 Z = true := hw _ (List.mem_of_getElem? (i := 70) rfl)
theorem wd_71 {a0 : Array Value} {Z : State} (hw : ∀ d ∈ tables_1, d.before a0 Z = true) : (Jvm.Cond.methodLink "com/example/earnest_reactor/earnestreactor/core/TimerQueuePollPinLaw" (34 : Nat) ({ cls := "com/example/earnest_reactor/earnestreactor/core/ScheduledTask", name := "queueIndex", desc := "()I" } : Jvm.MethodName)).before a0 Z = true := hw _ (List.mem_of_getElem? (i := 71) rfl)
theorem wd_72 {a0 : Array Value} {Z : State} (hw : ∀ d ∈ tables_1, d.before a0 Z = true) : (Jvm.Cond.declares ({ cls := "com/example/earnest_reactor/earnestreactor/core/ScheduledTask", name := "queueIndex", desc := "()I" } : Jvm.MethodName)).before a0 Z = true := hw _ (List.mem_of_getElem? (i := 72) rfl)
theorem wd_73 {a0 : Array Value} {Z : State} (hw : ∀ d ∈ tables_1, d.before a0 Z = true) : (Jvm.Cond.instanceMethod ({ cls := "com/example/earnest_reactor/earnestreactor/core/ScheduledTask", name := "queueIndex", desc := "()I" } : Jvm.MethodName)).before a0 Z = true := hw _ (List.mem_of_getElem? (i := 73) rfl)
theorem wd_74 {a0 : Array Value} {Z : State} (hw : ∀ d ∈ tables_1, d.before a0 Z = true) : (Jvm.Cond.selects "com/example/earnest_reactor/earnestreactor/core/ScheduledTask" ({ cls := "com/example/earnest_reactor/earnestreactor/core/ScheduledTask", name := "queueIndex", desc := "()I" } : Jvm.MethodName) ({ cls := "com/example/earnest_reactor/earnestreactor/core/ScheduledTask", name := "queueIndex", desc := "()I" } : Jvm.MethodName)).before a0 Z = true := hw _ (List.mem_of_getElem? (i := 74) rfl)
theorem wd_75 {a0 : Array Value} {Z : State} (hw : ∀ d ∈ tables_1, d.before a0 Z = true) : (Jvm.Cond.code ({ cls := "com/example/earnest_reactor/earnestreactor/core/ScheduledTask", name := "queueIndex", desc := "()I" } : Jvm.MethodName) prog_31_method_6_code (1 : Nat) (Option.some Jvm.ClassFile.FieldType.int)).before a0 Z = true := hw _ (List.mem_of_getElem? (i := 75) rfl)
theorem wd_76 {a0 : Array Value} {Z : State} (hw : ∀ d ∈ tables_1, d.before a0 Z = true) : (Jvm.Cond.methodLink "com/example/earnest_reactor/earnestreactor/core/TimerQueue" (43 : Nat) ({ cls := "com/example/earnest_reactor/earnestreactor/core/ScheduledTask", name := "runsBefore", desc := "(Lcom/example/earnest_reactor/earnestreactor/core/ScheduledTask;)Z" } : Jvm.MethodName)).before a0 Z = true := hw _ (List.mem_of_getElem? (i := 76) rfl)
theorem wd_77 {a0 : Array Value} {Z : State} (hw : ∀ d ∈ tables_1, d.before a0 Z = true) : (Jvm.Cond.declares ({ cls := "com/example/earnest_reactor/earnestreactor/core/ScheduledTask", name := "runsBefore", desc := "(Lcom/example/earnest_reactor/earnestreactor/core/ScheduledTask;)Z" } : Jvm.MethodName)).before a0 Z = true := hw _ (List.mem_of_getElem? (i := 77) rfl)
theorem wd_78 {a0 : Array Value} {Z : State} (hw : ∀ d ∈ tables_1, d.before a0 Z = true) : (Jvm.Cond.instanceMethod ({ cls := "com/example/earnest_reactor/earnestreactor/core/ScheduledTask", name := "runsBefore", desc := "(Lcom/example/earnest_reactor/earnestreactor/core/ScheduledTask;)Z" } : Jvm.MethodName)).before a0 Z = true := hw _ (List.mem_of_getElem? (i := 78) rfl)
theorem wd_79 {a0 : Array Value} {Z : State} (hw : ∀ d ∈ tables_1, d.before a0 Z = true) : (Jvm.Cond.selects "com/example/earnest_reactor/earnestreactor/core/ScheduledTask" ({ cls := "com/example/earnest_reactor/earnestreactor/core/ScheduledTask", name := "runsBefore", desc := "(Lcom/example/earnest_reactor/earnestreactor/core/ScheduledTask;)Z" } : Jvm.MethodName) ({ cls := "com/example/earnest_reactor/earnestreactor/core/ScheduledTask", name := "runsBefore", desc := "(Lcom/example/earnest_reactor/earnestreactor/core/ScheduledTask;)Z" } : Jvm.MethodName)).before a0 Z = true := hw _ (List.mem_of_getElem? (i := 79) rfl)
theorem wd_80 {a0 : Array Value} {Z : State} (hw : ∀ d ∈ tables_1, d.before a0 Z = true) : (Jvm.Cond.code ({ cls := "com/example/earnest_reactor/earnestreactor/core/ScheduledTask", name := "runsBefore", desc := "(Lcom/example/earnest_reactor/earnestreactor/core/ScheduledTask;)Z" } : Jvm.MethodName) prog_31_method_5_code (4 : Nat) (Option.some Jvm.ClassFile.FieldType.boolean)).before a0 Z = true := hw _ (List.mem_of_getElem? (i := 80) rfl)
theorem wd_81 {a0 : Array Value} {Z : State} (hw : ∀ d ∈ tables_1, d.before a0 Z = true) : (Jvm.Cond.methodLink "com/example/earnest_reactor/earnestreactor/core/TimerQueue" (40 : Nat) ({ cls := "com/example/earnest_reactor/earnestreactor/core/TimerQueue", name := "siftDown", desc := "(ILcom/example/earnest_reactor/earnestreactor/core/ScheduledTask;)V" } : Jvm.MethodName)).before a0 Z = true := hw _ (List.mem_of_getElem? (i := 81) rfl)
theorem wd_82 {a0 : Array Value} {Z : State} (hw : ∀ d ∈ tables_1, d.before a0 Z = true) : (Jvm.Cond.instanceMethod ({ cls := "com/example/earnest_reactor/earnestreactor/core/TimerQueue", name := "siftDown", desc := "(ILcom/example/earnest_reactor/earnestreactor/core/ScheduledTask;)V" } : Jvm.MethodName)).before a0 Z = true := hw _ (List.mem_of_getElem? (i := 82) rfl)
theorem wd_83 {a0 : Array Value} {Z : State} (hw : ∀ d ∈ tables_1, d.before a0 Z = true) : (Jvm.Cond.privateMethod ({ cls := "com/example/earnest_reactor/earnestreactor/core/TimerQueue", name := "siftDown", desc := "(ILcom/example/earnest_reactor/earnestreactor/core/ScheduledTask;)V" } : Jvm.MethodName)).before a0 Z = true := hw _ (List.mem_of_getElem? (i := 83) rfl)
theorem wd_84 {a0 : Array Value} {Z : State} (hw : ∀ d ∈ tables_1, d.before a0 Z = true) : (Jvm.Cond.code ({ cls := "com/example/earnest_reactor/earnestreactor/core/TimerQueue", name := "siftDown", desc := "(ILcom/example/earnest_reactor/earnestreactor/core/ScheduledTask;)V" } : Jvm.MethodName) prog_35_method_9_code (6 : Nat) (Option.none : Option Jvm.ClassFile.FieldType)).before a0 Z = true := hw _ (List.mem_of_getElem? (i := 84) rfl)
theorem wd_85 {a0 : Array Value} {Z : State} (hw : ∀ d ∈ tables_1, d.before a0 Z = true) : (Jvm.Cond.methodLink "com/example/earnest_reactor/earnestreactor/core/TimerQueuePollPinLaw" (38 : Nat) ({ cls := "com/example/earnest_reactor/earnestreactor/core/TimerQueuePollPinLaw", name := "before", desc := "([J[JII)Z" } : Jvm.MethodName)).before a0 Z = true := hw _ (List.mem_of_getElem? (i := 85) rfl)
theorem wd_86 {a0 : Array Value} {Z : State} (hw : ∀ d ∈ tables_1, d.before a0 Z = true) : (Jvm.Cond.static ({ cls := "com/example/earnest_reactor/earnestreactor/core/TimerQueuePollPinLaw", name := "before", desc := "([J[JII)Z" } : Jvm.MethodName)).before a0 Z = true := hw _ (List.mem_of_getElem? (i := 86) rfl)
theorem wd_87 {a0 : Array Value} {Z : State} (hw : ∀ d ∈ tables_1, d.before a0 Z = true) : (Jvm.Cond.code ({ cls := "com/example/earnest_reactor/earnestreactor/core/TimerQueuePollPinLaw", name := "before", desc := "([J[JII)Z" } : Jvm.MethodName) method_3_code (4 : Nat) (Option.some Jvm.ClassFile.FieldType.boolean)).before a0 Z = true := hw _ (List.mem_of_getElem? (i := 87) rfl)
theorem d1_0 : decode prog_31_method_1_code 0 = .ok (.aload_n 0, 1) := by decide +kernel
theorem d1_1 : decode prog_31_method_1_code 1 = .ok (.invokespecial 1, 3) := by decide +kernel
theorem d1_4 : decode prog_31_method_1_code 4 = .ok (.aload_n 0, 1) := by decide +kernel
theorem d1_5 : decode prog_31_method_1_code 5 = .ok (.iconst (-1), 1) := by decide +kernel
theorem d1_6 : decode prog_31_method_1_code 6 = .ok (.putfield 7, 3) := by decide +kernel
theorem d1_9 : decode prog_31_method_1_code 9 = .ok (.aload_n 0, 1) := by decide +kernel
theorem d1_10 : decode prog_31_method_1_code 10 = .ok (.aload_n 1, 1) := by decide +kernel
theorem d1_11 : decode prog_31_method_1_code 11 = .ok (.putfield 13, 3) := by decide +kernel
theorem d1_14 : decode prog_31_method_1_code 14 = .ok (.aload_n 0, 1) := by decide +kernel
theorem d1_15 : decode prog_31_method_1_code 15 = .ok (.lload_n 2, 1) := by decide +kernel
theorem d1_16 : decode prog_31_method_1_code 16 = .ok (.putfield 17, 3) := by decide +kernel
theorem d1_19 : decode prog_31_method_1_code 19 = .ok (.aload_n 0, 1) := by decide +kernel
theorem d1_20 : decode prog_31_method_1_code 20 = .ok (.lload 4, 2) := by decide +kernel
theorem d1_22 : decode prog_31_method_1_code 22 = .ok (.putfield 21, 3) := by decide +kernel
theorem d1_25 : decode prog_31_method_1_code 25 = .ok (.aload_n 0, 1) := by decide +kernel
theorem d1_26 : decode prog_31_method_1_code 26 = .ok (.aload 6, 2) := by decide +kernel
theorem d1_28 : decode prog_31_method_1_code 28 = .ok (.putfield 24, 3) := by decide +kernel
theorem d1_31 : decode prog_31_method_1_code 31 = .ok (.return_, 1) := by decide +kernel
theorem d3_0 : decode prog_35_method_1_code 0 = .ok (.aload_n 0, 1) := by decide +kernel
theorem d3_1 : decode prog_35_method_1_code 1 = .ok (.invokespecial 1, 3) := by decide +kernel
theorem d3_4 : decode prog_35_method_1_code 4 = .ok (.aload_n 0, 1) := by decide +kernel
theorem d3_5 : decode prog_35_method_1_code 5 = .ok (.bipush 16, 2) := by decide +kernel
theorem d3_7 : decode prog_35_method_1_code 7 = .ok (.anewarray 9, 3) := by decide +kernel
theorem d3_10 : decode prog_35_method_1_code 10 = .ok (.putfield 11, 3) := by decide +kernel
theorem d3_13 : decode prog_35_method_1_code 13 = .ok (.return_, 1) := by decide +kernel
theorem d4_0 : decode prog_35_method_5_code 0 = .ok (.aload_n 0, 1) := by decide +kernel
theorem d4_1 : decode prog_35_method_5_code 1 = .ok (.getfield 11, 3) := by decide +kernel
theorem d4_4 : decode prog_35_method_5_code 4 = .ok (.iconst 0, 1) := by decide +kernel
theorem d4_5 : decode prog_35_method_5_code 5 = .ok (.aaload, 1) := by decide +kernel
theorem d4_6 : decode prog_35_method_5_code 6 = .ok (.astore_n 1, 1) := by decide +kernel
theorem d4_7 : decode prog_35_method_5_code 7 = .ok (.aload_n 1, 1) := by decide +kernel
theorem d4_8 : decode prog_35_method_5_code 8 = .ok (.ifnull 8, 3) := by decide +kernel
theorem d4_11 : decode prog_35_method_5_code 11 = .ok (.aload_n 0, 1) := by decide +kernel
theorem d4_12 : decode prog_35_method_5_code 12 = .ok (.iconst 0, 1) := by decide +kernel
theorem d4_13 : decode prog_35_method_5_code 13 = .ok (.invokevirtual 30, 3) := by decide +kernel
theorem d4_16 : decode prog_35_method_5_code 16 = .ok (.aload_n 1, 1) := by decide +kernel
theorem d4_17 : decode prog_35_method_5_code 17 = .ok (.areturn, 1) := by decide +kernel
theorem d5_0 : decode method_5_code 0 = .ok (.iconst 0, 1) := by decide +kernel
theorem d5_1 : decode method_5_code 1 = .ok (.iload_n 2, 1) := by decide +kernel
theorem d5_2 : decode method_5_code 2 = .ok (.if_icmp .ge 19, 3) := by decide +kernel
theorem d5_5 : decode method_5_code 5 = .ok (.aload_n 0, 1) := by decide +kernel
theorem d5_6 : decode method_5_code 6 = .ok (.aload_n 1, 1) := by decide +kernel
theorem d5_7 : decode method_5_code 7 = .ok (.iload_n 2, 1) := by decide +kernel
theorem d5_8 : decode method_5_code 8 = .ok (.iconst 0, 1) := by decide +kernel
theorem d5_9 : decode method_5_code 9 = .ok (.invokestatic 42, 3) := by decide +kernel
theorem d5_12 : decode method_5_code 12 = .ok (.iload_n 3, 1) := by decide +kernel
theorem d5_13 : decode method_5_code 13 = .ok (.if_icmp .ne 8, 3) := by decide +kernel
theorem d5_16 : decode method_5_code 16 = .ok (.aload 4, 2) := by decide +kernel
theorem d5_18 : decode method_5_code 18 = .ok (.iconst 0, 1) := by decide +kernel
theorem d5_19 : decode method_5_code 19 = .ok (.aaload, 1) := by decide +kernel
theorem d5_20 : decode method_5_code 20 = .ok (.areturn, 1) := by decide +kernel
theorem d5_21 : decode method_5_code 21 = .ok (.iconst 1, 1) := by decide +kernel
theorem d5_22 : decode method_5_code 22 = .ok (.iload_n 2, 1) := by decide +kernel
theorem d5_23 : decode method_5_code 23 = .ok (.if_icmp .ge 19, 3) := by decide +kernel
theorem d5_26 : decode method_5_code 26 = .ok (.aload_n 0, 1) := by decide +kernel
theorem d5_27 : decode method_5_code 27 = .ok (.aload_n 1, 1) := by decide +kernel
theorem d5_28 : decode method_5_code 28 = .ok (.iload_n 2, 1) := by decide +kernel
theorem d5_29 : decode method_5_code 29 = .ok (.iconst 1, 1) := by decide +kernel
theorem d5_30 : decode method_5_code 30 = .ok (.invokestatic 42, 3) := by decide +kernel
theorem d5_33 : decode method_5_code 33 = .ok (.iload_n 3, 1) := by decide +kernel
theorem d5_34 : decode method_5_code 34 = .ok (.if_icmp .ne 8, 3) := by decide +kernel
theorem d5_37 : decode method_5_code 37 = .ok (.aload 4, 2) := by decide +kernel
theorem d5_39 : decode method_5_code 39 = .ok (.iconst 1, 1) := by decide +kernel
theorem d5_40 : decode method_5_code 40 = .ok (.aaload, 1) := by decide +kernel
theorem d5_41 : decode method_5_code 41 = .ok (.areturn, 1) := by decide +kernel
theorem d5_42 : decode method_5_code 42 = .ok (.iconst 2, 1) := by decide +kernel
theorem d5_43 : decode method_5_code 43 = .ok (.iload_n 2, 1) := by decide +kernel
theorem d5_44 : decode method_5_code 44 = .ok (.if_icmp .ge 19, 3) := by decide +kernel
theorem d5_47 : decode method_5_code 47 = .ok (.aload_n 0, 1) := by decide +kernel
theorem d5_48 : decode method_5_code 48 = .ok (.aload_n 1, 1) := by decide +kernel
theorem d5_49 : decode method_5_code 49 = .ok (.iload_n 2, 1) := by decide +kernel
theorem d5_50 : decode method_5_code 50 = .ok (.iconst 2, 1) := by decide +kernel
theorem d5_51 : decode method_5_code 51 = .ok (.invokestatic 42, 3) := by decide +kernel
theorem d5_54 : decode method_5_code 54 = .ok (.iload_n 3, 1) := by decide +kernel
theorem d5_55 : decode method_5_code 55 = .ok (.if_icmp .ne 8, 3) := by decide +kernel
theorem d5_58 : decode method_5_code 58 = .ok (.aload 4, 2) := by decide +kernel
theorem d5_60 : decode method_5_code 60 = .ok (.iconst 2, 1) := by decide +kernel
theorem d5_61 : decode method_5_code 61 = .ok (.aaload, 1) := by decide +kernel
theorem d5_62 : decode method_5_code 62 = .ok (.areturn, 1) := by decide +kernel
theorem d5_63 : decode method_5_code 63 = .ok (.aconst_null, 1) := by decide +kernel
theorem d5_64 : decode method_5_code 64 = .ok (.areturn, 1) := by decide +kernel
theorem d6_0 : decode prog_35_method_4_code 0 = .ok (.aload_n 0, 1) := by decide +kernel
theorem d6_1 : decode prog_35_method_4_code 1 = .ok (.getfield 15, 3) := by decide +kernel
theorem d6_4 : decode prog_35_method_4_code 4 = .ok (.aload_n 0, 1) := by decide +kernel
theorem d6_5 : decode prog_35_method_4_code 5 = .ok (.getfield 11, 3) := by decide +kernel
theorem d6_8 : decode prog_35_method_4_code 8 = .ok (.arraylength, 1) := by decide +kernel
theorem d6_9 : decode prog_35_method_4_code 9 = .ok (.if_icmp .ne 23, 3) := by decide +kernel
theorem d6_32 : decode prog_35_method_4_code 32 = .ok (.aload_n 0, 1) := by decide +kernel
theorem d6_33 : decode prog_35_method_4_code 33 = .ok (.dup, 1) := by decide +kernel
theorem d6_34 : decode prog_35_method_4_code 34 = .ok (.getfield 15, 3) := by decide +kernel
theorem d6_37 : decode prog_35_method_4_code 37 = .ok (.iconst 1, 1) := by decide +kernel
theorem d6_38 : decode prog_35_method_4_code 38 = .ok (.iadd, 1) := by decide +kernel
theorem d6_39 : decode prog_35_method_4_code 39 = .ok (.putfield 15, 3) := by decide +kernel
theorem d6_42 : decode prog_35_method_4_code 42 = .ok (.aload_n 0, 1) := by decide +kernel
theorem d6_43 : decode prog_35_method_4_code 43 = .ok (.aload_n 0, 1) := by decide +kernel
theorem d6_44 : decode prog_35_method_4_code 44 = .ok (.getfield 15, 3) := by decide +kernel
theorem d6_47 : decode prog_35_method_4_code 47 = .ok (.iconst 1, 1) := by decide +kernel
theorem d6_48 : decode prog_35_method_4_code 48 = .ok (.isub, 1) := by decide +kernel
theorem d6_49 : decode prog_35_method_4_code 49 = .ok (.aload_n 1, 1) := by decide +kernel
theorem d6_50 : decode prog_35_method_4_code 50 = .ok (.invokevirtual 26, 3) := by decide +kernel
theorem d6_53 : decode prog_35_method_4_code 53 = .ok (.return_, 1) := by decide +kernel
theorem d7_0 : decode prog_35_method_8_code 0 = .ok (.iload_n 1, 1) := by decide +kernel
theorem d7_1 : decode prog_35_method_8_code 1 = .ok (.istore_n 3, 1) := by decide +kernel
theorem d7_2 : decode prog_35_method_8_code 2 = .ok (.iload_n 3, 1) := by decide +kernel
theorem d7_3 : decode prog_35_method_8_code 3 = .ok (.ifCond .le 45, 3) := by decide +kernel
theorem d7_6 : decode prog_35_method_8_code 6 = .ok (.iload_n 3, 1) := by decide +kernel
theorem d7_7 : decode prog_35_method_8_code 7 = .ok (.iconst 1, 1) := by decide +kernel
theorem d7_8 : decode prog_35_method_8_code 8 = .ok (.isub, 1) := by decide +kernel
theorem d7_9 : decode prog_35_method_8_code 9 = .ok (.iconst 2, 1) := by decide +kernel
theorem d7_10 : decode prog_35_method_8_code 10 = .ok (.idiv, 1) := by decide +kernel
theorem d7_11 : decode prog_35_method_8_code 11 = .ok (.istore 4, 2) := by decide +kernel
theorem d7_13 : decode prog_35_method_8_code 13 = .ok (.aload_n 2, 1) := by decide +kernel
theorem d7_14 : decode prog_35_method_8_code 14 = .ok (.aload_n 0, 1) := by decide +kernel
theorem d7_15 : decode prog_35_method_8_code 15 = .ok (.getfield 11, 3) := by decide +kernel
theorem d7_18 : decode prog_35_method_8_code 18 = .ok (.iload 4, 2) := by decide +kernel
theorem d7_20 : decode prog_35_method_8_code 20 = .ok (.aaload, 1) := by decide +kernel
theorem d7_21 : decode prog_35_method_8_code 21 = .ok (.invokevirtual 43, 3) := by decide +kernel
theorem d7_24 : decode prog_35_method_8_code 24 = .ok (.ifCond .ne 6, 3) := by decide +kernel
theorem d7_27 : decode prog_35_method_8_code 27 = .ok (.goto 21, 3) := by decide +kernel
theorem d7_30 : decode prog_35_method_8_code 30 = .ok (.aload_n 0, 1) := by decide +kernel
theorem d7_31 : decode prog_35_method_8_code 31 = .ok (.iload_n 3, 1) := by decide +kernel
theorem d7_32 : decode prog_35_method_8_code 32 = .ok (.aload_n 0, 1) := by decide +kernel
theorem d7_33 : decode prog_35_method_8_code 33 = .ok (.getfield 11, 3) := by decide +kernel
theorem d7_36 : decode prog_35_method_8_code 36 = .ok (.iload 4, 2) := by decide +kernel
theorem d7_38 : decode prog_35_method_8_code 38 = .ok (.aaload, 1) := by decide +kernel
theorem d7_39 : decode prog_35_method_8_code 39 = .ok (.invokevirtual 47, 3) := by decide +kernel
theorem d7_42 : decode prog_35_method_8_code 42 = .ok (.iload 4, 2) := by decide +kernel
theorem d7_44 : decode prog_35_method_8_code 44 = .ok (.istore_n 3, 1) := by decide +kernel
theorem d7_45 : decode prog_35_method_8_code 45 = .ok (.goto (-43), 3) := by decide +kernel
theorem d7_48 : decode prog_35_method_8_code 48 = .ok (.aload_n 0, 1) := by decide +kernel
theorem d7_49 : decode prog_35_method_8_code 49 = .ok (.iload_n 3, 1) := by decide +kernel
theorem d7_50 : decode prog_35_method_8_code 50 = .ok (.aload_n 2, 1) := by decide +kernel
theorem d7_51 : decode prog_35_method_8_code 51 = .ok (.invokevirtual 47, 3) := by decide +kernel
theorem d7_54 : decode prog_35_method_8_code 54 = .ok (.return_, 1) := by decide +kernel
theorem d8_0 : decode prog_35_method_10_code 0 = .ok (.aload_n 0, 1) := by decide +kernel
theorem d8_1 : decode prog_35_method_10_code 1 = .ok (.getfield 11, 3) := by decide +kernel
theorem d8_4 : decode prog_35_method_10_code 4 = .ok (.iload_n 1, 1) := by decide +kernel
theorem d8_5 : decode prog_35_method_10_code 5 = .ok (.aload_n 2, 1) := by decide +kernel
theorem d8_6 : decode prog_35_method_10_code 6 = .ok (.aastore, 1) := by decide +kernel
theorem d8_7 : decode prog_35_method_10_code 7 = .ok (.aload_n 2, 1) := by decide +kernel
theorem d8_8 : decode prog_35_method_10_code 8 = .ok (.iload_n 1, 1) := by decide +kernel
theorem d8_9 : decode prog_35_method_10_code 9 = .ok (.invokevirtual 38, 3) := by decide +kernel
theorem d8_12 : decode prog_35_method_10_code 12 = .ok (.return_, 1) := by decide +kernel
theorem d9_0 : decode prog_31_method_7_code 0 = .ok (.aload_n 0, 1) := by decide +kernel
theorem d9_1 : decode prog_31_method_7_code 1 = .ok (.iload_n 1, 1) := by decide +kernel
theorem d9_2 : decode prog_31_method_7_code 2 = .ok (.putfield 7, 3) := by decide +kernel
theorem d9_5 : decode prog_31_method_7_code 5 = .ok (.return_, 1) := by decide +kernel
theorem d10_0 : decode prog_35_method_7_code 0 = .ok (.aload_n 0, 1) := by decide +kernel
theorem d10_1 : decode prog_35_method_7_code 1 = .ok (.getfield 11, 3) := by decide +kernel
theorem d10_4 : decode prog_35_method_7_code 4 = .ok (.iload_n 1, 1) := by decide +kernel
theorem d10_5 : decode prog_35_method_7_code 5 = .ok (.aaload, 1) := by decide +kernel
theorem d10_6 : decode prog_35_method_7_code 6 = .ok (.astore_n 2, 1) := by decide +kernel
theorem d10_7 : decode prog_35_method_7_code 7 = .ok (.aload_n 0, 1) := by decide +kernel
theorem d10_8 : decode prog_35_method_7_code 8 = .ok (.dup, 1) := by decide +kernel
theorem d10_9 : decode prog_35_method_7_code 9 = .ok (.getfield 15, 3) := by decide +kernel
theorem d10_12 : decode prog_35_method_7_code 12 = .ok (.iconst 1, 1) := by decide +kernel
theorem d10_13 : decode prog_35_method_7_code 13 = .ok (.isub, 1) := by decide +kernel
theorem d10_14 : decode prog_35_method_7_code 14 = .ok (.putfield 15, 3) := by decide +kernel
theorem d10_17 : decode prog_35_method_7_code 17 = .ok (.aload_n 0, 1) := by decide +kernel
theorem d10_18 : decode prog_35_method_7_code 18 = .ok (.getfield 11, 3) := by decide +kernel
theorem d10_21 : decode prog_35_method_7_code 21 = .ok (.aload_n 0, 1) := by decide +kernel
theorem d10_22 : decode prog_35_method_7_code 22 = .ok (.getfield 15, 3) := by decide +kernel
theorem d10_25 : decode prog_35_method_7_code 25 = .ok (.aaload, 1) := by decide +kernel
theorem d10_26 : decode prog_35_method_7_code 26 = .ok (.astore_n 3, 1) := by decide +kernel
theorem d10_27 : decode prog_35_method_7_code 27 = .ok (.aload_n 0, 1) := by decide +kernel
theorem d10_28 : decode prog_35_method_7_code 28 = .ok (.getfield 11, 3) := by decide +kernel
theorem d10_31 : decode prog_35_method_7_code 31 = .ok (.aload_n 0, 1) := by decide +kernel
theorem d10_32 : decode prog_35_method_7_code 32 = .ok (.getfield 15, 3) := by decide +kernel
theorem d10_35 : decode prog_35_method_7_code 35 = .ok (.aconst_null, 1) := by decide +kernel
theorem d10_36 : decode prog_35_method_7_code 36 = .ok (.aastore, 1) := by decide +kernel
theorem d10_37 : decode prog_35_method_7_code 37 = .ok (.aload_n 2, 1) := by decide +kernel
theorem d10_38 : decode prog_35_method_7_code 38 = .ok (.iconst (-1), 1) := by decide +kernel
theorem d10_39 : decode prog_35_method_7_code 39 = .ok (.invokevirtual 38, 3) := by decide +kernel
theorem d10_42 : decode prog_35_method_7_code 42 = .ok (.iload_n 1, 1) := by decide +kernel
theorem d10_43 : decode prog_35_method_7_code 43 = .ok (.aload_n 0, 1) := by decide +kernel
theorem d10_44 : decode prog_35_method_7_code 44 = .ok (.getfield 15, 3) := by decide +kernel
theorem d10_47 : decode prog_35_method_7_code 47 = .ok (.if_icmp .ge 25, 3) := by decide +kernel
theorem d10_50 : decode prog_35_method_7_code 50 = .ok (.aload_n 0, 1) := by decide +kernel
theorem d10_51 : decode prog_35_method_7_code 51 = .ok (.iload_n 1, 1) := by decide +kernel
theorem d10_52 : decode prog_35_method_7_code 52 = .ok (.aload_n 3, 1) := by decide +kernel
theorem d10_53 : decode prog_35_method_7_code 53 = .ok (.invokevirtual 40, 3) := by decide +kernel
theorem d10_56 : decode prog_35_method_7_code 56 = .ok (.aload_n 0, 1) := by decide +kernel
theorem d10_57 : decode prog_35_method_7_code 57 = .ok (.getfield 11, 3) := by decide +kernel
theorem d10_60 : decode prog_35_method_7_code 60 = .ok (.iload_n 1, 1) := by decide +kernel
theorem d10_61 : decode prog_35_method_7_code 61 = .ok (.aaload, 1) := by decide +kernel
theorem d10_62 : decode prog_35_method_7_code 62 = .ok (.aload_n 3, 1) := by decide +kernel
theorem d10_63 : decode prog_35_method_7_code 63 = .ok (.if_acmp .ne 9, 3) := by decide +kernel
theorem d10_66 : decode prog_35_method_7_code 66 = .ok (.aload_n 0, 1) := by decide +kernel
theorem d10_67 : decode prog_35_method_7_code 67 = .ok (.iload_n 1, 1) := by decide +kernel
theorem d10_68 : decode prog_35_method_7_code 68 = .ok (.aload_n 3, 1) := by decide +kernel
theorem d10_69 : decode prog_35_method_7_code 69 = .ok (.invokevirtual 26, 3) := by decide +kernel
theorem d10_72 : decode prog_35_method_7_code 72 = .ok (.return_, 1) := by decide +kernel
theorem d11_0 : decode method_4_code 0 = .ok (.iconst 0, 1) := by decide +kernel
theorem d11_1 : decode method_4_code 1 = .ok (.istore 4, 2) := by decide +kernel
theorem d11_3 : decode method_4_code 3 = .ok (.iconst 0, 1) := by decide +kernel
theorem d11_4 : decode method_4_code 4 = .ok (.iload_n 2, 1) := by decide +kernel
theorem d11_5 : decode method_4_code 5 = .ok (.if_icmp .ge 20, 3) := by decide +kernel
theorem d11_8 : decode method_4_code 8 = .ok (.iload_n 3, 1) := by decide +kernel
theorem d11_9 : decode method_4_code 9 = .ok (.ifCond .eq 16, 3) := by decide +kernel
theorem d11_12 : decode method_4_code 12 = .ok (.aload_n 0, 1) := by decide +kernel
theorem d11_13 : decode method_4_code 13 = .ok (.aload_n 1, 1) := by decide +kernel
theorem d11_14 : decode method_4_code 14 = .ok (.iconst 0, 1) := by decide +kernel
theorem d11_15 : decode method_4_code 15 = .ok (.iload_n 3, 1) := by decide +kernel
theorem d11_16 : decode method_4_code 16 = .ok (.invokestatic 38, 3) := by decide +kernel
theorem d11_19 : decode method_4_code 19 = .ok (.ifCond .eq 6, 3) := by decide +kernel
theorem d11_22 : decode method_4_code 22 = .ok (.iinc 4 1, 3) := by decide +kernel
theorem d11_25 : decode method_4_code 25 = .ok (.iconst 1, 1) := by decide +kernel
theorem d11_26 : decode method_4_code 26 = .ok (.iload_n 2, 1) := by decide +kernel
theorem d11_27 : decode method_4_code 27 = .ok (.if_icmp .ge 21, 3) := by decide +kernel
theorem d11_30 : decode method_4_code 30 = .ok (.iload_n 3, 1) := by decide +kernel
theorem d11_31 : decode method_4_code 31 = .ok (.iconst 1, 1) := by decide +kernel
theorem d11_32 : decode method_4_code 32 = .ok (.if_icmp .eq 16, 3) := by decide +kernel
theorem d11_35 : decode method_4_code 35 = .ok (.aload_n 0, 1) := by decide +kernel
theorem d11_36 : decode method_4_code 36 = .ok (.aload_n 1, 1) := by decide +kernel
theorem d11_37 : decode method_4_code 37 = .ok (.iconst 1, 1) := by decide +kernel
theorem d11_38 : decode method_4_code 38 = .ok (.iload_n 3, 1) := by decide +kernel
theorem d11_39 : decode method_4_code 39 = .ok (.invokestatic 38, 3) := by decide +kernel
theorem d11_42 : decode method_4_code 42 = .ok (.ifCond .eq 6, 3) := by decide +kernel
theorem d11_45 : decode method_4_code 45 = .ok (.iinc 4 1, 3) := by decide +kernel
theorem d11_48 : decode method_4_code 48 = .ok (.iconst 2, 1) := by decide +kernel
theorem d11_49 : decode method_4_code 49 = .ok (.iload_n 2, 1) := by decide +kernel
theorem d11_50 : decode method_4_code 50 = .ok (.if_icmp .ge 21, 3) := by decide +kernel
theorem d11_53 : decode method_4_code 53 = .ok (.iload_n 3, 1) := by decide +kernel
theorem d11_54 : decode method_4_code 54 = .ok (.iconst 2, 1) := by decide +kernel
theorem d11_55 : decode method_4_code 55 = .ok (.if_icmp .eq 16, 3) := by decide +kernel
theorem d11_58 : decode method_4_code 58 = .ok (.aload_n 0, 1) := by decide +kernel
theorem d11_59 : decode method_4_code 59 = .ok (.aload_n 1, 1) := by decide +kernel
theorem d11_60 : decode method_4_code 60 = .ok (.iconst 2, 1) := by decide +kernel
theorem d11_61 : decode method_4_code 61 = .ok (.iload_n 3, 1) := by decide +kernel
theorem d11_62 : decode method_4_code 62 = .ok (.invokestatic 38, 3) := by decide +kernel
theorem d11_65 : decode method_4_code 65 = .ok (.ifCond .eq 6, 3) := by decide +kernel
theorem d11_68 : decode method_4_code 68 = .ok (.iinc 4 1, 3) := by decide +kernel
theorem d11_71 : decode method_4_code 71 = .ok (.iload 4, 2) := by decide +kernel
theorem d11_73 : decode method_4_code 73 = .ok (.ireturn, 1) := by decide +kernel
theorem d12_0 : decode prog_31_method_6_code 0 = .ok (.aload_n 0, 1) := by decide +kernel
theorem d12_1 : decode prog_31_method_6_code 1 = .ok (.getfield 7, 3) := by decide +kernel
theorem d12_4 : decode prog_31_method_6_code 4 = .ok (.ireturn, 1) := by decide +kernel
theorem d13_0 : decode prog_31_method_5_code 0 = .ok (.aload_n 0, 1) := by decide +kernel
theorem d13_1 : decode prog_31_method_5_code 1 = .ok (.getfield 17, 3) := by decide +kernel
theorem d13_4 : decode prog_31_method_5_code 4 = .ok (.aload_n 1, 1) := by decide +kernel
theorem d13_5 : decode prog_31_method_5_code 5 = .ok (.getfield 17, 3) := by decide +kernel
theorem d13_8 : decode prog_31_method_5_code 8 = .ok (.lsub, 1) := by decide +kernel
theorem d13_9 : decode prog_31_method_5_code 9 = .ok (.lstore_n 2, 1) := by decide +kernel
theorem d13_10 : decode prog_31_method_5_code 10 = .ok (.lload_n 2, 1) := by decide +kernel
theorem d13_11 : decode prog_31_method_5_code 11 = .ok (.lconst 0, 1) := by decide +kernel
theorem d13_12 : decode prog_31_method_5_code 12 = .ok (.lcmp, 1) := by decide +kernel
theorem d13_13 : decode prog_31_method_5_code 13 = .ok (.ifCond .lt 21, 3) := by decide +kernel
theorem d13_16 : decode prog_31_method_5_code 16 = .ok (.lload_n 2, 1) := by decide +kernel
theorem d13_17 : decode prog_31_method_5_code 17 = .ok (.lconst 0, 1) := by decide +kernel
theorem d13_18 : decode prog_31_method_5_code 18 = .ok (.lcmp, 1) := by decide +kernel
theorem d13_19 : decode prog_31_method_5_code 19 = .ok (.ifCond .ne 19, 3) := by decide +kernel
theorem d13_22 : decode prog_31_method_5_code 22 = .ok (.aload_n 0, 1) := by decide +kernel
theorem d13_23 : decode prog_31_method_5_code 23 = .ok (.getfield 21, 3) := by decide +kernel
theorem d13_26 : decode prog_31_method_5_code 26 = .ok (.aload_n 1, 1) := by decide +kernel
theorem d13_27 : decode prog_31_method_5_code 27 = .ok (.getfield 21, 3) := by decide +kernel
theorem d13_30 : decode prog_31_method_5_code 30 = .ok (.lcmp, 1) := by decide +kernel
theorem d13_31 : decode prog_31_method_5_code 31 = .ok (.ifCond .ge 7, 3) := by decide +kernel
theorem d13_34 : decode prog_31_method_5_code 34 = .ok (.iconst 1, 1) := by decide +kernel
theorem d13_35 : decode prog_31_method_5_code 35 = .ok (.goto 4, 3) := by decide +kernel
theorem d13_38 : decode prog_31_method_5_code 38 = .ok (.iconst 0, 1) := by decide +kernel
theorem d13_39 : decode prog_31_method_5_code 39 = .ok (.ireturn, 1) := by decide +kernel
theorem d14_0 : decode prog_35_method_9_code 0 = .ok (.iload_n 1, 1) := by decide +kernel
theorem d14_1 : decode prog_35_method_9_code 1 = .ok (.istore_n 3, 1) := by decide +kernel
theorem d14_2 : decode prog_35_method_9_code 2 = .ok (.aload_n 0, 1) := by decide +kernel
theorem d14_3 : decode prog_35_method_9_code 3 = .ok (.getfield 15, 3) := by decide +kernel
theorem d14_6 : decode prog_35_method_9_code 6 = .ok (.iconst 2, 1) := by decide +kernel
theorem d14_7 : decode prog_35_method_9_code 7 = .ok (.idiv, 1) := by decide +kernel
theorem d14_8 : decode prog_35_method_9_code 8 = .ok (.istore 4, 2) := by decide +kernel
theorem d14_10 : decode prog_35_method_9_code 10 = .ok (.iload_n 3, 1) := by decide +kernel
theorem d14_11 : decode prog_35_method_9_code 11 = .ok (.iload 4, 2) := by decide +kernel
theorem d14_13 : decode prog_35_method_9_code 13 = .ok (.if_icmp .ge 81, 3) := by decide +kernel
theorem d14_16 : decode prog_35_method_9_code 16 = .ok (.iconst 2, 1) := by decide +kernel
theorem d14_17 : decode prog_35_method_9_code 17 = .ok (.iload_n 3, 1) := by decide +kernel
theorem d14_18 : decode prog_35_method_9_code 18 = .ok (.imul, 1) := by decide +kernel
theorem d14_19 : decode prog_35_method_9_code 19 = .ok (.iconst 1, 1) := by decide +kernel
theorem d14_20 : decode prog_35_method_9_code 20 = .ok (.iadd, 1) := by decide +kernel
theorem d14_21 : decode prog_35_method_9_code 21 = .ok (.istore 5, 2) := by decide +kernel
theorem d14_23 : decode prog_35_method_9_code 23 = .ok (.iload 5, 2) := by decide +kernel
theorem d14_25 : decode prog_35_method_9_code 25 = .ok (.iconst 1, 1) := by decide +kernel
theorem d14_26 : decode prog_35_method_9_code 26 = .ok (.iadd, 1) := by decide +kernel
theorem d14_27 : decode prog_35_method_9_code 27 = .ok (.aload_n 0, 1) := by decide +kernel
theorem d14_28 : decode prog_35_method_9_code 28 = .ok (.getfield 15, 3) := by decide +kernel
theorem d14_31 : decode prog_35_method_9_code 31 = .ok (.if_icmp .ge 28, 3) := by decide +kernel
theorem d14_59 : decode prog_35_method_9_code 59 = .ok (.aload_n 0, 1) := by decide +kernel
theorem d14_60 : decode prog_35_method_9_code 60 = .ok (.getfield 11, 3) := by decide +kernel
theorem d14_63 : decode prog_35_method_9_code 63 = .ok (.iload 5, 2) := by decide +kernel
theorem d14_65 : decode prog_35_method_9_code 65 = .ok (.aaload, 1) := by decide +kernel
theorem d14_66 : decode prog_35_method_9_code 66 = .ok (.aload_n 2, 1) := by decide +kernel
theorem d14_67 : decode prog_35_method_9_code 67 = .ok (.invokevirtual 43, 3) := by decide +kernel
theorem d14_70 : decode prog_35_method_9_code 70 = .ok (.ifCond .ne 6, 3) := by decide +kernel
theorem d14_73 : decode prog_35_method_9_code 73 = .ok (.goto 21, 3) := by decide +kernel
theorem d14_76 : decode prog_35_method_9_code 76 = .ok (.aload_n 0, 1) := by decide +kernel
theorem d14_77 : decode prog_35_method_9_code 77 = .ok (.iload_n 3, 1) := by decide +kernel
theorem d14_78 : decode prog_35_method_9_code 78 = .ok (.aload_n 0, 1) := by decide +kernel
theorem d14_79 : decode prog_35_method_9_code 79 = .ok (.getfield 11, 3) := by decide +kernel
theorem d14_82 : decode prog_35_method_9_code 82 = .ok (.iload 5, 2) := by decide +kernel
theorem d14_84 : decode prog_35_method_9_code 84 = .ok (.aaload, 1) := by decide +kernel
theorem d14_85 : decode prog_35_method_9_code 85 = .ok (.invokevirtual 47, 3) := by decide +kernel
theorem d14_88 : decode prog_35_method_9_code 88 = .ok (.iload 5, 2) := by decide +kernel
theorem d14_90 : decode prog_35_method_9_code 90 = .ok (.istore_n 3, 1) := by decide +kernel
theorem d14_91 : decode prog_35_method_9_code 91 = .ok (.goto (-81), 3) := by decide +kernel
theorem d14_94 : decode prog_35_method_9_code 94 = .ok (.aload_n 0, 1) := by decide +kernel
theorem d14_95 : decode prog_35_method_9_code 95 = .ok (.iload_n 3, 1) := by decide +kernel
theorem d14_96 : decode prog_35_method_9_code 96 = .ok (.aload_n 2, 1) := by decide +kernel
theorem d14_97 : decode prog_35_method_9_code 97 = .ok (.invokevirtual 47, 3) := by decide +kernel
theorem d14_100 : decode prog_35_method_9_code 100 = .ok (.return_, 1) := by decide +kernel
theorem d15_0 : decode method_3_code 0 = .ok (.aload_n 0, 1) := by decide +kernel
theorem d15_1 : decode method_3_code 1 = .ok (.iload_n 2, 1) := by decide +kernel
theorem d15_2 : decode method_3_code 2 = .ok (.laload, 1) := by decide +kernel
theorem d15_3 : decode method_3_code 3 = .ok (.aload_n 0, 1) := by decide +kernel
theorem d15_4 : decode method_3_code 4 = .ok (.iload_n 3, 1) := by decide +kernel
theorem d15_5 : decode method_3_code 5 = .ok (.laload, 1) := by decide +kernel
theorem d15_6 : decode method_3_code 6 = .ok (.lcmp, 1) := by decide +kernel
theorem d15_7 : decode method_3_code 7 = .ok (.ifCond .lt 23, 3) := by decide +kernel
theorem d15_10 : decode method_3_code 10 = .ok (.aload_n 0, 1) := by decide +kernel
theorem d15_11 : decode method_3_code 11 = .ok (.iload_n 2, 1) := by decide +kernel
theorem d15_12 : decode method_3_code 12 = .ok (.laload, 1) := by decide +kernel
theorem d15_13 : decode method_3_code 13 = .ok (.aload_n 0, 1) := by decide +kernel
theorem d15_14 : decode method_3_code 14 = .ok (.iload_n 3, 1) := by decide +kernel
theorem d15_15 : decode method_3_code 15 = .ok (.laload, 1) := by decide +kernel
theorem d15_16 : decode method_3_code 16 = .ok (.lcmp, 1) := by decide +kernel
theorem d15_17 : decode method_3_code 17 = .ok (.ifCond .ne 17, 3) := by decide +kernel
theorem d15_20 : decode method_3_code 20 = .ok (.aload_n 1, 1) := by decide +kernel
theorem d15_21 : decode method_3_code 21 = .ok (.iload_n 2, 1) := by decide +kernel
theorem d15_22 : decode method_3_code 22 = .ok (.laload, 1) := by decide +kernel
theorem d15_23 : decode method_3_code 23 = .ok (.aload_n 1, 1) := by decide +kernel
theorem d15_24 : decode method_3_code 24 = .ok (.iload_n 3, 1) := by decide +kernel
theorem d15_25 : decode method_3_code 25 = .ok (.laload, 1) := by decide +kernel
theorem d15_26 : decode method_3_code 26 = .ok (.lcmp, 1) := by decide +kernel
theorem d15_27 : decode method_3_code 27 = .ok (.ifCond .ge 7, 3) := by decide +kernel
theorem d15_30 : decode method_3_code 30 = .ok (.iconst 1, 1) := by decide +kernel
theorem d15_31 : decode method_3_code 31 = .ok (.goto 4, 3) := by decide +kernel
theorem d15_34 : decode method_3_code 34 = .ok (.iconst 0, 1) := by decide +kernel
theorem d15_35 : decode method_3_code 35 = .ok (.ireturn, 1) := by decide +kernel
theorem own_pn0 : plainName "com/example/earnest_reactor/earnestreactor/core/ScheduledTask" = true := by first | (simp [plainName, overriddenIn]; done) | decide +kernel
theorem own_pn1 : plainName "com/example/earnest_reactor/earnestreactor/core/TimerQueue" = true := by first | (simp [plainName, overriddenIn]; done) | decide +kernel
theorem own_pd2 : parseMethodDescriptor "(I)V" = some ⟨[.int], none⟩ := by decide +kernel
theorem own_pd3 : parseMethodDescriptor "(ILcom/example/earnest_reactor/earnestreactor/core/ScheduledTask;)V" = some ⟨[.int, (.object "com/example/earnest_reactor/earnestreactor/core/ScheduledTask")], none⟩ := by decide +kernel
theorem own_pd4 : parseMethodDescriptor "(Lcom/example/earnest_reactor/earnestreactor/core/ScheduledTask;)Z" = some ⟨[(.object "com/example/earnest_reactor/earnestreactor/core/ScheduledTask")], some .boolean⟩ := by decide +kernel
theorem own_pn5 : plainName "com/example/earnest_reactor/earnestreactor/core/TimerQueuePollPinLaw" = true := by first | (simp [plainName, overriddenIn]; done) | decide +kernel
theorem own_pd6 : parseMethodDescriptor "([J[JII)Z" = some ⟨[(.array .long), (.array .long), .int, .int], some .boolean⟩ := by decide +kernel
theorem own_pd7 : parseMethodDescriptor "([J[JII)I" = some ⟨[(.array .long), (.array .long), .int, .int], some .int⟩ := by decide +kernel
theorem own_pd8 : parseMethodDescriptor "()Lcom/example/earnest_reactor/earnestreactor/core/ScheduledTask;" = some ⟨[], some (.object "com/example/earnest_reactor/earnestreactor/core/ScheduledTask")⟩ := by decide +kernel
theorem own_pd9 : parseMethodDescriptor "([J[JII[Lcom/example/earnest_reactor/earnestreactor/core/ScheduledTask;)Lcom/example/earnest_reactor/earnestreactor/core/ScheduledTask;" = some ⟨[(.array .long), (.array .long), .int, .int, (.array (.object "com/example/earnest_reactor/earnestreactor/core/ScheduledTask"))], some (.object "com/example/earnest_reactor/earnestreactor/core/ScheduledTask")⟩ := by decide +kernel
theorem own_pd10 : parseMethodDescriptor "(Lcom/example/earnest_reactor/earnestreactor/core/ScheduledTask;)V" = some ⟨[(.object "com/example/earnest_reactor/earnestreactor/core/ScheduledTask")], none⟩ := by decide +kernel
theorem own_pd11 : parseMethodDescriptor "()I" = some ⟨[], some .int⟩ := by decide +kernel
theorem own_pd12 : parseMethodDescriptor "(Lcom/example/earnest_reactor/earnestreactor/core/EventLoop;JJLjava/lang/Runnable;)V" = some ⟨[(.object "com/example/earnest_reactor/earnestreactor/core/EventLoop"), .long, .long, (.object "java/lang/Runnable")], none⟩ := by decide +kernel
theorem own_pd13 : parseMethodDescriptor "()V" = some ⟨[], none⟩ := by decide +kernel
set_option maxRecDepth 65536 in
theorem own_lk0 {p : Program} {l : Launch} {e : Env} {R : Room} {s : State} {m : MethodId} {args : Array Value} {below : List Frame} {meth : Method} {c : Code} {T : State} {locs : List Loc} {cells slots : Nat} {F : Option Value → State → Prop} {bs : ByteArray} {pc pc' : Nat} {Ls : Array Slot} {Z : State} {a0 : Array Value} {h : Heap} {x0 : Value} {b : Addr} {rest : List Value} {W : Nat} {rm : Room} {Q : Option Value → Heap → List Loc → Prop} (hw : ∀ d ∈ tables_1, d.before a0 Z = true) (X : Stand p l e R s m args below meth c T locs cells slots) (hx : p.tables.exec = Jvm.exec) (hZ : Z.Warmed39 s.vm) (hby : c.code = bs) (hsz : Ls.size = c.maxLocals) (hown : s.vm.findClass "com/example/earnest_reactor/earnestreactor/core/TimerQueue" = some m.cls) (hd : decode bs pc = .ok (.invokevirtual 38, 3)) (hp : pc + 3 = pc') (eT : T.heap = h) (E : Exa Z h b "com/example/earnest_reactor/earnestreactor/core/ScheduledTask") (hW : (rest.map fun v => v.category).sum ≤ W)
    (hM : MetFree l (⟨"com/example/earnest_reactor/earnestreactor/core/ScheduledTask", "queueIndex", "(I)V"⟩ : MethodName) (head1 [(Cond.code (⟨"com/example/earnest_reactor/earnestreactor/core/ScheduledTask", "queueIndex", "(I)V"⟩ : MethodName) prog_31_method_7_code 2 none)] rm) (fun aa U => aa = #[.ref b, x0] ∧ Z.Warmed39 U.vm ∧ U.heap = h) (fun _ _ _ _ _ => True) (fun _ U o U' => ∃ v L, o = .returned v ∧ Q v U'.heap L ∧ FrameEnd U o U' L rm.cells rm.slots)) (hf : rm.frames + 1 ≤ R.frames) (hl : W + (2 + 11) + rm.locals ≤ R.locals) (hc : cells + rm.cells ≤ R.cells) (hs : slots + rm.slots ≤ R.slots)
    (k : ∀ v T' L', Stand p l e R s m args below meth c T' (locs ++ L') (cells + rm.cells) (slots + rm.slots) → Q v T'.heap L' → own_End p e below F (T'.setTop (mkF m pc' Ls (v.toList ++ rest)))) : own_End p e below F (T.setTop (mkF m pc Ls (x0 :: .ref b :: rest))) := by
  subst hp
  obtain ⟨cq, kq, q1, q2, q3⟩ := isOf hZ eT E
  obtain ⟨v, _, ⟨T', L0, k0, n0⟩, -, X', ⟨L', hQ, e1, e2, e3⟩, stp⟩ := X.virtualBack hx (y := (⟨"com/example/earnest_reactor/earnestreactor/core/ScheduledTask", "queueIndex", "(I)V"⟩ : MethodName)) (z := (⟨"com/example/earnest_reactor/earnestreactor/core/ScheduledTask", "queueIndex", "(I)V"⟩ : MethodName)) hown (mvT hZ (wd_59 hw)) (mvT hZ (wd_60 hw)) (notFace_of_selects (args := #[]) (mvT hZ (wd_62 hw))) (mvT hZ (wd_62 hw)) (mvT hZ (wd_61 hw)) (by decide) (backOf (W := W) hM hZ (wd_63 hw) (wd_7 hw) hf hl) q1 q3 (g := mkF m pc Ls (x0 :: .ref b :: rest)) rfl hsz (Steps.refl _) (argsL := [x0]) (rest := rest) (lenOf own_pd2 rfl) rfl (by show 2 * 0 + _ ≤ _; omega) (hb hby hd) (fun _ _ => ⟨rfl, eT, hc, hs⟩)
  dsimp only [Pt.U, Pt.locs, Pt.cells, Pt.slots] at X' e1 e2 e3 stp hQ
  subst e1 e2 e3
  exact own_trans stp (k v T' L' X' hQ)
set_option maxRecDepth 65536 in
theorem own_lk1 {p : Program} {l : Launch} {e : Env} {R : Room} {s : State} {m : MethodId} {args : Array Value} {below : List Frame} {meth : Method} {c : Code} {T : State} {locs : List Loc} {cells slots : Nat} {F : Option Value → State → Prop} {bs : ByteArray} {pc pc' : Nat} {Ls : Array Slot} {Z : State} {a0 : Array Value} {h : Heap} {x0 : Value} {x1 : Value} {b : Addr} {rest : List Value} {W : Nat} {rm : Room} {Q : Option Value → Heap → List Loc → Prop} (hw : ∀ d ∈ tables_1, d.before a0 Z = true) (X : Stand p l e R s m args below meth c T locs cells slots) (hx : p.tables.exec = Jvm.exec) (hZ : Z.Warmed39 s.vm) (hby : c.code = bs) (hsz : Ls.size = c.maxLocals) (hown : s.vm.findClass "com/example/earnest_reactor/earnestreactor/core/TimerQueue" = some m.cls) (hd : decode bs pc = .ok (.invokevirtual 47, 3)) (hp : pc + 3 = pc') (eT : T.heap = h) (E : Exa Z h b "com/example/earnest_reactor/earnestreactor/core/TimerQueue") (hW : (rest.map fun v => v.category).sum ≤ W)
    (hM : MetFree l (⟨"com/example/earnest_reactor/earnestreactor/core/TimerQueue", "place", "(ILcom/example/earnest_reactor/earnestreactor/core/ScheduledTask;)V"⟩ : MethodName) (head1 [(Cond.code (⟨"com/example/earnest_reactor/earnestreactor/core/TimerQueue", "place", "(ILcom/example/earnest_reactor/earnestreactor/core/ScheduledTask;)V"⟩ : MethodName) prog_35_method_10_code 3 none)] rm) (fun aa U => aa = #[.ref b, x0, x1] ∧ Z.Warmed39 U.vm ∧ U.heap = h) (fun _ _ _ _ _ => True) (fun _ U o U' => ∃ v L, o = .returned v ∧ Q v U'.heap L ∧ FrameEnd U o U' L rm.cells rm.slots)) (hf : rm.frames + 1 ≤ R.frames) (hl : W + (3 + 11) + rm.locals ≤ R.locals) (hc : cells + rm.cells ≤ R.cells) (hs : slots + rm.slots ≤ R.slots)
    (k : ∀ v T' L', Stand p l e R s m args below meth c T' (locs ++ L') (cells + rm.cells) (slots + rm.slots) → Q v T'.heap L' → own_End p e below F (T'.setTop (mkF m pc' Ls (v.toList ++ rest)))) : own_End p e below F (T.setTop (mkF m pc Ls (x1 :: x0 :: .ref b :: rest))) := by
  subst hp
  obtain ⟨cq, qa, qb⟩ := E.cell
  obtain ⟨v, _, ⟨T', L0, k0, n0⟩, -, X', ⟨L', hQ, e1, e2, e3⟩, stp⟩ := X.privateBack hx (y := (⟨"com/example/earnest_reactor/earnestreactor/core/TimerQueue", "place", "(ILcom/example/earnest_reactor/earnestreactor/core/ScheduledTask;)V"⟩ : MethodName)) hown (mvT hZ (wd_55 hw)) (mvT hZ (wd_56 hw)) (own_selPriv (y := (⟨"com/example/earnest_reactor/earnestreactor/core/TimerQueue", "place", "(ILcom/example/earnest_reactor/earnestreactor/core/ScheduledTask;)V"⟩ : MethodName)) (mvT hZ (wd_26 hw)) (Cond.privateMethod_at (mvP hZ (wd_57 hw) (args := #[]))) (mvT hZ (wd_56 hw)) (by decide)) (Cond.privateMethod_at (mvP hZ (wd_57 hw) (args := #[]))) (mvT hZ (wd_58 hw)) (by decide) (backOf (W := W) hM hZ (wd_58 hw) (wd_27 hw) hf hl) (g := mkF m pc Ls (x1 :: x0 :: .ref b :: rest)) rfl hsz (Steps.refl _) (a := b) (by rw [eT]; exact qa) qb (argsL := [x0, x1]) (rest := rest) (lenOf own_pd3 rfl) rfl (by show 2 * 0 + _ ≤ _; omega) (hb hby hd) (fun _ _ => ⟨rfl, eT, hc, hs⟩)
  dsimp only [Pt.U, Pt.locs, Pt.cells, Pt.slots] at X' e1 e2 e3 stp hQ
  subst e1 e2 e3
  exact own_trans stp (k v T' L' X' hQ)
set_option maxRecDepth 65536 in
theorem own_lk2 {p : Program} {l : Launch} {e : Env} {R : Room} {s : State} {m : MethodId} {args : Array Value} {below : List Frame} {meth : Method} {c : Code} {T : State} {locs : List Loc} {cells slots : Nat} {F : Option Value → State → Prop} {bs : ByteArray} {pc pc' : Nat} {Ls : Array Slot} {Z : State} {a0 : Array Value} {h : Heap} {x0 : Value} {b : Addr} {rest : List Value} {W : Nat} {rm : Room} {Q : Option Value → Heap → List Loc → Prop} (hw : ∀ d ∈ tables_1, d.before a0 Z = true) (X : Stand p l e R s m args below meth c T locs cells slots) (hx : p.tables.exec = Jvm.exec) (hZ : Z.Warmed39 s.vm) (hby : c.code = bs) (hsz : Ls.size = c.maxLocals) (hown : s.vm.findClass "com/example/earnest_reactor/earnestreactor/core/TimerQueue" = some m.cls) (hd : decode bs pc = .ok (.invokevirtual 43, 3)) (hp : pc + 3 = pc') (eT : T.heap = h) (E : Exa Z h b "com/example/earnest_reactor/earnestreactor/core/ScheduledTask") (hW : (rest.map fun v => v.category).sum ≤ W)
    (hM : MetFree l (⟨"com/example/earnest_reactor/earnestreactor/core/ScheduledTask", "runsBefore", "(Lcom/example/earnest_reactor/earnestreactor/core/ScheduledTask;)Z"⟩ : MethodName) (head1 [(Cond.code (⟨"com/example/earnest_reactor/earnestreactor/core/ScheduledTask", "runsBefore", "(Lcom/example/earnest_reactor/earnestreactor/core/ScheduledTask;)Z"⟩ : MethodName) prog_31_method_5_code 4 (some .boolean))] rm) (fun aa U => aa = #[.ref b, x0] ∧ Z.Warmed39 U.vm ∧ U.heap = h) (fun _ _ _ _ _ => True) (fun _ U o U' => ∃ v L, o = .returned v ∧ Q v U'.heap L ∧ FrameEnd U o U' L rm.cells rm.slots)) (hf : rm.frames + 1 ≤ R.frames) (hl : W + (4 + 11) + rm.locals ≤ R.locals) (hc : cells + rm.cells ≤ R.cells) (hs : slots + rm.slots ≤ R.slots)
    (k : ∀ v T' L', Stand p l e R s m args below meth c T' (locs ++ L') (cells + rm.cells) (slots + rm.slots) → Q v T'.heap L' → own_End p e below F (T'.setTop (mkF m pc' Ls (v.toList ++ rest)))) : own_End p e below F (T.setTop (mkF m pc Ls (x0 :: .ref b :: rest))) := by
  subst hp
  obtain ⟨cq, kq, q1, q2, q3⟩ := isOf hZ eT E
  obtain ⟨v, _, ⟨T', L0, k0, n0⟩, -, X', ⟨L', hQ, e1, e2, e3⟩, stp⟩ := X.virtualBack hx (y := (⟨"com/example/earnest_reactor/earnestreactor/core/ScheduledTask", "runsBefore", "(Lcom/example/earnest_reactor/earnestreactor/core/ScheduledTask;)Z"⟩ : MethodName)) (z := (⟨"com/example/earnest_reactor/earnestreactor/core/ScheduledTask", "runsBefore", "(Lcom/example/earnest_reactor/earnestreactor/core/ScheduledTask;)Z"⟩ : MethodName)) hown (mvT hZ (wd_76 hw)) (mvT hZ (wd_77 hw)) (notFace_of_selects (args := #[]) (mvT hZ (wd_79 hw))) (mvT hZ (wd_79 hw)) (mvT hZ (wd_78 hw)) (by decide) (backOf (W := W) hM hZ (wd_80 hw) (wd_7 hw) hf hl) q1 q3 (g := mkF m pc Ls (x0 :: .ref b :: rest)) rfl hsz (Steps.refl _) (argsL := [x0]) (rest := rest) (lenOf own_pd4 rfl) rfl (by show 2 * 0 + _ ≤ _; omega) (hb hby hd) (fun _ _ => ⟨rfl, eT, hc, hs⟩)
  dsimp only [Pt.U, Pt.locs, Pt.cells, Pt.slots] at X' e1 e2 e3 stp hQ
  subst e1 e2 e3
  exact own_trans stp (k v T' L' X' hQ)
set_option maxRecDepth 65536 in
theorem own_lk3 {p : Program} {l : Launch} {e : Env} {R : Room} {s : State} {m : MethodId} {args : Array Value} {below : List Frame} {meth : Method} {c : Code} {T : State} {locs : List Loc} {cells slots : Nat} {F : Option Value → State → Prop} {bs : ByteArray} {pc pc' : Nat} {Ls : Array Slot} {Z : State} {a0 : Array Value} {h : Heap} {x0 : Value} {x1 : Value} {b : Addr} {rest : List Value} {W : Nat} {rm : Room} {Q : Option Value → Heap → List Loc → Prop} (hw : ∀ d ∈ tables_1, d.before a0 Z = true) (X : Stand p l e R s m args below meth c T locs cells slots) (hx : p.tables.exec = Jvm.exec) (hZ : Z.Warmed39 s.vm) (hby : c.code = bs) (hsz : Ls.size = c.maxLocals) (hown : s.vm.findClass "com/example/earnest_reactor/earnestreactor/core/TimerQueue" = some m.cls) (hd : decode bs pc = .ok (.invokevirtual 40, 3)) (hp : pc + 3 = pc') (eT : T.heap = h) (E : Exa Z h b "com/example/earnest_reactor/earnestreactor/core/TimerQueue") (hW : (rest.map fun v => v.category).sum ≤ W)
    (hM : MetFree l (⟨"com/example/earnest_reactor/earnestreactor/core/TimerQueue", "siftDown", "(ILcom/example/earnest_reactor/earnestreactor/core/ScheduledTask;)V"⟩ : MethodName) (head1 [(Cond.code (⟨"com/example/earnest_reactor/earnestreactor/core/TimerQueue", "siftDown", "(ILcom/example/earnest_reactor/earnestreactor/core/ScheduledTask;)V"⟩ : MethodName) prog_35_method_9_code 6 none)] rm) (fun aa U => aa = #[.ref b, x0, x1] ∧ Z.Warmed39 U.vm ∧ U.heap = h) (fun _ _ _ _ _ => True) (fun _ U o U' => ∃ v L, o = .returned v ∧ Q v U'.heap L ∧ FrameEnd U o U' L rm.cells rm.slots)) (hf : rm.frames + 1 ≤ R.frames) (hl : W + (6 + 11) + rm.locals ≤ R.locals) (hc : cells + rm.cells ≤ R.cells) (hs : slots + rm.slots ≤ R.slots)
    (k : ∀ v T' L', Stand p l e R s m args below meth c T' (locs ++ L') (cells + rm.cells) (slots + rm.slots) → Q v T'.heap L' → own_End p e below F (T'.setTop (mkF m pc' Ls (v.toList ++ rest)))) : own_End p e below F (T.setTop (mkF m pc Ls (x1 :: x0 :: .ref b :: rest))) := by
  subst hp
  obtain ⟨cq, qa, qb⟩ := E.cell
  obtain ⟨v, _, ⟨T', L0, k0, n0⟩, -, X', ⟨L', hQ, e1, e2, e3⟩, stp⟩ := X.privateBack hx (y := (⟨"com/example/earnest_reactor/earnestreactor/core/TimerQueue", "siftDown", "(ILcom/example/earnest_reactor/earnestreactor/core/ScheduledTask;)V"⟩ : MethodName)) hown (mvT hZ (wd_81 hw)) (mvT hZ (wd_82 hw)) (own_selPriv (y := (⟨"com/example/earnest_reactor/earnestreactor/core/TimerQueue", "siftDown", "(ILcom/example/earnest_reactor/earnestreactor/core/ScheduledTask;)V"⟩ : MethodName)) (mvT hZ (wd_26 hw)) (Cond.privateMethod_at (mvP hZ (wd_83 hw) (args := #[]))) (mvT hZ (wd_82 hw)) (by decide)) (Cond.privateMethod_at (mvP hZ (wd_83 hw) (args := #[]))) (mvT hZ (wd_84 hw)) (by decide) (backOf (W := W) hM hZ (wd_84 hw) (wd_27 hw) hf hl) (g := mkF m pc Ls (x1 :: x0 :: .ref b :: rest)) rfl hsz (Steps.refl _) (a := b) (by rw [eT]; exact qa) qb (argsL := [x0, x1]) (rest := rest) (lenOf own_pd3 rfl) rfl (by show 2 * 0 + _ ≤ _; omega) (hb hby hd) (fun _ _ => ⟨rfl, eT, hc, hs⟩)
  dsimp only [Pt.U, Pt.locs, Pt.cells, Pt.slots] at X' e1 e2 e3 stp hQ
  subst e1 e2 e3
  exact own_trans stp (k v T' L' X' hQ)
set_option maxRecDepth 65536 in
theorem own_lk4 {p : Program} {l : Launch} {e : Env} {R : Room} {s : State} {m : MethodId} {args : Array Value} {below : List Frame} {meth : Method} {c : Code} {T : State} {locs : List Loc} {cells slots : Nat} {F : Option Value → State → Prop} {bs : ByteArray} {pc pc' : Nat} {Ls : Array Slot} {Z : State} {a0 : Array Value} {h : Heap} {x0 : Value} {x1 : Value} {b : Addr} {rest : List Value} {W : Nat} {rm : Room} {Q : Option Value → Heap → List Loc → Prop} (hw : ∀ d ∈ tables_1, d.before a0 Z = true) (X : Stand p l e R s m args below meth c T locs cells slots) (hx : p.tables.exec = Jvm.exec) (hZ : Z.Warmed39 s.vm) (hby : c.code = bs) (hsz : Ls.size = c.maxLocals) (hown : s.vm.findClass "com/example/earnest_reactor/earnestreactor/core/TimerQueue" = some m.cls) (hd : decode bs pc = .ok (.invokevirtual 26, 3)) (hp : pc + 3 = pc') (eT : T.heap = h) (E : Exa Z h b "com/example/earnest_reactor/earnestreactor/core/TimerQueue") (hW : (rest.map fun v => v.category).sum ≤ W)
    (hM : MetFree l (⟨"com/example/earnest_reactor/earnestreactor/core/TimerQueue", "siftUp", "(ILcom/example/earnest_reactor/earnestreactor/core/ScheduledTask;)V"⟩ : MethodName) (head1 [(Cond.code (⟨"com/example/earnest_reactor/earnestreactor/core/TimerQueue", "siftUp", "(ILcom/example/earnest_reactor/earnestreactor/core/ScheduledTask;)V"⟩ : MethodName) prog_35_method_8_code 5 none)] rm) (fun aa U => aa = #[.ref b, x0, x1] ∧ Z.Warmed39 U.vm ∧ U.heap = h) (fun _ _ _ _ _ => True) (fun _ U o U' => ∃ v L, o = .returned v ∧ Q v U'.heap L ∧ FrameEnd U o U' L rm.cells rm.slots)) (hf : rm.frames + 1 ≤ R.frames) (hl : W + (5 + 11) + rm.locals ≤ R.locals) (hc : cells + rm.cells ≤ R.cells) (hs : slots + rm.slots ≤ R.slots)
    (k : ∀ v T' L', Stand p l e R s m args below meth c T' (locs ++ L') (cells + rm.cells) (slots + rm.slots) → Q v T'.heap L' → own_End p e below F (T'.setTop (mkF m pc' Ls (v.toList ++ rest)))) : own_End p e below F (T.setTop (mkF m pc Ls (x1 :: x0 :: .ref b :: rest))) := by
  subst hp
  obtain ⟨cq, qa, qb⟩ := E.cell
  obtain ⟨v, _, ⟨T', L0, k0, n0⟩, -, X', ⟨L', hQ, e1, e2, e3⟩, stp⟩ := X.privateBack hx (y := (⟨"com/example/earnest_reactor/earnestreactor/core/TimerQueue", "siftUp", "(ILcom/example/earnest_reactor/earnestreactor/core/ScheduledTask;)V"⟩ : MethodName)) hown (mvT hZ (wd_51 hw)) (mvT hZ (wd_52 hw)) (own_selPriv (y := (⟨"com/example/earnest_reactor/earnestreactor/core/TimerQueue", "siftUp", "(ILcom/example/earnest_reactor/earnestreactor/core/ScheduledTask;)V"⟩ : MethodName)) (mvT hZ (wd_26 hw)) (Cond.privateMethod_at (mvP hZ (wd_53 hw) (args := #[]))) (mvT hZ (wd_52 hw)) (by decide)) (Cond.privateMethod_at (mvP hZ (wd_53 hw) (args := #[]))) (mvT hZ (wd_54 hw)) (by decide) (backOf (W := W) hM hZ (wd_54 hw) (wd_27 hw) hf hl) (g := mkF m pc Ls (x1 :: x0 :: .ref b :: rest)) rfl hsz (Steps.refl _) (a := b) (by rw [eT]; exact qa) qb (argsL := [x0, x1]) (rest := rest) (lenOf own_pd3 rfl) rfl (by show 2 * 0 + _ ≤ _; omega) (hb hby hd) (fun _ _ => ⟨rfl, eT, hc, hs⟩)
  dsimp only [Pt.U, Pt.locs, Pt.cells, Pt.slots] at X' e1 e2 e3 stp hQ
  subst e1 e2 e3
  exact own_trans stp (k v T' L' X' hQ)
set_option maxRecDepth 65536 in
theorem own_lk5 {p : Program} {l : Launch} {e : Env} {R : Room} {s : State} {m : MethodId} {args : Array Value} {below : List Frame} {meth : Method} {c : Code} {T : State} {locs : List Loc} {cells slots : Nat} {F : Option Value → State → Prop} {bs : ByteArray} {pc pc' : Nat} {Ls : Array Slot} {Z : State} {a0 : Array Value} {h : Heap} {x0 : Value} {b : Addr} {rest : List Value} {W : Nat} {rm : Room} {Q : Option Value → Heap → List Loc → Prop} (hw : ∀ d ∈ tables_1, d.before a0 Z = true) (X : Stand p l e R s m args below meth c T locs cells slots) (hx : p.tables.exec = Jvm.exec) (hZ : Z.Warmed39 s.vm) (hby : c.code = bs) (hsz : Ls.size = c.maxLocals) (hown : s.vm.findClass "com/example/earnest_reactor/earnestreactor/core/TimerQueue" = some m.cls) (hd : decode bs pc = .ok (.invokevirtual 30, 3)) (hp : pc + 3 = pc') (eT : T.heap = h) (E : Exa Z h b "com/example/earnest_reactor/earnestreactor/core/TimerQueue") (hW : (rest.map fun v => v.category).sum ≤ W)
    (hM : MetFree l (⟨"com/example/earnest_reactor/earnestreactor/core/TimerQueue", "removeAt", "(I)V"⟩ : MethodName) (head1 [(Cond.code (⟨"com/example/earnest_reactor/earnestreactor/core/TimerQueue", "removeAt", "(I)V"⟩ : MethodName) prog_35_method_7_code 4 none)] rm) (fun aa U => aa = #[.ref b, x0] ∧ Z.Warmed39 U.vm ∧ U.heap = h) (fun _ _ _ _ _ => True) (fun _ U o U' => ∃ v L, o = .returned v ∧ Q v U'.heap L ∧ FrameEnd U o U' L rm.cells rm.slots)) (hf : rm.frames + 1 ≤ R.frames) (hl : W + (4 + 11) + rm.locals ≤ R.locals) (hc : cells + rm.cells ≤ R.cells) (hs : slots + rm.slots ≤ R.slots)
    (k : ∀ v T' L', Stand p l e R s m args below meth c T' (locs ++ L') (cells + rm.cells) (slots + rm.slots) → Q v T'.heap L' → own_End p e below F (T'.setTop (mkF m pc' Ls (v.toList ++ rest)))) : own_End p e below F (T.setTop (mkF m pc Ls (x0 :: .ref b :: rest))) := by
  subst hp
  obtain ⟨cq, qa, qb⟩ := E.cell
  obtain ⟨v, _, ⟨T', L0, k0, n0⟩, -, X', ⟨L', hQ, e1, e2, e3⟩, stp⟩ := X.privateBack hx (y := (⟨"com/example/earnest_reactor/earnestreactor/core/TimerQueue", "removeAt", "(I)V"⟩ : MethodName)) hown (mvT hZ (wd_64 hw)) (mvT hZ (wd_65 hw)) (own_selPriv (y := (⟨"com/example/earnest_reactor/earnestreactor/core/TimerQueue", "removeAt", "(I)V"⟩ : MethodName)) (mvT hZ (wd_26 hw)) (Cond.privateMethod_at (mvP hZ (wd_66 hw) (args := #[]))) (mvT hZ (wd_65 hw)) (by decide)) (Cond.privateMethod_at (mvP hZ (wd_66 hw) (args := #[]))) (mvT hZ (wd_67 hw)) (by decide) (backOf (W := W) hM hZ (wd_67 hw) (wd_27 hw) hf hl) (g := mkF m pc Ls (x0 :: .ref b :: rest)) rfl hsz (Steps.refl _) (a := b) (by rw [eT]; exact qa) qb (argsL := [x0]) (rest := rest) (lenOf own_pd2 rfl) rfl (by show 2 * 0 + _ ≤ _; omega) (hb hby hd) (fun _ _ => ⟨rfl, eT, hc, hs⟩)
  dsimp only [Pt.U, Pt.locs, Pt.cells, Pt.slots] at X' e1 e2 e3 stp hQ
  subst e1 e2 e3
  exact own_trans stp (k v T' L' X' hQ)
set_option maxRecDepth 65536 in
theorem own_lk6 {p : Program} {l : Launch} {e : Env} {R : Room} {s : State} {m : MethodId} {args : Array Value} {below : List Frame} {meth : Method} {c : Code} {T : State} {locs : List Loc} {cells slots : Nat} {F : Option Value → State → Prop} {bs : ByteArray} {pc pc' : Nat} {Ls : Array Slot} {Z : State} {a0 : Array Value} {h : Heap} {x0 : Value} {x1 : Value} {x2 : Value} {x3 : Value} {rest : List Value} {W : Nat} {rm : Room} {Q : Option Value → Heap → List Loc → Prop} (hw : ∀ d ∈ tables_1, d.before a0 Z = true) (X : Stand p l e R s m args below meth c T locs cells slots) (hx : p.tables.exec = Jvm.exec) (hZ : Z.Warmed39 s.vm) (hby : c.code = bs) (hsz : Ls.size = c.maxLocals) (hown : s.vm.findClass "com/example/earnest_reactor/earnestreactor/core/TimerQueuePollPinLaw" = some m.cls) (hd : decode bs pc = .ok (.invokestatic 38, 3)) (hp : pc + 3 = pc') (eT : T.heap = h) (hW : (rest.map fun v => v.category).sum ≤ W)
    (hM : MetFree l (⟨"com/example/earnest_reactor/earnestreactor/core/TimerQueuePollPinLaw", "before", "([J[JII)Z"⟩ : MethodName) (head1 [(Cond.code (⟨"com/example/earnest_reactor/earnestreactor/core/TimerQueuePollPinLaw", "before", "([J[JII)Z"⟩ : MethodName) method_3_code 4 (some .boolean))] rm) (fun aa U => aa = #[x0, x1, x2, x3] ∧ Z.Warmed39 U.vm ∧ U.heap = h) (fun _ _ _ _ _ => True) (fun _ U o U' => ∃ v L, o = .returned v ∧ Q v U'.heap L ∧ FrameEnd U o U' L rm.cells rm.slots)) (hf : rm.frames + 1 ≤ R.frames) (hl : W + (4 + 11) + rm.locals ≤ R.locals) (hc : cells + rm.cells ≤ R.cells) (hs : slots + rm.slots ≤ R.slots)
    (k : ∀ v T' L', Stand p l e R s m args below meth c T' (locs ++ L') (cells + rm.cells) (slots + rm.slots) → Q v T'.heap L' → own_End p e below F (T'.setTop (mkF m pc' Ls (v.toList ++ rest)))) : own_End p e below F (T.setTop (mkF m pc Ls (x3 :: x2 :: x1 :: x0 :: rest))) := by
  subst hp
  obtain ⟨v, _, ⟨T', L0, k0, n0⟩, -, X', ⟨L', hQ, e1, e2, e3⟩, stp⟩ := Jvm.LawKit.callS X hx (y := (⟨"com/example/earnest_reactor/earnestreactor/core/TimerQueuePollPinLaw", "before", "([J[JII)Z"⟩ : MethodName)) hown (mvT hZ (wd_85 hw)) (mvT hZ (wd_86 hw)) (mvT hZ (wd_42 hw)) (mvT hZ (wd_87 hw)) (by decide) (backOf (W := W) hM hZ (wd_87 hw) (wd_42 hw) hf hl) (g := mkF m pc Ls (x3 :: x2 :: x1 :: x0 :: rest)) rfl hsz (argsL := [x0, x1, x2, x3]) (rest := rest) (lenOf own_pd6 rfl) rfl (by show 2 * 0 + _ ≤ _; omega) (hb hby hd) (fun _ _ => ⟨rfl, eT, hc, hs⟩)
  dsimp only [Pt.U, Pt.locs, Pt.cells, Pt.slots] at X' e1 e2 e3 stp hQ
  subst e1 e2 e3
  exact own_step stp (k v T' L' X' hQ)
set_option maxRecDepth 65536 in
theorem own_lk7 {p : Program} {l : Launch} {e : Env} {R : Room} {s : State} {m : MethodId} {args : Array Value} {below : List Frame} {meth : Method} {c : Code} {T : State} {locs : List Loc} {cells slots : Nat} {F : Option Value → State → Prop} {bs : ByteArray} {pc pc' : Nat} {Ls : Array Slot} {Z : State} {a0 : Array Value} {h : Heap} {x0 : Value} {x1 : Value} {x2 : Value} {x3 : Value} {rest : List Value} {W : Nat} {rm : Room} {Q : Option Value → Heap → List Loc → Prop} (hw : ∀ d ∈ tables_1, d.before a0 Z = true) (X : Stand p l e R s m args below meth c T locs cells slots) (hx : p.tables.exec = Jvm.exec) (hZ : Z.Warmed39 s.vm) (hby : c.code = bs) (hsz : Ls.size = c.maxLocals) (hown : s.vm.findClass "com/example/earnest_reactor/earnestreactor/core/TimerQueuePollPinLaw" = some m.cls) (hd : decode bs pc = .ok (.invokestatic 42, 3)) (hp : pc + 3 = pc') (eT : T.heap = h) (hW : (rest.map fun v => v.category).sum ≤ W)
    (hM : MetFree l (⟨"com/example/earnest_reactor/earnestreactor/core/TimerQueuePollPinLaw", "rank", "([J[JII)I"⟩ : MethodName) (head1 [(Cond.code (⟨"com/example/earnest_reactor/earnestreactor/core/TimerQueuePollPinLaw", "rank", "([J[JII)I"⟩ : MethodName) method_4_code 5 (some .int))] rm) (fun aa U => aa = #[x0, x1, x2, x3] ∧ Z.Warmed39 U.vm ∧ U.heap = h) (fun _ _ _ _ _ => True) (fun _ U o U' => ∃ v L, o = .returned v ∧ Q v U'.heap L ∧ FrameEnd U o U' L rm.cells rm.slots)) (hf : rm.frames + 1 ≤ R.frames) (hl : W + (5 + 11) + rm.locals ≤ R.locals) (hc : cells + rm.cells ≤ R.cells) (hs : slots + rm.slots ≤ R.slots)
    (k : ∀ v T' L', Stand p l e R s m args below meth c T' (locs ++ L') (cells + rm.cells) (slots + rm.slots) → Q v T'.heap L' → own_End p e below F (T'.setTop (mkF m pc' Ls (v.toList ++ rest)))) : own_End p e below F (T.setTop (mkF m pc Ls (x3 :: x2 :: x1 :: x0 :: rest))) := by
  subst hp
  obtain ⟨v, _, ⟨T', L0, k0, n0⟩, -, X', ⟨L', hQ, e1, e2, e3⟩, stp⟩ := Jvm.LawKit.callS X hx (y := (⟨"com/example/earnest_reactor/earnestreactor/core/TimerQueuePollPinLaw", "rank", "([J[JII)I"⟩ : MethodName)) hown (mvT hZ (wd_68 hw)) (mvT hZ (wd_69 hw)) (mvT hZ (wd_42 hw)) (mvT hZ (wd_70 hw)) (by decide) (backOf (W := W) hM hZ (wd_70 hw) (wd_42 hw) hf hl) (g := mkF m pc Ls (x3 :: x2 :: x1 :: x0 :: rest)) rfl hsz (argsL := [x0, x1, x2, x3]) (rest := rest) (lenOf own_pd7 rfl) rfl (by show 2 * 0 + _ ≤ _; omega) (hb hby hd) (fun _ _ => ⟨rfl, eT, hc, hs⟩)
  dsimp only [Pt.U, Pt.locs, Pt.cells, Pt.slots] at X' e1 e2 e3 stp hQ
  subst e1 e2 e3
  exact own_step stp (k v T' L' X' hQ)
set_option maxRecDepth 65536 in
theorem own_lk8 {p : Program} {l : Launch} {e : Env} {R : Room} {s : State} {m : MethodId} {args : Array Value} {below : List Frame} {meth : Method} {c : Code} {T : State} {locs : List Loc} {cells slots : Nat} {F : Option Value → State → Prop} {bs : ByteArray} {pc pc' : Nat} {Ls : Array Slot} {Z : State} {a0 : Array Value} {h : Heap} {b : Addr} {rest : List Value} {W : Nat} {rm : Room} {Q : Option Value → Heap → List Loc → Prop} (hw : ∀ d ∈ tables_1, d.before a0 Z = true) (X : Stand p l e R s m args below meth c T locs cells slots) (hx : p.tables.exec = Jvm.exec) (hZ : Z.Warmed39 s.vm) (hby : c.code = bs) (hsz : Ls.size = c.maxLocals) (hown : s.vm.findClass "com/example/earnest_reactor/earnestreactor/core/TimerQueuePollPinLaw" = some m.cls) (hd : decode bs pc = .ok (.invokevirtual 24, 3)) (hp : pc + 3 = pc') (eT : T.heap = h) (E : Exa Z h b "com/example/earnest_reactor/earnestreactor/core/TimerQueue") (hW : (rest.map fun v => v.category).sum ≤ W)
    (hM : MetFree l (⟨"com/example/earnest_reactor/earnestreactor/core/TimerQueue", "poll", "()Lcom/example/earnest_reactor/earnestreactor/core/ScheduledTask;"⟩ : MethodName) (head1 [(Cond.code (⟨"com/example/earnest_reactor/earnestreactor/core/TimerQueue", "poll", "()Lcom/example/earnest_reactor/earnestreactor/core/ScheduledTask;"⟩ : MethodName) prog_35_method_5_code 2 (some (.object "com/example/earnest_reactor/earnestreactor/core/ScheduledTask")))] rm) (fun aa U => aa = #[.ref b] ∧ Z.Warmed39 U.vm ∧ U.heap = h) (fun _ _ _ _ _ => True) (fun _ U o U' => ∃ v L, o = .returned v ∧ Q v U'.heap L ∧ FrameEnd U o U' L rm.cells rm.slots)) (hf : rm.frames + 1 ≤ R.frames) (hl : W + (2 + 11) + rm.locals ≤ R.locals) (hc : cells + rm.cells ≤ R.cells) (hs : slots + rm.slots ≤ R.slots)
    (k : ∀ v T' L', Stand p l e R s m args below meth c T' (locs ++ L') (cells + rm.cells) (slots + rm.slots) → Q v T'.heap L' → own_End p e below F (T'.setTop (mkF m pc' Ls (v.toList ++ rest)))) : own_End p e below F (T.setTop (mkF m pc Ls (.ref b :: rest))) := by
  subst hp
  obtain ⟨cq, kq, q1, q2, q3⟩ := isOf hZ eT E
  obtain ⟨v, _, ⟨T', L0, k0, n0⟩, -, X', ⟨L', hQ, e1, e2, e3⟩, stp⟩ := X.virtualBack hx (y := (⟨"com/example/earnest_reactor/earnestreactor/core/TimerQueue", "poll", "()Lcom/example/earnest_reactor/earnestreactor/core/ScheduledTask;"⟩ : MethodName)) (z := (⟨"com/example/earnest_reactor/earnestreactor/core/TimerQueue", "poll", "()Lcom/example/earnest_reactor/earnestreactor/core/ScheduledTask;"⟩ : MethodName)) hown (mvT hZ (wd_35 hw)) (mvT hZ (wd_36 hw)) (notFace_of_selects (args := #[]) (mvT hZ (wd_38 hw))) (mvT hZ (wd_38 hw)) (mvT hZ (wd_37 hw)) (by decide) (backOf (W := W) hM hZ (wd_39 hw) (wd_27 hw) hf hl) q1 q3 (g := mkF m pc Ls (.ref b :: rest)) rfl hsz (Steps.refl _) (argsL := []) (rest := rest) (lenOf own_pd8 rfl) rfl (by show 2 * 0 + _ ≤ _; omega) (hb hby hd) (fun _ _ => ⟨rfl, eT, hc, hs⟩)
  dsimp only [Pt.U, Pt.locs, Pt.cells, Pt.slots] at X' e1 e2 e3 stp hQ
  subst e1 e2 e3
  exact own_trans stp (k v T' L' X' hQ)
set_option maxRecDepth 65536 in
theorem own_lk9 {p : Program} {l : Launch} {e : Env} {R : Room} {s : State} {m : MethodId} {args : Array Value} {below : List Frame} {meth : Method} {c : Code} {T : State} {locs : List Loc} {cells slots : Nat} {F : Option Value → State → Prop} {bs : ByteArray} {pc pc' : Nat} {Ls : Array Slot} {Z : State} {a0 : Array Value} {h : Heap} {x0 : Value} {x1 : Value} {x2 : Value} {x3 : Value} {x4 : Value} {rest : List Value} {W : Nat} {rm : Room} {Q : Option Value → Heap → List Loc → Prop} (hw : ∀ d ∈ tables_1, d.before a0 Z = true) (X : Stand p l e R s m args below meth c T locs cells slots) (hx : p.tables.exec = Jvm.exec) (hZ : Z.Warmed39 s.vm) (hby : c.code = bs) (hsz : Ls.size = c.maxLocals) (hown : s.vm.findClass "com/example/earnest_reactor/earnestreactor/core/TimerQueuePollPinLaw" = some m.cls) (hd : decode bs pc = .ok (.invokestatic 28, 3)) (hp : pc + 3 = pc') (eT : T.heap = h) (hW : (rest.map fun v => v.category).sum ≤ W)
    (hM : MetFree l (⟨"com/example/earnest_reactor/earnestreactor/core/TimerQueuePollPinLaw", "expect", "([J[JII[Lcom/example/earnest_reactor/earnestreactor/core/ScheduledTask;)Lcom/example/earnest_reactor/earnestreactor/core/ScheduledTask;"⟩ : MethodName) (head1 [(Cond.code (⟨"com/example/earnest_reactor/earnestreactor/core/TimerQueuePollPinLaw", "expect", "([J[JII[Lcom/example/earnest_reactor/earnestreactor/core/ScheduledTask;)Lcom/example/earnest_reactor/earnestreactor/core/ScheduledTask;"⟩ : MethodName) method_5_code 5 (some (.object "com/example/earnest_reactor/earnestreactor/core/ScheduledTask")))] rm) (fun aa U => aa = #[x0, x1, x2, x3, x4] ∧ Z.Warmed39 U.vm ∧ U.heap = h) (fun _ _ _ _ _ => True) (fun _ U o U' => ∃ v L, o = .returned v ∧ Q v U'.heap L ∧ FrameEnd U o U' L rm.cells rm.slots)) (hf : rm.frames + 1 ≤ R.frames) (hl : W + (5 + 11) + rm.locals ≤ R.locals) (hc : cells + rm.cells ≤ R.cells) (hs : slots + rm.slots ≤ R.slots)
    (k : ∀ v T' L', Stand p l e R s m args below meth c T' (locs ++ L') (cells + rm.cells) (slots + rm.slots) → Q v T'.heap L' → own_End p e below F (T'.setTop (mkF m pc' Ls (v.toList ++ rest)))) : own_End p e below F (T.setTop (mkF m pc Ls (x4 :: x3 :: x2 :: x1 :: x0 :: rest))) := by
  subst hp
  obtain ⟨v, _, ⟨T', L0, k0, n0⟩, -, X', ⟨L', hQ, e1, e2, e3⟩, stp⟩ := Jvm.LawKit.callS X hx (y := (⟨"com/example/earnest_reactor/earnestreactor/core/TimerQueuePollPinLaw", "expect", "([J[JII[Lcom/example/earnest_reactor/earnestreactor/core/ScheduledTask;)Lcom/example/earnest_reactor/earnestreactor/core/ScheduledTask;"⟩ : MethodName)) hown (mvT hZ (wd_40 hw)) (mvT hZ (wd_41 hw)) (mvT hZ (wd_42 hw)) (mvT hZ (wd_43 hw)) (by decide) (backOf (W := W) hM hZ (wd_43 hw) (wd_42 hw) hf hl) (g := mkF m pc Ls (x4 :: x3 :: x2 :: x1 :: x0 :: rest)) rfl hsz (argsL := [x0, x1, x2, x3, x4]) (rest := rest) (lenOf own_pd9 rfl) rfl (by show 2 * 0 + _ ≤ _; omega) (hb hby hd) (fun _ _ => ⟨rfl, eT, hc, hs⟩)
  dsimp only [Pt.U, Pt.locs, Pt.cells, Pt.slots] at X' e1 e2 e3 stp hQ
  subst e1 e2 e3
  exact own_step stp (k v T' L' X' hQ)
set_option maxRecDepth 65536 in
theorem own_lk10 {p : Program} {l : Launch} {e : Env} {R : Room} {s : State} {m : MethodId} {args : Array Value} {below : List Frame} {meth : Method} {c : Code} {T : State} {locs : List Loc} {cells slots : Nat} {F : Option Value → State → Prop} {bs : ByteArray} {pc pc' : Nat} {Ls : Array Slot} {Z : State} {a0 : Array Value} {h : Heap} {x0 : Value} {b : Addr} {rest : List Value} {W : Nat} {rm : Room} {Q : Option Value → Heap → List Loc → Prop} (hw : ∀ d ∈ tables_1, d.before a0 Z = true) (X : Stand p l e R s m args below meth c T locs cells slots) (hx : p.tables.exec = Jvm.exec) (hZ : Z.Warmed39 s.vm) (hby : c.code = bs) (hsz : Ls.size = c.maxLocals) (hown : s.vm.findClass "com/example/earnest_reactor/earnestreactor/core/TimerQueuePollPinLaw" = some m.cls) (hd : decode bs pc = .ok (.invokevirtual 20, 3)) (hp : pc + 3 = pc') (eT : T.heap = h) (E : Exa Z h b "com/example/earnest_reactor/earnestreactor/core/TimerQueue") (hW : (rest.map fun v => v.category).sum ≤ W)
    (hM : MetFree l (⟨"com/example/earnest_reactor/earnestreactor/core/TimerQueue", "add", "(Lcom/example/earnest_reactor/earnestreactor/core/ScheduledTask;)V"⟩ : MethodName) (head1 [(Cond.code (⟨"com/example/earnest_reactor/earnestreactor/core/TimerQueue", "add", "(Lcom/example/earnest_reactor/earnestreactor/core/ScheduledTask;)V"⟩ : MethodName) prog_35_method_4_code 2 none)] rm) (fun aa U => aa = #[.ref b, x0] ∧ Z.Warmed39 U.vm ∧ U.heap = h) (fun _ _ _ _ _ => True) (fun _ U o U' => ∃ v L, o = .returned v ∧ Q v U'.heap L ∧ FrameEnd U o U' L rm.cells rm.slots)) (hf : rm.frames + 1 ≤ R.frames) (hl : W + (2 + 11) + rm.locals ≤ R.locals) (hc : cells + rm.cells ≤ R.cells) (hs : slots + rm.slots ≤ R.slots)
    (k : ∀ v T' L', Stand p l e R s m args below meth c T' (locs ++ L') (cells + rm.cells) (slots + rm.slots) → Q v T'.heap L' → own_End p e below F (T'.setTop (mkF m pc' Ls (v.toList ++ rest)))) : own_End p e below F (T.setTop (mkF m pc Ls (x0 :: .ref b :: rest))) := by
  subst hp
  obtain ⟨cq, kq, q1, q2, q3⟩ := isOf hZ eT E
  obtain ⟨v, _, ⟨T', L0, k0, n0⟩, -, X', ⟨L', hQ, e1, e2, e3⟩, stp⟩ := X.virtualBack hx (y := (⟨"com/example/earnest_reactor/earnestreactor/core/TimerQueue", "add", "(Lcom/example/earnest_reactor/earnestreactor/core/ScheduledTask;)V"⟩ : MethodName)) (z := (⟨"com/example/earnest_reactor/earnestreactor/core/TimerQueue", "add", "(Lcom/example/earnest_reactor/earnestreactor/core/ScheduledTask;)V"⟩ : MethodName)) hown (mvT hZ (wd_44 hw)) (mvT hZ (wd_45 hw)) (notFace_of_selects (args := #[]) (mvT hZ (wd_47 hw))) (mvT hZ (wd_47 hw)) (mvT hZ (wd_46 hw)) (by decide) (backOf (W := W) hM hZ (wd_48 hw) (wd_27 hw) hf hl) q1 q3 (g := mkF m pc Ls (x0 :: .ref b :: rest)) rfl hsz (Steps.refl _) (argsL := [x0]) (rest := rest) (lenOf own_pd10 rfl) rfl (by show 2 * 0 + _ ≤ _; omega) (hb hby hd) (fun _ _ => ⟨rfl, eT, hc, hs⟩)
  dsimp only [Pt.U, Pt.locs, Pt.cells, Pt.slots] at X' e1 e2 e3 stp hQ
  subst e1 e2 e3
  exact own_trans stp (k v T' L' X' hQ)
set_option maxRecDepth 65536 in
theorem own_lk11 {p : Program} {l : Launch} {e : Env} {R : Room} {s : State} {m : MethodId} {args : Array Value} {below : List Frame} {meth : Method} {c : Code} {T : State} {locs : List Loc} {cells slots : Nat} {F : Option Value → State → Prop} {bs : ByteArray} {pc pc' : Nat} {Ls : Array Slot} {Z : State} {a0 : Array Value} {h : Heap} {b : Addr} {rest : List Value} {W : Nat} {rm : Room} {Q : Option Value → Heap → List Loc → Prop} (hw : ∀ d ∈ tables_1, d.before a0 Z = true) (X : Stand p l e R s m args below meth c T locs cells slots) (hx : p.tables.exec = Jvm.exec) (hZ : Z.Warmed39 s.vm) (hby : c.code = bs) (hsz : Ls.size = c.maxLocals) (hown : s.vm.findClass "com/example/earnest_reactor/earnestreactor/core/TimerQueuePollPinLaw" = some m.cls) (hd : decode bs pc = .ok (.invokevirtual 34, 3)) (hp : pc + 3 = pc') (eT : T.heap = h) (E : Exa Z h b "com/example/earnest_reactor/earnestreactor/core/ScheduledTask") (hW : (rest.map fun v => v.category).sum ≤ W)
    (hM : MetFree l (⟨"com/example/earnest_reactor/earnestreactor/core/ScheduledTask", "queueIndex", "()I"⟩ : MethodName) (head1 [(Cond.code (⟨"com/example/earnest_reactor/earnestreactor/core/ScheduledTask", "queueIndex", "()I"⟩ : MethodName) prog_31_method_6_code 1 (some .int))] rm) (fun aa U => aa = #[.ref b] ∧ Z.Warmed39 U.vm ∧ U.heap = h) (fun _ _ _ _ _ => True) (fun _ U o U' => ∃ v L, o = .returned v ∧ Q v U'.heap L ∧ FrameEnd U o U' L rm.cells rm.slots)) (hf : rm.frames + 1 ≤ R.frames) (hl : W + (1 + 11) + rm.locals ≤ R.locals) (hc : cells + rm.cells ≤ R.cells) (hs : slots + rm.slots ≤ R.slots)
    (k : ∀ v T' L', Stand p l e R s m args below meth c T' (locs ++ L') (cells + rm.cells) (slots + rm.slots) → Q v T'.heap L' → own_End p e below F (T'.setTop (mkF m pc' Ls (v.toList ++ rest)))) : own_End p e below F (T.setTop (mkF m pc Ls (.ref b :: rest))) := by
  subst hp
  obtain ⟨cq, kq, q1, q2, q3⟩ := isOf hZ eT E
  obtain ⟨v, _, ⟨T', L0, k0, n0⟩, -, X', ⟨L', hQ, e1, e2, e3⟩, stp⟩ := X.virtualBack hx (y := (⟨"com/example/earnest_reactor/earnestreactor/core/ScheduledTask", "queueIndex", "()I"⟩ : MethodName)) (z := (⟨"com/example/earnest_reactor/earnestreactor/core/ScheduledTask", "queueIndex", "()I"⟩ : MethodName)) hown (mvT hZ (wd_71 hw)) (mvT hZ (wd_72 hw)) (notFace_of_selects (args := #[]) (mvT hZ (wd_74 hw))) (mvT hZ (wd_74 hw)) (mvT hZ (wd_73 hw)) (by decide) (backOf (W := W) hM hZ (wd_75 hw) (wd_7 hw) hf hl) q1 q3 (g := mkF m pc Ls (.ref b :: rest)) rfl hsz (Steps.refl _) (argsL := []) (rest := rest) (lenOf own_pd11 rfl) rfl (by show 2 * 0 + _ ≤ _; omega) (hb hby hd) (fun _ _ => ⟨rfl, eT, hc, hs⟩)
  dsimp only [Pt.U, Pt.locs, Pt.cells, Pt.slots] at X' e1 e2 e3 stp hQ
  subst e1 e2 e3
  exact own_trans stp (k v T' L' X' hQ)
set_option maxRecDepth 65536 in
theorem own_lk12 {p : Program} {l : Launch} {e : Env} {R : Room} {s : State} {m : MethodId} {args : Array Value} {below : List Frame} {meth : Method} {c : Code} {T : State} {locs : List Loc} {cells slots : Nat} {F : Option Value → State → Prop} {bs : ByteArray} {pc pc' : Nat} {Ls : Array Slot} {Z : State} {a0 : Array Value} {h : Heap} {x0 : Value} {x1 : Value} {x2 : Value} {x3 : Value} {b : Addr} {rest : List Value} {W : Nat} {rm : Room} {Q : Option Value → Heap → List Loc → Prop} (hw : ∀ d ∈ tables_1, d.before a0 Z = true) (X : Stand p l e R s m args below meth c T locs cells slots) (hx : p.tables.exec = Jvm.exec) (hZ : Z.Warmed39 s.vm) (hby : c.code = bs) (hsz : Ls.size = c.maxLocals) (hown : s.vm.findClass "com/example/earnest_reactor/earnestreactor/core/TimerQueuePollPinLaw" = some m.cls) (hd : decode bs pc = .ok (.invokespecial 14, 3)) (hp : pc + 3 = pc') (eT : T.heap = h) (hW : (rest.map fun v => v.category).sum ≤ W)
    (hM : MetFree l (⟨"com/example/earnest_reactor/earnestreactor/core/ScheduledTask", "<init>", "(Lcom/example/earnest_reactor/earnestreactor/core/EventLoop;JJLjava/lang/Runnable;)V"⟩ : MethodName) (head1 [(Cond.code (⟨"com/example/earnest_reactor/earnestreactor/core/ScheduledTask", "<init>", "(Lcom/example/earnest_reactor/earnestreactor/core/EventLoop;JJLjava/lang/Runnable;)V"⟩ : MethodName) prog_31_method_1_code 7 none)] rm) (fun aa U => aa = #[.ref b, x0, x1, x2, x3] ∧ Z.Warmed39 U.vm ∧ U.heap = h) (fun _ _ _ _ _ => True) (fun _ U o U' => ∃ v L, o = .returned v ∧ Q v U'.heap L ∧ FrameEnd U o U' L rm.cells rm.slots)) (hf : rm.frames + 1 ≤ R.frames) (hl : W + (7 + 11) + rm.locals ≤ R.locals) (hc : cells + rm.cells ≤ R.cells) (hs : slots + rm.slots ≤ R.slots)
    (k : ∀ v T' L', Stand p l e R s m args below meth c T' (locs ++ L') (cells + rm.cells) (slots + rm.slots) → Q v T'.heap L' → own_End p e below F (T'.setTop (mkF m pc' Ls (v.toList ++ rest)))) : own_End p e below F (T.setTop (mkF m pc Ls (x3 :: x2 :: x1 :: x0 :: .ref b :: rest))) := by
  subst hp
  obtain ⟨v, _, ⟨T', L0, k0, n0⟩, -, X', ⟨L', hQ, e1, e2, e3⟩, stp⟩ := X.specialBack hx (y := (⟨"com/example/earnest_reactor/earnestreactor/core/ScheduledTask", "<init>", "(Lcom/example/earnest_reactor/earnestreactor/core/EventLoop;JJLjava/lang/Runnable;)V"⟩ : MethodName)) rfl hown (mvT hZ (wd_8 hw)) (mvT hZ (wd_9 hw)) (mvT hZ (wd_10 hw)) (by decide) (backOf (W := W) hM hZ (wd_10 hw) (wd_7 hw) hf hl) (g := mkF m pc Ls (x3 :: x2 :: x1 :: x0 :: .ref b :: rest)) rfl hsz (Steps.refl _) (a := b) (argsL := [x0, x1, x2, x3]) (rest := rest) (lenOf own_pd12 rfl) rfl (by show 2 * 0 + _ ≤ _; omega) (hb hby hd) (fun _ _ => ⟨rfl, eT, hc, hs⟩)
  dsimp only [Pt.U, Pt.locs, Pt.cells, Pt.slots] at X' e1 e2 e3 stp hQ
  subst e1 e2 e3
  exact own_trans stp (k v T' L' X' hQ)
set_option maxRecDepth 65536 in
theorem own_lk13 {p : Program} {l : Launch} {e : Env} {R : Room} {s : State} {m : MethodId} {args : Array Value} {below : List Frame} {meth : Method} {c : Code} {T : State} {locs : List Loc} {cells slots : Nat} {F : Option Value → State → Prop} {bs : ByteArray} {pc pc' : Nat} {Ls : Array Slot} {Z : State} {a0 : Array Value} {h : Heap} {b : Addr} {rest : List Value} {W : Nat} {rm : Room} {Q : Option Value → Heap → List Loc → Prop} (hw : ∀ d ∈ tables_1, d.before a0 Z = true) (X : Stand p l e R s m args below meth c T locs cells slots) (hx : p.tables.exec = Jvm.exec) (hZ : Z.Warmed39 s.vm) (hby : c.code = bs) (hsz : Ls.size = c.maxLocals) (hown : s.vm.findClass "com/example/earnest_reactor/earnestreactor/core/TimerQueuePollPinLaw" = some m.cls) (hd : decode bs pc = .ok (.invokespecial 19, 3)) (hp : pc + 3 = pc') (eT : T.heap = h) (hW : (rest.map fun v => v.category).sum ≤ W)
    (hM : MetFree l (⟨"com/example/earnest_reactor/earnestreactor/core/TimerQueue", "<init>", "()V"⟩ : MethodName) (head1 [(Cond.code (⟨"com/example/earnest_reactor/earnestreactor/core/TimerQueue", "<init>", "()V"⟩ : MethodName) prog_35_method_1_code 1 none)] rm) (fun aa U => aa = #[.ref b] ∧ Z.Warmed39 U.vm ∧ U.heap = h) (fun _ _ _ _ _ => True) (fun _ U o U' => ∃ v L, o = .returned v ∧ Q v U'.heap L ∧ FrameEnd U o U' L rm.cells rm.slots)) (hf : rm.frames + 1 ≤ R.frames) (hl : W + (1 + 11) + rm.locals ≤ R.locals) (hc : cells + rm.cells ≤ R.cells) (hs : slots + rm.slots ≤ R.slots)
    (k : ∀ v T' L', Stand p l e R s m args below meth c T' (locs ++ L') (cells + rm.cells) (slots + rm.slots) → Q v T'.heap L' → own_End p e below F (T'.setTop (mkF m pc' Ls (v.toList ++ rest)))) : own_End p e below F (T.setTop (mkF m pc Ls (.ref b :: rest))) := by
  subst hp
  obtain ⟨v, _, ⟨T', L0, k0, n0⟩, -, X', ⟨L', hQ, e1, e2, e3⟩, stp⟩ := X.specialBack hx (y := (⟨"com/example/earnest_reactor/earnestreactor/core/TimerQueue", "<init>", "()V"⟩ : MethodName)) rfl hown (mvT hZ (wd_28 hw)) (mvT hZ (wd_29 hw)) (mvT hZ (wd_30 hw)) (by decide) (backOf (W := W) hM hZ (wd_30 hw) (wd_27 hw) hf hl) (g := mkF m pc Ls (.ref b :: rest)) rfl hsz (Steps.refl _) (a := b) (argsL := []) (rest := rest) (lenOf own_pd13 rfl) rfl (by show 2 * 0 + _ ≤ _; omega) (hb hby hd) (fun _ _ => ⟨rfl, eT, hc, hs⟩)
  dsimp only [Pt.U, Pt.locs, Pt.cells, Pt.slots] at X' e1 e2 e3 stp hQ
  subst e1 e2 e3
  exact own_trans stp (k v T' L' X' hQ)

def own_TK (Z : State) (h : Heap) (a : Addr) (v0 : Value) (v1 : Int64) (v2 : Int64) (v3 : Value) (v4 : Int32) : Prop := Exa Z h a "com/example/earnest_reactor/earnestreactor/core/ScheduledTask" ∧ Fld Z h a "com/example/earnest_reactor/earnestreactor/core/ScheduledTask" "loop" "Lcom/example/earnest_reactor/earnestreactor/core/EventLoop;" v0 ∧ Fld Z h a "com/example/earnest_reactor/earnestreactor/core/ScheduledTask" "deadline" "J" (.long v1) ∧ Fld Z h a "com/example/earnest_reactor/earnestreactor/core/ScheduledTask" "sequence" "J" (.long v2) ∧ Fld Z h a "com/example/earnest_reactor/earnestreactor/core/ScheduledTask" "task" "Ljava/lang/Runnable;" v3 ∧ Fld Z h a "com/example/earnest_reactor/earnestreactor/core/ScheduledTask" "queueIndex" "I" (.int v4)
theorem own_TK.ext {Z : State} {h h' : Heap} {a : Addr} {v0 : Value} {v1 : Int64} {v2 : Int64} {v3 : Value} {v4 : Int32} (O : own_TK Z h a v0 v1 v2 v3 v4) (X : Ext h h') : own_TK Z h' a v0 v1 v2 v3 v4 := by
  obtain ⟨E, F0, F1, F2, F3, F4⟩ := O
  exact ⟨E.ext X, F0.ext X, F1.ext X, F2.ext X, F3.ext X, F4.ext X⟩
theorem own_TK.keep {Z : State} {h h' : Heap} {a : Addr} {v0 : Value} {v1 : Int64} {v2 : Int64} {v3 : Value} {v4 : Int32} (O : own_TK Z h a v0 v1 v2 v3 v4) {ws : List Addr} (K : Keep h h' ws) (q : a ∉ ws) : own_TK Z h' a v0 v1 v2 v3 v4 := by
  obtain ⟨E, F0, F1, F2, F3, F4⟩ := O
  exact ⟨E.keep K, F0.keep K q, F1.keep K q, F2.keep K q, F3.keep K q, F4.keep K q⟩
theorem own_TK.other {Z : State} {h h' : Heap} {a : Addr} {v0 : Value} {v1 : Int64} {v2 : Int64} {v3 : Value} {v4 : Int32} (O : own_TK Z h a v0 v1 v2 v3 v4) {b : Addr} {sl : Nat} {v : Value} (W : Wr h h' b sl v) (q : a ≠ b) : own_TK Z h' a v0 v1 v2 v3 v4 := by
  obtain ⟨E, F0, F1, F2, F3, F4⟩ := O
  exact ⟨E.wr W, F0.other W (Or.inl q), F1.other W (Or.inl q), F2.other W (Or.inl q), F3.other W (Or.inl q), F4.other W (Or.inl q)⟩
theorem own_TK.lt {Z : State} {h : Heap} {a : Addr} {v0 : Value} {v1 : Int64} {v2 : Int64} {v3 : Value} {v4 : Int32} (O : own_TK Z h a v0 v1 v2 v3 v4) : a < h.size := by
  obtain ⟨E, F0, F1, F2, F3, F4⟩ := O
  exact E.lt
def own_TQ (Z : State) (h : Heap) (a : Addr) (v0 : Value) (v1 : Int32) : Prop := Exa Z h a "com/example/earnest_reactor/earnestreactor/core/TimerQueue" ∧ Fld Z h a "com/example/earnest_reactor/earnestreactor/core/TimerQueue" "heap" "[Lcom/example/earnest_reactor/earnestreactor/core/ScheduledTask;" v0 ∧ Fld Z h a "com/example/earnest_reactor/earnestreactor/core/TimerQueue" "size" "I" (.int v1)
theorem own_TQ.ext {Z : State} {h h' : Heap} {a : Addr} {v0 : Value} {v1 : Int32} (O : own_TQ Z h a v0 v1) (X : Ext h h') : own_TQ Z h' a v0 v1 := by
  obtain ⟨E, F0, F1⟩ := O
  exact ⟨E.ext X, F0.ext X, F1.ext X⟩
theorem own_TQ.keep {Z : State} {h h' : Heap} {a : Addr} {v0 : Value} {v1 : Int32} (O : own_TQ Z h a v0 v1) {ws : List Addr} (K : Keep h h' ws) (q : a ∉ ws) : own_TQ Z h' a v0 v1 := by
  obtain ⟨E, F0, F1⟩ := O
  exact ⟨E.keep K, F0.keep K q, F1.keep K q⟩
theorem own_TQ.other {Z : State} {h h' : Heap} {a : Addr} {v0 : Value} {v1 : Int32} (O : own_TQ Z h a v0 v1) {b : Addr} {sl : Nat} {v : Value} (W : Wr h h' b sl v) (q : a ≠ b) : own_TQ Z h' a v0 v1 := by
  obtain ⟨E, F0, F1⟩ := O
  exact ⟨E.wr W, F0.other W (Or.inl q), F1.other W (Or.inl q)⟩
theorem own_TQ.lt {Z : State} {h : Heap} {a : Addr} {v0 : Value} {v1 : Int32} (O : own_TQ Z h a v0 v1) : a < h.size := by
  obtain ⟨E, F0, F1⟩ := O
  exact E.lt
def own_rb (dx sx dy sy : Int64) : Int32 := if dx - dy < (0 : Int64) then 1 else if dx - dy = (0 : Int64) then (if sx < sy then 1 else 0) else 0
theorem own_rb0 {dx sx dy sy : Int64} (h : ¬ own_rb dx sx dy sy = (1 : Int32)) : own_rb dx sx dy sy = (0 : Int32) := by
  unfold own_rb at h ⊢
  split at h
  · exact absurd rfl h
  · split at h
    · split at h
      · exact absurd rfl h
      · rename_i a b c; simp [a, b, c]
    · rename_i a b; simp [a, b]
theorem own_ef_rmNT (m : MethodId) (a : Addr) (p1 : Int64) (p2 : Int64)  : entryFrame m #[(.ref a), .null, (.long p1), (.long p2), .null] 7 = mkF m 0 #[.val (.ref a), .val .null, .val (.long p1), .second, .val (.long p2), .second, .val .null] [] := by first | (simp [entryFrame, mkF, argsToLocals, Value.category]; done) | rfl
def QNT (Z : State) (a : Addr) (p1 : Int64) (p2 : Int64) (h0 : Heap) (n0 : Nat) (v : Option Value) (h : Heap) (L : List Loc) : Prop := v = none ∧ Fr n0 L ∧ Keep h0 h [a] ∧ own_TK Z h a .null p1 p2 .null (-1 : Int32)
set_option maxRecDepth 65536 in
set_option maxHeartbeats 40000000 in
theorem rmNT (l : Launch) (Z : State) (a0 : Array Value) (hw : ∀ d ∈ tables_1, d.before a0 Z = true) (ws : List Jvm.Cond) (a : Addr) (p1 : Int64) (p2 : Int64) (h0 : Heap) (n0 : Nat) (Z0 : n0 ≤ h0.size) (f_O_a : own_TK Z h0 a .null (0 : Int64) (0 : Int64) .null (0 : Int32)) (ge_a : n0 ≤ a) :
    MetFree l (⟨"com/example/earnest_reactor/earnestreactor/core/ScheduledTask", "<init>", "(Lcom/example/earnest_reactor/earnestreactor/core/EventLoop;JJLjava/lang/Runnable;)V"⟩ : MethodName) (head1 (Jvm.Cond.code (⟨"com/example/earnest_reactor/earnestreactor/core/ScheduledTask", "<init>", "(Lcom/example/earnest_reactor/earnestreactor/core/EventLoop;JJLjava/lang/Runnable;)V"⟩ : MethodName) prog_31_method_1_code 7 none :: ws) ({ frames := 1, cells := 0, slots := 0, locals := 12 } : Room)) (fun aa U => aa = #[(.ref a), .null, (.long p1), (.long p2), .null] ∧ Z.Warmed39 U.vm ∧ U.heap = h0) (fun _ _ _ _ _ => True) (fun _ U oc U' => ∃ v L, oc = .returned v ∧ QNT Z a p1 p2 h0 n0 v U'.heap L ∧ FrameEnd U oc U' L ({ frames := 1, cells := 0, slots := 0, locals := 12 } : Room).cells ({ frames := 1, cells := 0, slots := 0, locals := 12 } : Room).slots) := by
  refine MetFree.of_bodySF (plainFor_of_name own_pn0) hisR ?_
  intro p e s m args below meth c s₁ Bd hml0 hP hK
  obtain ⟨rfl, hZ, hh⟩ := hP
  have hx := Bd.exec
  have hby := Bd.bytes
  have hlk := Bd.notSynchronized
  have hret := Bd.returns
  have hml : c.maxLocals = 7 := hml0
  have hown : s.vm.findClass "com/example/earnest_reactor/earnestreactor/core/ScheduledTask" = some m.cls := findClass_of_methodNamed Bd.named
  have hnm := (name_of_methodNamed Bd.named Bd.method).1
  have X0 : Stand p l e ({ frames := 1, cells := 0, slots := 0, locals := 12 } : Room) s m #[(.ref a), .null, (.long p1), (.long p2), .null] below meth c s₁ [] 0 0 := Stand.of_body Bd
  have e0 : s₁.heap = h0 := by rw [← hh, Bd.state]; rfl
  have N0 := Fr.nil n0
  refine own_body (Q := QNT Z a p1 p2 h0 n0) (KC := ({ frames := 1, cells := 0, slots := 0, locals := 12 } : Room).cells) (KS := ({ frames := 1, cells := 0, slots := 0, locals := 12 } : Room).slots) ?_
  rw [own_ef_rmNT m a p1 p2]
  have Kp : Keep h0 h0 [a] := Keep.refl h0 _
  refine own_aloadN X0 hx hby d1_0 (pc' := 1) rfl rfl rfl ?_
  refine own_init X0 hx hZ hby hown (wd_11 hw) (wd_12 hw) (wd_13 hw) e0 (by rw [hml]; rfl) d1_1 (pc' := 4) rfl (by decide) (W := 0) (Nat.le_of_eq rfl) (by decide) (fun T1 X1 e1 => ?_)
  refine own_aloadN X1 hx hby d1_4 (pc' := 5) rfl rfl rfl ?_
  refine own_iconst X1 hx hby d1_5 (pc' := 6) rfl (n := (-1 : Int32)) (by decide) ?_
  obtain ⟨f_E_a, f_F_a_loop, f_F_a_deadline, f_F_a_sequence, f_F_a_task, f_F_a_queueIndex⟩ := f_O_a
  refine own_putF X1 hx hZ hby hown (host := "") (Or.inl (wd_14 hw)) Via.refl e1 f_F_a_queueIndex f_E_a (Or.inl (wd_15 hw)) (wd_6 hw) (ty := .int) (by decide) rfl rfl d1_6 (pc' := 9) rfl (fun T2 h2 X2 e2 W2 => ?_)
  have f_F_a_queueIndex := f_F_a_queueIndex.same W2
  have f_E_a := f_E_a.wr W2
  have f_F_a_loop := f_F_a_loop.other W2 (Or.inr (slot_ne (Or.inr (wd_17 hw)) (Or.inl (wd_15 hw)) (by decide) (t := (.object "com/example/earnest_reactor/earnestreactor/core/EventLoop")) (t' := .int) (by decide) (by decide)))
  have f_F_a_deadline := f_F_a_deadline.other W2 (Or.inr (slot_ne (Or.inr (wd_19 hw)) (Or.inl (wd_15 hw)) (by decide) (t := .long) (t' := .int) (by decide) (by decide)))
  have f_F_a_sequence := f_F_a_sequence.other W2 (Or.inr (slot_ne (Or.inr (wd_21 hw)) (Or.inl (wd_15 hw)) (by decide) (t := .long) (t' := .int) (by decide) (by decide)))
  have f_F_a_task := f_F_a_task.other W2 (Or.inr (slot_ne (Or.inr (wd_23 hw)) (Or.inl (wd_15 hw)) (by decide) (t := (.object "java/lang/Runnable")) (t' := .int) (by decide) (by decide)))
  have Zn := Nat.le_trans Z0 (Keep.of_wr W2).1
  have Kp := Kp.wr W2 (Or.inl (List.mem_of_getElem? (i := 0) rfl))
  have N2 := Fr.snoc X2 N0 ge_a
  refine own_aloadN X2 hx hby d1_9 (pc' := 10) rfl rfl rfl ?_
  refine own_aloadN X2 hx hby d1_10 (pc' := 11) rfl rfl rfl ?_
  refine own_putF X2 hx hZ hby hown (host := "") (Or.inl (wd_16 hw)) Via.refl e2 f_F_a_loop f_E_a (Or.inr ⟨(wd_17 hw), rfl, hnm⟩) (wd_6 hw) (ty := (.object "com/example/earnest_reactor/earnestreactor/core/EventLoop")) (by decide) rfl rfl d1_11 (pc' := 14) rfl (fun T3 h3 X3 e3 W3 => ?_)
  have f_F_a_loop := f_F_a_loop.same W3
  have f_E_a := f_E_a.wr W3
  have f_F_a_deadline := f_F_a_deadline.other W3 (Or.inr (slot_ne (Or.inr (wd_19 hw)) (Or.inr (wd_17 hw)) (by decide) (t := .long) (t' := (.object "com/example/earnest_reactor/earnestreactor/core/EventLoop")) (by decide) (by decide)))
  have f_F_a_sequence := f_F_a_sequence.other W3 (Or.inr (slot_ne (Or.inr (wd_21 hw)) (Or.inr (wd_17 hw)) (by decide) (t := .long) (t' := (.object "com/example/earnest_reactor/earnestreactor/core/EventLoop")) (by decide) (by decide)))
  have f_F_a_task := f_F_a_task.other W3 (Or.inr (slot_ne (Or.inr (wd_23 hw)) (Or.inr (wd_17 hw)) (by decide) (t := (.object "java/lang/Runnable")) (t' := (.object "com/example/earnest_reactor/earnestreactor/core/EventLoop")) (by decide) (by decide)))
  have f_F_a_queueIndex := f_F_a_queueIndex.other W3 (Or.inr (slot_ne (Or.inl (wd_15 hw)) (Or.inr (wd_17 hw)) (by decide) (t := .int) (t' := (.object "com/example/earnest_reactor/earnestreactor/core/EventLoop")) (by decide) (by decide)))
  have Zn := Nat.le_trans Zn (Keep.of_wr W3).1
  have Kp := Kp.wr W3 (Or.inl (List.mem_of_getElem? (i := 0) rfl))
  have N3 := Fr.snoc X3 N2 ge_a
  refine own_aloadN X3 hx hby d1_14 (pc' := 15) rfl rfl rfl ?_
  refine own_lloadN X3 hx hby d1_15 (pc' := 16) rfl rfl ?_
  refine own_putF X3 hx hZ hby hown (host := "") (Or.inl (wd_18 hw)) Via.refl e3 f_F_a_deadline f_E_a (Or.inr ⟨(wd_19 hw), rfl, hnm⟩) (wd_6 hw) (ty := .long) (by decide) rfl rfl d1_16 (pc' := 19) rfl (fun T4 h4 X4 e4 W4 => ?_)
  have f_F_a_deadline := f_F_a_deadline.same W4
  have f_E_a := f_E_a.wr W4
  have f_F_a_loop := f_F_a_loop.other W4 (Or.inr (slot_ne (Or.inr (wd_17 hw)) (Or.inr (wd_19 hw)) (by decide) (t := (.object "com/example/earnest_reactor/earnestreactor/core/EventLoop")) (t' := .long) (by decide) (by decide)))
  have f_F_a_sequence := f_F_a_sequence.other W4 (Or.inr (slot_ne (Or.inr (wd_21 hw)) (Or.inr (wd_19 hw)) (by decide) (t := .long) (t' := .long) (by decide) (by decide)))
  have f_F_a_task := f_F_a_task.other W4 (Or.inr (slot_ne (Or.inr (wd_23 hw)) (Or.inr (wd_19 hw)) (by decide) (t := (.object "java/lang/Runnable")) (t' := .long) (by decide) (by decide)))
  have f_F_a_queueIndex := f_F_a_queueIndex.other W4 (Or.inr (slot_ne (Or.inl (wd_15 hw)) (Or.inr (wd_19 hw)) (by decide) (t := .int) (t' := .long) (by decide) (by decide)))
  have Zn := Nat.le_trans Zn (Keep.of_wr W4).1
  have Kp := Kp.wr W4 (Or.inl (List.mem_of_getElem? (i := 0) rfl))
  have N4 := Fr.snoc X4 N3 ge_a
  refine own_aloadN X4 hx hby d1_19 (pc' := 20) rfl rfl rfl ?_
  refine own_lload X4 hx hby d1_20 (pc' := 22) rfl rfl ?_
  refine own_putF X4 hx hZ hby hown (host := "") (Or.inl (wd_20 hw)) Via.refl e4 f_F_a_sequence f_E_a (Or.inr ⟨(wd_21 hw), rfl, hnm⟩) (wd_6 hw) (ty := .long) (by decide) rfl rfl d1_22 (pc' := 25) rfl (fun T5 h5 X5 e5 W5 => ?_)
  have f_F_a_sequence := f_F_a_sequence.same W5
  have f_E_a := f_E_a.wr W5
  have f_F_a_loop := f_F_a_loop.other W5 (Or.inr (slot_ne (Or.inr (wd_17 hw)) (Or.inr (wd_21 hw)) (by decide) (t := (.object "com/example/earnest_reactor/earnestreactor/core/EventLoop")) (t' := .long) (by decide) (by decide)))
  have f_F_a_deadline := f_F_a_deadline.other W5 (Or.inr (slot_ne (Or.inr (wd_19 hw)) (Or.inr (wd_21 hw)) (by decide) (t := .long) (t' := .long) (by decide) (by decide)))
  have f_F_a_task := f_F_a_task.other W5 (Or.inr (slot_ne (Or.inr (wd_23 hw)) (Or.inr (wd_21 hw)) (by decide) (t := (.object "java/lang/Runnable")) (t' := .long) (by decide) (by decide)))
  have f_F_a_queueIndex := f_F_a_queueIndex.other W5 (Or.inr (slot_ne (Or.inl (wd_15 hw)) (Or.inr (wd_21 hw)) (by decide) (t := .int) (t' := .long) (by decide) (by decide)))
  have Zn := Nat.le_trans Zn (Keep.of_wr W5).1
  have Kp := Kp.wr W5 (Or.inl (List.mem_of_getElem? (i := 0) rfl))
  have N5 := Fr.snoc X5 N4 ge_a
  refine own_aloadN X5 hx hby d1_25 (pc' := 26) rfl rfl rfl ?_
  refine own_aload X5 hx hby d1_26 (pc' := 28) rfl rfl rfl ?_
  refine own_putF X5 hx hZ hby hown (host := "") (Or.inl (wd_22 hw)) Via.refl e5 f_F_a_task f_E_a (Or.inr ⟨(wd_23 hw), rfl, hnm⟩) (wd_6 hw) (ty := (.object "java/lang/Runnable")) (by decide) rfl rfl d1_28 (pc' := 31) rfl (fun T6 h6 X6 e6 W6 => ?_)
  have f_F_a_task := f_F_a_task.same W6
  have f_E_a := f_E_a.wr W6
  have f_F_a_loop := f_F_a_loop.other W6 (Or.inr (slot_ne (Or.inr (wd_17 hw)) (Or.inr (wd_23 hw)) (by decide) (t := (.object "com/example/earnest_reactor/earnestreactor/core/EventLoop")) (t' := (.object "java/lang/Runnable")) (by decide) (by decide)))
  have f_F_a_deadline := f_F_a_deadline.other W6 (Or.inr (slot_ne (Or.inr (wd_19 hw)) (Or.inr (wd_23 hw)) (by decide) (t := .long) (t' := (.object "java/lang/Runnable")) (by decide) (by decide)))
  have f_F_a_sequence := f_F_a_sequence.other W6 (Or.inr (slot_ne (Or.inr (wd_21 hw)) (Or.inr (wd_23 hw)) (by decide) (t := .long) (t' := (.object "java/lang/Runnable")) (by decide) (by decide)))
  have f_F_a_queueIndex := f_F_a_queueIndex.other W6 (Or.inr (slot_ne (Or.inl (wd_15 hw)) (Or.inr (wd_23 hw)) (by decide) (t := .int) (t' := (.object "java/lang/Runnable")) (by decide) (by decide)))
  have Zn := Nat.le_trans Zn (Keep.of_wr W6).1
  have Kp := Kp.wr W6 (Or.inl (List.mem_of_getElem? (i := 0) rfl))
  have N6 := Fr.snoc X6 N5 ge_a
  refine own_return X6 hx hlk hby hret d1_31 (own_lv ?_ (by decide) (by decide))
  show QNT Z a p1 p2  h0 n0 none T6.heap _
  rw [e6]
  exact ⟨rfl, N6, Kp, ⟨f_E_a, f_F_a_loop, f_F_a_deadline, f_F_a_sequence, f_F_a_task, f_F_a_queueIndex⟩⟩
theorem own_ef_rmNQ (m : MethodId) (a : Addr)  : entryFrame m #[(.ref a)] 1 = mkF m 0 #[.val (.ref a)] [] := by first | (simp [entryFrame, mkF, argsToLocals, Value.category]; done) | rfl
def QNQ (Z : State) (a : Addr) (h0 : Heap) (n0 : Nat) (v : Option Value) (h : Heap) (L : List Loc) : Prop := v = none ∧ Fr n0 L ∧ Keep h0 h [a] ∧ ∃ (w : Addr) (kk : ClassId), h0.size ≤ w ∧ own_TQ Z h a (.ref w) 0 ∧ Arv Z h w kk (.object "com/example/earnest_reactor/earnestreactor/core/ScheduledTask") (16 : Int32) [.null, .null, .null] .null ∧ Ovr Z kk "com/example/earnest_reactor/earnestreactor/core/ScheduledTask"
set_option maxRecDepth 65536 in
set_option maxHeartbeats 40000000 in
theorem rmNQ (l : Launch) (Z : State) (a0 : Array Value) (hw : ∀ d ∈ tables_1, d.before a0 Z = true) (ws : List Jvm.Cond) (a : Addr) (h0 : Heap) (n0 : Nat) (Z0 : n0 ≤ h0.size) (f_O_a : own_TQ Z h0 a .null (0 : Int32)) (ge_a : n0 ≤ a) :
    MetFree l (⟨"com/example/earnest_reactor/earnestreactor/core/TimerQueue", "<init>", "()V"⟩ : MethodName) (head1 (Jvm.Cond.code (⟨"com/example/earnest_reactor/earnestreactor/core/TimerQueue", "<init>", "()V"⟩ : MethodName) prog_35_method_1_code 1 none :: ws) ({ frames := 1, cells := 1, slots := 16, locals := 12 } : Room)) (fun aa U => aa = #[(.ref a)] ∧ Z.Warmed39 U.vm ∧ U.heap = h0) (fun _ _ _ _ _ => True) (fun _ U oc U' => ∃ v L, oc = .returned v ∧ QNQ Z a h0 n0 v U'.heap L ∧ FrameEnd U oc U' L ({ frames := 1, cells := 1, slots := 16, locals := 12 } : Room).cells ({ frames := 1, cells := 1, slots := 16, locals := 12 } : Room).slots) := by
  refine MetFree.of_bodySF (plainFor_of_name own_pn1) hisR ?_
  intro p e s m args below meth c s₁ Bd hml0 hP hK
  obtain ⟨rfl, hZ, hh⟩ := hP
  have hx := Bd.exec
  have hby := Bd.bytes
  have hlk := Bd.notSynchronized
  have hret := Bd.returns
  have hml : c.maxLocals = 1 := hml0
  have hown : s.vm.findClass "com/example/earnest_reactor/earnestreactor/core/TimerQueue" = some m.cls := findClass_of_methodNamed Bd.named
  have hnm := (name_of_methodNamed Bd.named Bd.method).1
  have X0 : Stand p l e ({ frames := 1, cells := 1, slots := 16, locals := 12 } : Room) s m #[(.ref a)] below meth c s₁ [] 0 0 := Stand.of_body Bd
  have e0 : s₁.heap = h0 := by rw [← hh, Bd.state]; rfl
  have N0 := Fr.nil n0
  refine own_body (Q := QNQ Z a h0 n0) (KC := ({ frames := 1, cells := 1, slots := 16, locals := 12 } : Room).cells) (KS := ({ frames := 1, cells := 1, slots := 16, locals := 12 } : Room).slots) ?_
  rw [own_ef_rmNQ m a]
  have Kp : Keep h0 h0 [a] := Keep.refl h0 _
  refine own_aloadN X0 hx hby d3_0 (pc' := 1) rfl rfl rfl ?_
  refine own_init X0 hx hZ hby hown (wd_31 hw) (wd_12 hw) (wd_13 hw) e0 (by rw [hml]; rfl) d3_1 (pc' := 4) rfl (by decide) (W := 0) (Nat.le_of_eq rfl) (by decide) (fun T1 X1 e1 => ?_)
  refine own_aloadN X1 hx hby d3_4 (pc' := 5) rfl rfl rfl ?_
  refine own_bipush X1 hx hby d3_5 (pc' := 7) rfl (n := (16 : Int32)) (by decide) ?_
  refine own_newR X1 hx hZ hby hown (wd_32 hw) (wd_5 hw) e1 d3_7 (pc' := 10) rfl (by decide) (cap := 16) (by decide) (by decide) (by decide) (by decide) (fun T2 h2 k2 b2 g2 X2 e2 E2 A2 O2 => ?_)
  have ne_a_b2 : a ≠ b2 := Nat.ne_of_lt (by rw [g2]; exact f_O_a.lt)
  have ge_b2 : n0 ≤ b2 := by rw [g2]; exact Z0
  have sz_b2 : h0.size ≤ b2 := by rw [g2]; exact Kp.1
  have f_O_a := f_O_a.ext E2
  have Zn := Nat.le_trans Z0 E2.1
  have Kp := Kp.ext E2
  have f_V_b2 : Arv Z h2 b2 k2 (.object "com/example/earnest_reactor/earnestreactor/core/ScheduledTask") (16 : Int32) [.null, .null, .null, .null, .null, .null, .null, .null, .null, .null, .null, .null, .null, .null, .null, .null] .null := (Arv.new A2 (by decide)).pad (pad_rep [] .null 16)
  obtain ⟨f_E_a, f_F_a_heap, f_F_a_size⟩ := f_O_a
  refine own_putF X2 hx hZ hby hown (host := "") (Or.inl (wd_33 hw)) Via.refl e2 f_F_a_heap f_E_a (Or.inl (wd_34 hw)) (wd_26 hw) (ty := (.array (.object "com/example/earnest_reactor/earnestreactor/core/ScheduledTask"))) (by decide) rfl rfl d3_10 (pc' := 13) rfl (fun T3 h3 X3 e3 W3 => ?_)
  have f_F_a_heap := f_F_a_heap.same W3
  have f_V_b2 := f_V_b2.other W3 (Ne.symm ne_a_b2)
  have f_E_a := f_E_a.wr W3
  have f_F_a_size := f_F_a_size.other W3 (Or.inr (slot_ne (Or.inl (wd_50 hw)) (Or.inl (wd_34 hw)) (by decide) (t := .int) (t' := (.array (.object "com/example/earnest_reactor/earnestreactor/core/ScheduledTask"))) (by decide) (by decide)))
  have Zn := Nat.le_trans Zn (Keep.of_wr W3).1
  have Kp := Kp.wr W3 (Or.inl (List.mem_of_getElem? (i := 0) rfl))
  have N3 := Fr.snoc X3 N0 ge_a
  refine own_return X3 hx hlk hby hret d3_13 (own_lv ?_ (by decide) (by decide))
  have V3 : Arv Z h3 b2 k2 (.object "com/example/earnest_reactor/earnestreactor/core/ScheduledTask") (16 : Int32) [.null, .null, .null] .null := f_V_b2.pad (fun i => by rcases i with _ | _ | _ | _ | _ | _ | _ | _ | _ | _ | _ | _ | _ | _ | _ | _ | i <;> rfl)
  show QNQ Z a  h0 n0 none T3.heap _
  rw [e3]
  exact ⟨rfl, N3, Kp, _, _, sz_b2, ⟨f_E_a, f_F_a_heap, f_F_a_size⟩, V3, O2⟩
theorem own_ef_rmSQ (m : MethodId) (a : Addr) (j : Int32)  : entryFrame m #[(.ref a), (.int j)] 2 = mkF m 0 #[.val (.ref a), .val (.int j)] [] := by first | (simp [entryFrame, mkF, argsToLocals, Value.category]; done) | rfl
def QSQ (Z : State) (a : Addr) (da : Int64) (sa : Int64) (i : Int32) (j : Int32) (h0 : Heap) (n0 : Nat) (v : Option Value) (h : Heap) (L : List Loc) : Prop := v = none ∧ Fr n0 L ∧ Keep h0 h [a] ∧ own_TK Z h a .null da sa .null j
set_option maxRecDepth 65536 in
set_option maxHeartbeats 40000000 in
theorem rmSQ (l : Launch) (Z : State) (a0 : Array Value) (hw : ∀ d ∈ tables_1, d.before a0 Z = true) (ws : List Jvm.Cond) (a : Addr) (da : Int64) (sa : Int64) (i : Int32) (j : Int32) (h0 : Heap) (n0 : Nat) (Z0 : n0 ≤ h0.size) (f_O_a : own_TK Z h0 a .null da sa .null i) (ge_a : n0 ≤ a) :
    MetFree l (⟨"com/example/earnest_reactor/earnestreactor/core/ScheduledTask", "queueIndex", "(I)V"⟩ : MethodName) (head1 (Jvm.Cond.code (⟨"com/example/earnest_reactor/earnestreactor/core/ScheduledTask", "queueIndex", "(I)V"⟩ : MethodName) prog_31_method_7_code 2 none :: ws) ({ frames := 0, cells := 0, slots := 0, locals := 0 } : Room)) (fun aa U => aa = #[(.ref a), (.int j)] ∧ Z.Warmed39 U.vm ∧ U.heap = h0) (fun _ _ _ _ _ => True) (fun _ U oc U' => ∃ v L, oc = .returned v ∧ QSQ Z a da sa i j h0 n0 v U'.heap L ∧ FrameEnd U oc U' L ({ frames := 0, cells := 0, slots := 0, locals := 0 } : Room).cells ({ frames := 0, cells := 0, slots := 0, locals := 0 } : Room).slots) := by
  refine MetFree.of_bodySF (plainFor_of_name own_pn0) hisR ?_
  intro p e s m args below meth c s₁ Bd hml0 hP hK
  obtain ⟨rfl, hZ, hh⟩ := hP
  have hx := Bd.exec
  have hby := Bd.bytes
  have hlk := Bd.notSynchronized
  have hret := Bd.returns
  have hml : c.maxLocals = 2 := hml0
  have hown : s.vm.findClass "com/example/earnest_reactor/earnestreactor/core/ScheduledTask" = some m.cls := findClass_of_methodNamed Bd.named
  have hnm := (name_of_methodNamed Bd.named Bd.method).1
  have X0 : Stand p l e ({ frames := 0, cells := 0, slots := 0, locals := 0 } : Room) s m #[(.ref a), (.int j)] below meth c s₁ [] 0 0 := Stand.of_body Bd
  have e0 : s₁.heap = h0 := by rw [← hh, Bd.state]; rfl
  have N0 := Fr.nil n0
  refine own_body (Q := QSQ Z a da sa i j h0 n0) (KC := ({ frames := 0, cells := 0, slots := 0, locals := 0 } : Room).cells) (KS := ({ frames := 0, cells := 0, slots := 0, locals := 0 } : Room).slots) ?_
  rw [own_ef_rmSQ m a j]
  have Kp : Keep h0 h0 [a] := Keep.refl h0 _
  refine own_aloadN X0 hx hby d9_0 (pc' := 1) rfl rfl rfl ?_
  refine own_iloadN X0 hx hby d9_1 (pc' := 2) rfl rfl ?_
  obtain ⟨f_E_a, f_F_a_loop, f_F_a_deadline, f_F_a_sequence, f_F_a_task, f_F_a_queueIndex⟩ := f_O_a
  refine own_putF X0 hx hZ hby hown (host := "") (Or.inl (wd_14 hw)) Via.refl e0 f_F_a_queueIndex f_E_a (Or.inl (wd_15 hw)) (wd_6 hw) (ty := .int) (by decide) rfl rfl d9_2 (pc' := 5) rfl (fun T1 h1 X1 e1 W1 => ?_)
  have f_F_a_queueIndex := f_F_a_queueIndex.same W1
  have f_E_a := f_E_a.wr W1
  have f_F_a_loop := f_F_a_loop.other W1 (Or.inr (slot_ne (Or.inr (wd_17 hw)) (Or.inl (wd_15 hw)) (by decide) (t := (.object "com/example/earnest_reactor/earnestreactor/core/EventLoop")) (t' := .int) (by decide) (by decide)))
  have f_F_a_deadline := f_F_a_deadline.other W1 (Or.inr (slot_ne (Or.inr (wd_19 hw)) (Or.inl (wd_15 hw)) (by decide) (t := .long) (t' := .int) (by decide) (by decide)))
  have f_F_a_sequence := f_F_a_sequence.other W1 (Or.inr (slot_ne (Or.inr (wd_21 hw)) (Or.inl (wd_15 hw)) (by decide) (t := .long) (t' := .int) (by decide) (by decide)))
  have f_F_a_task := f_F_a_task.other W1 (Or.inr (slot_ne (Or.inr (wd_23 hw)) (Or.inl (wd_15 hw)) (by decide) (t := (.object "java/lang/Runnable")) (t' := .int) (by decide) (by decide)))
  have Zn := Nat.le_trans Z0 (Keep.of_wr W1).1
  have Kp := Kp.wr W1 (Or.inl (List.mem_of_getElem? (i := 0) rfl))
  have N1 := Fr.snoc X1 N0 ge_a
  refine own_return X1 hx hlk hby hret d9_5 (own_lv ?_ (by decide) (by decide))
  show QSQ Z a da sa i j  h0 n0 none T1.heap _
  rw [e1]
  exact ⟨rfl, N1, Kp, ⟨f_E_a, f_F_a_loop, f_F_a_deadline, f_F_a_sequence, f_F_a_task, f_F_a_queueIndex⟩⟩
theorem own_ef_rmGQ (m : MethodId) (a : Addr)  : entryFrame m #[(.ref a)] 1 = mkF m 0 #[.val (.ref a)] [] := by first | (simp [entryFrame, mkF, argsToLocals, Value.category]; done) | rfl
def QGQ (Z : State) (a : Addr) (da : Int64) (sa : Int64) (i : Int32) (h0 : Heap) (n0 : Nat) (v : Option Value) (h : Heap) (L : List Loc) : Prop := v = some (.int i) ∧ Fr n0 L ∧ h = h0
set_option maxRecDepth 65536 in
set_option maxHeartbeats 40000000 in
theorem rmGQ (l : Launch) (Z : State) (a0 : Array Value) (hw : ∀ d ∈ tables_1, d.before a0 Z = true) (ws : List Jvm.Cond) (a : Addr) (da : Int64) (sa : Int64) (i : Int32) (h0 : Heap) (n0 : Nat) (Z0 : n0 ≤ h0.size) (f_O_a : own_TK Z h0 a .null da sa .null i) :
    MetFree l (⟨"com/example/earnest_reactor/earnestreactor/core/ScheduledTask", "queueIndex", "()I"⟩ : MethodName) (head1 (Jvm.Cond.code (⟨"com/example/earnest_reactor/earnestreactor/core/ScheduledTask", "queueIndex", "()I"⟩ : MethodName) prog_31_method_6_code 1 (some .int) :: ws) ({ frames := 0, cells := 0, slots := 0, locals := 0 } : Room)) (fun aa U => aa = #[(.ref a)] ∧ Z.Warmed39 U.vm ∧ U.heap = h0) (fun _ _ _ _ _ => True) (fun _ U oc U' => ∃ v L, oc = .returned v ∧ QGQ Z a da sa i h0 n0 v U'.heap L ∧ FrameEnd U oc U' L ({ frames := 0, cells := 0, slots := 0, locals := 0 } : Room).cells ({ frames := 0, cells := 0, slots := 0, locals := 0 } : Room).slots) := by
  refine MetFree.of_bodySF (plainFor_of_name own_pn0) hisR ?_
  intro p e s m args below meth c s₁ Bd hml0 hP hK
  obtain ⟨rfl, hZ, hh⟩ := hP
  have hx := Bd.exec
  have hby := Bd.bytes
  have hlk := Bd.notSynchronized
  have hret := Bd.returns
  have hml : c.maxLocals = 1 := hml0
  have hown : s.vm.findClass "com/example/earnest_reactor/earnestreactor/core/ScheduledTask" = some m.cls := findClass_of_methodNamed Bd.named
  have hnm := (name_of_methodNamed Bd.named Bd.method).1
  have X0 : Stand p l e ({ frames := 0, cells := 0, slots := 0, locals := 0 } : Room) s m #[(.ref a)] below meth c s₁ [] 0 0 := Stand.of_body Bd
  have e0 : s₁.heap = h0 := by rw [← hh, Bd.state]; rfl
  have N0 := Fr.nil n0
  refine own_body (Q := QGQ Z a da sa i h0 n0) (KC := ({ frames := 0, cells := 0, slots := 0, locals := 0 } : Room).cells) (KS := ({ frames := 0, cells := 0, slots := 0, locals := 0 } : Room).slots) ?_
  rw [own_ef_rmGQ m a]
  refine own_aloadN X0 hx hby d12_0 (pc' := 1) rfl rfl rfl ?_
  obtain ⟨f_E_a, f_F_a_loop, f_F_a_deadline, f_F_a_sequence, f_F_a_task, f_F_a_queueIndex⟩ := f_O_a
  refine own_getF X0 hx hZ hby hown (host := "") (Or.inl (wd_14 hw)) Via.refl e0 f_F_a_queueIndex d12_1 (pc' := 4) rfl (fun T1 X1 e1 => ?_)
  refine own_ireturn X1 hx hlk hby hret d12_4 (own_lv ?_ (by decide) (by decide))
  show QGQ Z a da sa i  h0 n0 (some (.int i)) T1.heap _
  rw [e1]
  exact ⟨rfl, N0, rfl⟩
theorem own_ef_rmRB (m : MethodId) (x : Addr) (y : Addr)  : entryFrame m #[(.ref x), (.ref y)] 4 = mkF m 0 #[.val (.ref x), .val (.ref y), .unset, .unset] [] := by first | (simp [entryFrame, mkF, argsToLocals, Value.category]; done) | rfl
def QRB (Z : State) (x : Addr) (dx : Int64) (sx : Int64) (y : Addr) (dy : Int64) (sy : Int64) (i : Int32) (j : Int32) (z : Int32) (h0 : Heap) (n0 : Nat) (v : Option Value) (h : Heap) (L : List Loc) : Prop := v = some (.int z) ∧ Fr n0 L ∧ h = h0
set_option maxRecDepth 65536 in
set_option maxHeartbeats 40000000 in
theorem rmRB (l : Launch) (Z : State) (a0 : Array Value) (hw : ∀ d ∈ tables_1, d.before a0 Z = true) (ws : List Jvm.Cond) (x : Addr) (dx : Int64) (sx : Int64) (y : Addr) (dy : Int64) (sy : Int64) (i : Int32) (j : Int32) (z : Int32) (h0 : Heap) (n0 : Nat) (Z0 : n0 ≤ h0.size) (f_O_x : own_TK Z h0 x .null dx sx .null i) (f_O_y : own_TK Z h0 y .null dy sy .null j) (hz : own_rb dx sx dy sy = z) :
    MetFree l (⟨"com/example/earnest_reactor/earnestreactor/core/ScheduledTask", "runsBefore", "(Lcom/example/earnest_reactor/earnestreactor/core/ScheduledTask;)Z"⟩ : MethodName) (head1 (Jvm.Cond.code (⟨"com/example/earnest_reactor/earnestreactor/core/ScheduledTask", "runsBefore", "(Lcom/example/earnest_reactor/earnestreactor/core/ScheduledTask;)Z"⟩ : MethodName) prog_31_method_5_code 4 (some .boolean) :: ws) ({ frames := 0, cells := 0, slots := 0, locals := 0 } : Room)) (fun aa U => aa = #[(.ref x), (.ref y)] ∧ Z.Warmed39 U.vm ∧ U.heap = h0) (fun _ _ _ _ _ => True) (fun _ U oc U' => ∃ v L, oc = .returned v ∧ QRB Z x dx sx y dy sy i j z h0 n0 v U'.heap L ∧ FrameEnd U oc U' L ({ frames := 0, cells := 0, slots := 0, locals := 0 } : Room).cells ({ frames := 0, cells := 0, slots := 0, locals := 0 } : Room).slots) := by
  refine MetFree.of_bodySF (plainFor_of_name own_pn0) hisR ?_
  intro p e s m args below meth c s₁ Bd hml0 hP hK
  obtain ⟨rfl, hZ, hh⟩ := hP
  have hx := Bd.exec
  have hby := Bd.bytes
  have hlk := Bd.notSynchronized
  have hret := Bd.returns
  have hml : c.maxLocals = 4 := hml0
  have hown : s.vm.findClass "com/example/earnest_reactor/earnestreactor/core/ScheduledTask" = some m.cls := findClass_of_methodNamed Bd.named
  have hnm := (name_of_methodNamed Bd.named Bd.method).1
  have X0 : Stand p l e ({ frames := 0, cells := 0, slots := 0, locals := 0 } : Room) s m #[(.ref x), (.ref y)] below meth c s₁ [] 0 0 := Stand.of_body Bd
  have e0 : s₁.heap = h0 := by rw [← hh, Bd.state]; rfl
  have N0 := Fr.nil n0
  refine own_body (Q := QRB Z x dx sx y dy sy i j z h0 n0) (KC := ({ frames := 0, cells := 0, slots := 0, locals := 0 } : Room).cells) (KS := ({ frames := 0, cells := 0, slots := 0, locals := 0 } : Room).slots) ?_
  rw [own_ef_rmRB m x y]
  refine own_aloadN X0 hx hby d13_0 (pc' := 1) rfl rfl rfl ?_
  obtain ⟨f_E_x, f_F_x_loop, f_F_x_deadline, f_F_x_sequence, f_F_x_task, f_F_x_queueIndex⟩ := f_O_x
  refine own_getF X0 hx hZ hby hown (host := "") (Or.inl (wd_18 hw)) Via.refl e0 f_F_x_deadline d13_1 (pc' := 4) rfl (fun T1 X1 e1 => ?_)
  refine own_aloadN X1 hx hby d13_4 (pc' := 5) rfl rfl rfl ?_
  obtain ⟨f_E_y, f_F_y_loop, f_F_y_deadline, f_F_y_sequence, f_F_y_task, f_F_y_queueIndex⟩ := f_O_y
  refine own_getF X1 hx hZ hby hown (host := "") (Or.inl (wd_18 hw)) Via.refl e1 f_F_y_deadline d13_5 (pc' := 8) rfl (fun T2 X2 e2 => ?_)
  refine own_lsub X2 hx hby d13_8 (pc' := 9) rfl ?_
  refine own_lstoreN X2 hx hby d13_9 (pc' := 10) rfl (l' := #[.val (.ref x), .val (.ref y), .val (.long (dx - dy)), .second]) rfl ?_
  refine own_lloadN X2 hx hby d13_10 (pc' := 11) rfl rfl ?_
  refine own_lconst X2 hx hby d13_11 (pc' := 12) rfl (n := (0 : Int64)) (by decide) ?_
  refine own_lcmp X2 hx hby d13_12 (pc' := 13) rfl ?_
  refine own_ifL2 X2 hx hby d13_13 (pc1 := 34) (by decide) (by decide) (pc2 := 16) rfl (fun (hc13 : (dx - dy) < (0 : Int64)) => ?_) (fun (hc13 : ¬ (dx - dy) < (0 : Int64)) => ?_)
  · refine own_iconst X2 hx hby d13_34 (pc' := 35) rfl (n := (1 : Int32)) (by decide) ?_
    refine own_goto X2 hx hby d13_35 (pc' := 39) (by decide) (by decide) ?_
    refine own_zreturn X2 hx hlk hby hret (Or.inr rfl) d13_39 (own_lv ?_ (by decide) (by decide))
    show QRB Z x dx sx y dy sy i j z  h0 n0 (some (.int (1 : Int32))) T2.heap _
    rw [e2]
    exact ⟨by rw [← hz]; simp [own_rb, hc13], N0, rfl⟩
  · refine own_lloadN X2 hx hby d13_16 (pc' := 17) rfl rfl ?_
    refine own_lconst X2 hx hby d13_17 (pc' := 18) rfl (n := (0 : Int64)) (by decide) ?_
    refine own_lcmp X2 hx hby d13_18 (pc' := 19) rfl ?_
    refine own_ifL2 X2 hx hby d13_19 (pc1 := 38) (by decide) (by decide) (pc2 := 22) rfl (fun (hc19 : ¬ (dx - dy) = (0 : Int64)) => ?_) (fun (hc19 : (dx - dy) = (0 : Int64)) => ?_)
    · refine own_iconst X2 hx hby d13_38 (pc' := 39) rfl (n := (0 : Int32)) (by decide) ?_
      refine own_zreturn X2 hx hlk hby hret (Or.inl rfl) d13_39 (own_lv ?_ (by decide) (by decide))
      show QRB Z x dx sx y dy sy i j z  h0 n0 (some (.int (0 : Int32))) T2.heap _
      rw [e2]
      exact ⟨by rw [← hz]; simp [own_rb, hc13, hc19], N0, rfl⟩
    · refine own_aloadN X2 hx hby d13_22 (pc' := 23) rfl rfl rfl ?_
      refine own_getF X2 hx hZ hby hown (host := "") (Or.inl (wd_20 hw)) Via.refl e2 f_F_x_sequence d13_23 (pc' := 26) rfl (fun T3 X3 e3 => ?_)
      refine own_aloadN X3 hx hby d13_26 (pc' := 27) rfl rfl rfl ?_
      refine own_getF X3 hx hZ hby hown (host := "") (Or.inl (wd_20 hw)) Via.refl e3 f_F_y_sequence d13_27 (pc' := 30) rfl (fun T4 X4 e4 => ?_)
      refine own_lcmp X4 hx hby d13_30 (pc' := 31) rfl ?_
      refine own_ifL2 X4 hx hby d13_31 (pc1 := 38) (by decide) (by decide) (pc2 := 34) rfl (fun (hc31 : ¬ sx < sy) => ?_) (fun (hc31 : sx < sy) => ?_)
      · refine own_iconst X4 hx hby d13_38 (pc' := 39) rfl (n := (0 : Int32)) (by decide) ?_
        refine own_zreturn X4 hx hlk hby hret (Or.inl rfl) d13_39 (own_lv ?_ (by decide) (by decide))
        show QRB Z x dx sx y dy sy i j z  h0 n0 (some (.int (0 : Int32))) T4.heap _
        rw [e4]
        exact ⟨by rw [← hz]; simp [own_rb, hc13, hc19, hc31], N0, rfl⟩
      · refine own_iconst X4 hx hby d13_34 (pc' := 35) rfl (n := (1 : Int32)) (by decide) ?_
        refine own_goto X4 hx hby d13_35 (pc' := 39) (by decide) (by decide) ?_
        refine own_zreturn X4 hx hlk hby hret (Or.inr rfl) d13_39 (own_lv ?_ (by decide) (by decide))
        show QRB Z x dx sx y dy sy i j z  h0 n0 (some (.int (1 : Int32))) T4.heap _
        rw [e4]
        exact ⟨by rw [← hz]; simp [own_rb, hc13, hc19, hc31], N0, rfl⟩
theorem own_ef_rmPL0 (m : MethodId) (q : Addr) (t : Addr)  : entryFrame m #[(.ref q), (.int (0 : Int32)), (.ref t)] 3 = mkF m 0 #[.val (.ref q), .val (.int (0 : Int32)), .val (.ref t)] [] := by first | (simp [entryFrame, mkF, argsToLocals, Value.category]; done) | rfl
def QPL0 (Z : State) (q : Addr) (w : Addr) (kk : ClassId) (sz : Int32) (i : Int32) (t : Addr) (dt : Int64) (st : Int64) (v0 : Value) (v1 : Value) (v2 : Value) (hv0 : v0.isRef = true) (hv1 : v1.isRef = true) (hv2 : v2.isRef = true) (h0 : Heap) (n0 : Nat) (v : Option Value) (h : Heap) (L : List Loc) : Prop := v = none ∧ Fr n0 L ∧ Keep h0 h [w, t] ∧ Arv Z h w kk (.object "com/example/earnest_reactor/earnestreactor/core/ScheduledTask") (16 : Int32) [(.ref t), v1, v2] .null ∧ own_TK Z h t .null dt st .null (0 : Int32)
set_option maxRecDepth 65536 in
set_option maxHeartbeats 40000000 in
theorem rmPL0 (l : Launch) (Z : State) (a0 : Array Value) (hw : ∀ d ∈ tables_1, d.before a0 Z = true) (ws : List Jvm.Cond) (q : Addr) (w : Addr) (kk : ClassId) (sz : Int32) (i : Int32) (t : Addr) (dt : Int64) (st : Int64) (v0 : Value) (v1 : Value) (v2 : Value) (hv0 : v0.isRef = true) (hv1 : v1.isRef = true) (hv2 : v2.isRef = true) (h0 : Heap) (n0 : Nat) (Z0 : n0 ≤ h0.size) (f_O_q : own_TQ Z h0 q (.ref w) sz) (f_V_w : Arv Z h0 w kk (.object "com/example/earnest_reactor/earnestreactor/core/ScheduledTask") (16 : Int32) [v0, v1, v2] .null) (ho : Ovr Z kk "com/example/earnest_reactor/earnestreactor/core/ScheduledTask") (f_O_t : own_TK Z h0 t .null dt st .null i) (ge_w : n0 ≤ w) (ge_t : n0 ≤ t) :
    MetFree l (⟨"com/example/earnest_reactor/earnestreactor/core/TimerQueue", "place", "(ILcom/example/earnest_reactor/earnestreactor/core/ScheduledTask;)V"⟩ : MethodName) (head1 (Jvm.Cond.code (⟨"com/example/earnest_reactor/earnestreactor/core/TimerQueue", "place", "(ILcom/example/earnest_reactor/earnestreactor/core/ScheduledTask;)V"⟩ : MethodName) prog_35_method_10_code 3 none :: ws) ({ frames := 1, cells := 0, slots := 0, locals := 13 } : Room)) (fun aa U => aa = #[(.ref q), (.int (0 : Int32)), (.ref t)] ∧ Z.Warmed39 U.vm ∧ U.heap = h0) (fun _ _ _ _ _ => True) (fun _ U oc U' => ∃ v L, oc = .returned v ∧ QPL0 Z q w kk sz i t dt st v0 v1 v2 hv0 hv1 hv2 h0 n0 v U'.heap L ∧ FrameEnd U oc U' L ({ frames := 1, cells := 0, slots := 0, locals := 13 } : Room).cells ({ frames := 1, cells := 0, slots := 0, locals := 13 } : Room).slots) := by
  refine MetFree.of_bodySF (plainFor_of_name own_pn1) hisR ?_
  intro p e s m args below meth c s₁ Bd hml0 hP hK
  obtain ⟨rfl, hZ, hh⟩ := hP
  have hx := Bd.exec
  have hby := Bd.bytes
  have hlk := Bd.notSynchronized
  have hret := Bd.returns
  have hml : c.maxLocals = 3 := hml0
  have hown : s.vm.findClass "com/example/earnest_reactor/earnestreactor/core/TimerQueue" = some m.cls := findClass_of_methodNamed Bd.named
  have hnm := (name_of_methodNamed Bd.named Bd.method).1
  have X0 : Stand p l e ({ frames := 1, cells := 0, slots := 0, locals := 13 } : Room) s m #[(.ref q), (.int (0 : Int32)), (.ref t)] below meth c s₁ [] 0 0 := Stand.of_body Bd
  have e0 : s₁.heap = h0 := by rw [← hh, Bd.state]; rfl
  have N0 := Fr.nil n0
  refine own_body (Q := QPL0 Z q w kk sz i t dt st v0 v1 v2 hv0 hv1 hv2 h0 n0) (KC := ({ frames := 1, cells := 0, slots := 0, locals := 13 } : Room).cells) (KS := ({ frames := 1, cells := 0, slots := 0, locals := 13 } : Room).slots) ?_
  rw [own_ef_rmPL0 m q t]
  have Kp : Keep h0 h0 [w, t] := Keep.refl h0 _
  refine own_aloadN X0 hx hby d8_0 (pc' := 1) rfl rfl rfl ?_
  obtain ⟨f_E_q, f_F_q_heap, f_F_q_size⟩ := f_O_q
  refine own_getF X0 hx hZ hby hown (host := "") (Or.inl (wd_33 hw)) Via.refl e0 f_F_q_heap d8_1 (pc' := 4) rfl (fun T1 X1 e1 => ?_)
  refine own_iloadN X1 hx hby d8_4 (pc' := 5) rfl rfl ?_
  refine own_aloadN X1 hx hby d8_5 (pc' := 6) rfl rfl rfl ?_
  have ne_t_w : t ≠ w := Exa.neArv f_O_t.1 f_V_w (wd_6 hw)
  have ne_q_w : q ≠ w := Exa.neArv f_E_q f_V_w (wd_26 hw)
  obtain ⟨cl2, Ar2, q2, S2, M2, H2, G2⟩ := id f_V_w
  have hin2 : ¬ ((0 : Int32) < 0 ∨ cl2.slots.size ≤ ((0 : Int32)).toNatClampNeg) := inb_of S2 ⟨by decide, by decide⟩
  refine own_stR X1 hx hZ hby e1 Ar2 hin2 rfl (Sto.ofV Ar2 q2 ho (Ins.self f_O_t.1)) d8_6 (pc' := 7) rfl (fun T3 h3 X3 e3 W3 => ?_)
  have f_V_w := Arv.set Ar2 q2 S2 M2 H2 G2 rfl W3 0 rfl (Nat.le_of_ble_eq_true rfl)
  have f_V_w : Arv Z h3 w kk (.object "com/example/earnest_reactor/earnestreactor/core/ScheduledTask") (16 : Int32) [(.ref t), v1, v2] .null := f_V_w
  have f_O_t := f_O_t.other W3 ne_t_w
  have f_E_q := f_E_q.wr W3
  have f_F_q_heap := f_F_q_heap.other W3 (Or.inl ne_q_w)
  have f_F_q_size := f_F_q_size.other W3 (Or.inl ne_q_w)
  have Zn := Nat.le_trans Z0 (Keep.of_wr W3).1
  have Kp := Kp.wr W3 (Or.inl (List.mem_of_getElem? (i := 0) rfl))
  have N3 := Fr.snoc X3 N0 ge_w
  refine own_aloadN X3 hx hby d8_7 (pc' := 8) rfl rfl rfl ?_
  refine own_iloadN X3 hx hby d8_8 (pc' := 9) rfl rfl ?_
  have ne_q_t : q ≠ t := Exa.ne f_E_q f_O_t.1 (by decide)
  refine own_lk0 hw X3 hx hZ hby (by rw [hml]; rfl) hown d8_9 (pc' := 12) rfl e3 f_O_t.1 (W := 0) (Nat.le_of_eq rfl) (rmSQ l Z a0 hw [] t dt st i (0 : Int32) h3 n0 Zn f_O_t ge_t) (by decide) (by decide) (by decide) (by decide) (fun v4 T4 L4 X4 hQ4 => ?_)
  obtain ⟨rfl, Nq4, K4, O4⟩ := hQ4
  have N4 := Fr.app N3 Nq4
  have f_V_w := f_V_w.keep K4 (ninS (Ne.symm ne_t_w) nin0)
  have f_E_q := f_E_q.keep K4
  have f_F_q_heap := f_F_q_heap.keep K4 (ninS ne_q_t nin0)
  have f_F_q_size := f_F_q_size.keep K4 (ninS ne_q_t nin0)
  have Zn := Nat.le_trans Zn K4.1
  have Kp := Kp.trans K4 (allS (Or.inl (List.mem_of_getElem? (i := 1) rfl)) all0)
  show own_End p e below _ (T4.setTop (mkF m 12 _ []))
  refine own_return X4 hx hlk hby hret d8_12 (own_lv ?_ (by decide) (by decide))
  show QPL0 Z q w kk sz i t dt st v0 v1 v2 hv0 hv1 hv2  h0 n0 none T4.heap _
  exact ⟨rfl, N4, Kp, f_V_w, O4⟩
theorem own_ef_rmPL1 (m : MethodId) (q : Addr) (t : Addr)  : entryFrame m #[(.ref q), (.int (1 : Int32)), (.ref t)] 3 = mkF m 0 #[.val (.ref q), .val (.int (1 : Int32)), .val (.ref t)] [] := by first | (simp [entryFrame, mkF, argsToLocals, Value.category]; done) | rfl
def QPL1 (Z : State) (q : Addr) (w : Addr) (kk : ClassId) (sz : Int32) (i : Int32) (t : Addr) (dt : Int64) (st : Int64) (v0 : Value) (v1 : Value) (v2 : Value) (hv0 : v0.isRef = true) (hv1 : v1.isRef = true) (hv2 : v2.isRef = true) (h0 : Heap) (n0 : Nat) (v : Option Value) (h : Heap) (L : List Loc) : Prop := v = none ∧ Fr n0 L ∧ Keep h0 h [w, t] ∧ Arv Z h w kk (.object "com/example/earnest_reactor/earnestreactor/core/ScheduledTask") (16 : Int32) [v0, (.ref t), v2] .null ∧ own_TK Z h t .null dt st .null (1 : Int32)
set_option maxRecDepth 65536 in
set_option maxHeartbeats 40000000 in
theorem rmPL1 (l : Launch) (Z : State) (a0 : Array Value) (hw : ∀ d ∈ tables_1, d.before a0 Z = true) (ws : List Jvm.Cond) (q : Addr) (w : Addr) (kk : ClassId) (sz : Int32) (i : Int32) (t : Addr) (dt : Int64) (st : Int64) (v0 : Value) (v1 : Value) (v2 : Value) (hv0 : v0.isRef = true) (hv1 : v1.isRef = true) (hv2 : v2.isRef = true) (h0 : Heap) (n0 : Nat) (Z0 : n0 ≤ h0.size) (f_O_q : own_TQ Z h0 q (.ref w) sz) (f_V_w : Arv Z h0 w kk (.object "com/example/earnest_reactor/earnestreactor/core/ScheduledTask") (16 : Int32) [v0, v1, v2] .null) (ho : Ovr Z kk "com/example/earnest_reactor/earnestreactor/core/ScheduledTask") (f_O_t : own_TK Z h0 t .null dt st .null i) (ge_w : n0 ≤ w) (ge_t : n0 ≤ t) :
    MetFree l (⟨"com/example/earnest_reactor/earnestreactor/core/TimerQueue", "place", "(ILcom/example/earnest_reactor/earnestreactor/core/ScheduledTask;)V"⟩ : MethodName) (head1 (Jvm.Cond.code (⟨"com/example/earnest_reactor/earnestreactor/core/TimerQueue", "place", "(ILcom/example/earnest_reactor/earnestreactor/core/ScheduledTask;)V"⟩ : MethodName) prog_35_method_10_code 3 none :: ws) ({ frames := 1, cells := 0, slots := 0, locals := 13 } : Room)) (fun aa U => aa = #[(.ref q), (.int (1 : Int32)), (.ref t)] ∧ Z.Warmed39 U.vm ∧ U.heap = h0) (fun _ _ _ _ _ => True) (fun _ U oc U' => ∃ v L, oc = .returned v ∧ QPL1 Z q w kk sz i t dt st v0 v1 v2 hv0 hv1 hv2 h0 n0 v U'.heap L ∧ FrameEnd U oc U' L ({ frames := 1, cells := 0, slots := 0, locals := 13 } : Room).cells ({ frames := 1, cells := 0, slots := 0, locals := 13 } : Room).slots) := by
  refine MetFree.of_bodySF (plainFor_of_name own_pn1) hisR ?_
  intro p e s m args below meth c s₁ Bd hml0 hP hK
  obtain ⟨rfl, hZ, hh⟩ := hP
  have hx := Bd.exec
  have hby := Bd.bytes
  have hlk := Bd.notSynchronized
  have hret := Bd.returns
  have hml : c.maxLocals = 3 := hml0
  have hown : s.vm.findClass "com/example/earnest_reactor/earnestreactor/core/TimerQueue" = some m.cls := findClass_of_methodNamed Bd.named
  have hnm := (name_of_methodNamed Bd.named Bd.method).1
  have X0 : Stand p l e ({ frames := 1, cells := 0, slots := 0, locals := 13 } : Room) s m #[(.ref q), (.int (1 : Int32)), (.ref t)] below meth c s₁ [] 0 0 := Stand.of_body Bd
  have e0 : s₁.heap = h0 := by rw [← hh, Bd.state]; rfl
  have N0 := Fr.nil n0
  refine own_body (Q := QPL1 Z q w kk sz i t dt st v0 v1 v2 hv0 hv1 hv2 h0 n0) (KC := ({ frames := 1, cells := 0, slots := 0, locals := 13 } : Room).cells) (KS := ({ frames := 1, cells := 0, slots := 0, locals := 13 } : Room).slots) ?_
  rw [own_ef_rmPL1 m q t]
  have Kp : Keep h0 h0 [w, t] := Keep.refl h0 _
  refine own_aloadN X0 hx hby d8_0 (pc' := 1) rfl rfl rfl ?_
  obtain ⟨f_E_q, f_F_q_heap, f_F_q_size⟩ := f_O_q
  refine own_getF X0 hx hZ hby hown (host := "") (Or.inl (wd_33 hw)) Via.refl e0 f_F_q_heap d8_1 (pc' := 4) rfl (fun T1 X1 e1 => ?_)
  refine own_iloadN X1 hx hby d8_4 (pc' := 5) rfl rfl ?_
  refine own_aloadN X1 hx hby d8_5 (pc' := 6) rfl rfl rfl ?_
  have ne_t_w : t ≠ w := Exa.neArv f_O_t.1 f_V_w (wd_6 hw)
  have ne_q_w : q ≠ w := Exa.neArv f_E_q f_V_w (wd_26 hw)
  obtain ⟨cl2, Ar2, q2, S2, M2, H2, G2⟩ := id f_V_w
  have hin2 : ¬ ((1 : Int32) < 0 ∨ cl2.slots.size ≤ ((1 : Int32)).toNatClampNeg) := inb_of S2 ⟨by decide, by decide⟩
  refine own_stR X1 hx hZ hby e1 Ar2 hin2 rfl (Sto.ofV Ar2 q2 ho (Ins.self f_O_t.1)) d8_6 (pc' := 7) rfl (fun T3 h3 X3 e3 W3 => ?_)
  have f_V_w := Arv.set Ar2 q2 S2 M2 H2 G2 rfl W3 1 rfl (Nat.le_of_ble_eq_true rfl)
  have f_V_w : Arv Z h3 w kk (.object "com/example/earnest_reactor/earnestreactor/core/ScheduledTask") (16 : Int32) [v0, (.ref t), v2] .null := f_V_w
  have f_O_t := f_O_t.other W3 ne_t_w
  have f_E_q := f_E_q.wr W3
  have f_F_q_heap := f_F_q_heap.other W3 (Or.inl ne_q_w)
  have f_F_q_size := f_F_q_size.other W3 (Or.inl ne_q_w)
  have Zn := Nat.le_trans Z0 (Keep.of_wr W3).1
  have Kp := Kp.wr W3 (Or.inl (List.mem_of_getElem? (i := 0) rfl))
  have N3 := Fr.snoc X3 N0 ge_w
  refine own_aloadN X3 hx hby d8_7 (pc' := 8) rfl rfl rfl ?_
  refine own_iloadN X3 hx hby d8_8 (pc' := 9) rfl rfl ?_
  have ne_q_t : q ≠ t := Exa.ne f_E_q f_O_t.1 (by decide)
  refine own_lk0 hw X3 hx hZ hby (by rw [hml]; rfl) hown d8_9 (pc' := 12) rfl e3 f_O_t.1 (W := 0) (Nat.le_of_eq rfl) (rmSQ l Z a0 hw [] t dt st i (1 : Int32) h3 n0 Zn f_O_t ge_t) (by decide) (by decide) (by decide) (by decide) (fun v4 T4 L4 X4 hQ4 => ?_)
  obtain ⟨rfl, Nq4, K4, O4⟩ := hQ4
  have N4 := Fr.app N3 Nq4
  have f_V_w := f_V_w.keep K4 (ninS (Ne.symm ne_t_w) nin0)
  have f_E_q := f_E_q.keep K4
  have f_F_q_heap := f_F_q_heap.keep K4 (ninS ne_q_t nin0)
  have f_F_q_size := f_F_q_size.keep K4 (ninS ne_q_t nin0)
  have Zn := Nat.le_trans Zn K4.1
  have Kp := Kp.trans K4 (allS (Or.inl (List.mem_of_getElem? (i := 1) rfl)) all0)
  show own_End p e below _ (T4.setTop (mkF m 12 _ []))
  refine own_return X4 hx hlk hby hret d8_12 (own_lv ?_ (by decide) (by decide))
  show QPL1 Z q w kk sz i t dt st v0 v1 v2 hv0 hv1 hv2  h0 n0 none T4.heap _
  exact ⟨rfl, N4, Kp, f_V_w, O4⟩
theorem own_ef_rmPL2 (m : MethodId) (q : Addr) (t : Addr)  : entryFrame m #[(.ref q), (.int (2 : Int32)), (.ref t)] 3 = mkF m 0 #[.val (.ref q), .val (.int (2 : Int32)), .val (.ref t)] [] := by first | (simp [entryFrame, mkF, argsToLocals, Value.category]; done) | rfl
def QPL2 (Z : State) (q : Addr) (w : Addr) (kk : ClassId) (sz : Int32) (i : Int32) (t : Addr) (dt : Int64) (st : Int64) (v0 : Value) (v1 : Value) (v2 : Value) (hv0 : v0.isRef = true) (hv1 : v1.isRef = true) (hv2 : v2.isRef = true) (h0 : Heap) (n0 : Nat) (v : Option Value) (h : Heap) (L : List Loc) : Prop := v = none ∧ Fr n0 L ∧ Keep h0 h [w, t] ∧ Arv Z h w kk (.object "com/example/earnest_reactor/earnestreactor/core/ScheduledTask") (16 : Int32) [v0, v1, (.ref t)] .null ∧ own_TK Z h t .null dt st .null (2 : Int32)
set_option maxRecDepth 65536 in
set_option maxHeartbeats 40000000 in
theorem rmPL2 (l : Launch) (Z : State) (a0 : Array Value) (hw : ∀ d ∈ tables_1, d.before a0 Z = true) (ws : List Jvm.Cond) (q : Addr) (w : Addr) (kk : ClassId) (sz : Int32) (i : Int32) (t : Addr) (dt : Int64) (st : Int64) (v0 : Value) (v1 : Value) (v2 : Value) (hv0 : v0.isRef = true) (hv1 : v1.isRef = true) (hv2 : v2.isRef = true) (h0 : Heap) (n0 : Nat) (Z0 : n0 ≤ h0.size) (f_O_q : own_TQ Z h0 q (.ref w) sz) (f_V_w : Arv Z h0 w kk (.object "com/example/earnest_reactor/earnestreactor/core/ScheduledTask") (16 : Int32) [v0, v1, v2] .null) (ho : Ovr Z kk "com/example/earnest_reactor/earnestreactor/core/ScheduledTask") (f_O_t : own_TK Z h0 t .null dt st .null i) (ge_w : n0 ≤ w) (ge_t : n0 ≤ t) :
    MetFree l (⟨"com/example/earnest_reactor/earnestreactor/core/TimerQueue", "place", "(ILcom/example/earnest_reactor/earnestreactor/core/ScheduledTask;)V"⟩ : MethodName) (head1 (Jvm.Cond.code (⟨"com/example/earnest_reactor/earnestreactor/core/TimerQueue", "place", "(ILcom/example/earnest_reactor/earnestreactor/core/ScheduledTask;)V"⟩ : MethodName) prog_35_method_10_code 3 none :: ws) ({ frames := 1, cells := 0, slots := 0, locals := 13 } : Room)) (fun aa U => aa = #[(.ref q), (.int (2 : Int32)), (.ref t)] ∧ Z.Warmed39 U.vm ∧ U.heap = h0) (fun _ _ _ _ _ => True) (fun _ U oc U' => ∃ v L, oc = .returned v ∧ QPL2 Z q w kk sz i t dt st v0 v1 v2 hv0 hv1 hv2 h0 n0 v U'.heap L ∧ FrameEnd U oc U' L ({ frames := 1, cells := 0, slots := 0, locals := 13 } : Room).cells ({ frames := 1, cells := 0, slots := 0, locals := 13 } : Room).slots) := by
  refine MetFree.of_bodySF (plainFor_of_name own_pn1) hisR ?_
  intro p e s m args below meth c s₁ Bd hml0 hP hK
  obtain ⟨rfl, hZ, hh⟩ := hP
  have hx := Bd.exec
  have hby := Bd.bytes
  have hlk := Bd.notSynchronized
  have hret := Bd.returns
  have hml : c.maxLocals = 3 := hml0
  have hown : s.vm.findClass "com/example/earnest_reactor/earnestreactor/core/TimerQueue" = some m.cls := findClass_of_methodNamed Bd.named
  have hnm := (name_of_methodNamed Bd.named Bd.method).1
  have X0 : Stand p l e ({ frames := 1, cells := 0, slots := 0, locals := 13 } : Room) s m #[(.ref q), (.int (2 : Int32)), (.ref t)] below meth c s₁ [] 0 0 := Stand.of_body Bd
  have e0 : s₁.heap = h0 := by rw [← hh, Bd.state]; rfl
  have N0 := Fr.nil n0
  refine own_body (Q := QPL2 Z q w kk sz i t dt st v0 v1 v2 hv0 hv1 hv2 h0 n0) (KC := ({ frames := 1, cells := 0, slots := 0, locals := 13 } : Room).cells) (KS := ({ frames := 1, cells := 0, slots := 0, locals := 13 } : Room).slots) ?_
  rw [own_ef_rmPL2 m q t]
  have Kp : Keep h0 h0 [w, t] := Keep.refl h0 _
  refine own_aloadN X0 hx hby d8_0 (pc' := 1) rfl rfl rfl ?_
  obtain ⟨f_E_q, f_F_q_heap, f_F_q_size⟩ := f_O_q
  refine own_getF X0 hx hZ hby hown (host := "") (Or.inl (wd_33 hw)) Via.refl e0 f_F_q_heap d8_1 (pc' := 4) rfl (fun T1 X1 e1 => ?_)
  refine own_iloadN X1 hx hby d8_4 (pc' := 5) rfl rfl ?_
  refine own_aloadN X1 hx hby d8_5 (pc' := 6) rfl rfl rfl ?_
  have ne_t_w : t ≠ w := Exa.neArv f_O_t.1 f_V_w (wd_6 hw)
  have ne_q_w : q ≠ w := Exa.neArv f_E_q f_V_w (wd_26 hw)
  obtain ⟨cl2, Ar2, q2, S2, M2, H2, G2⟩ := id f_V_w
  have hin2 : ¬ ((2 : Int32) < 0 ∨ cl2.slots.size ≤ ((2 : Int32)).toNatClampNeg) := inb_of S2 ⟨by decide, by decide⟩
  refine own_stR X1 hx hZ hby e1 Ar2 hin2 rfl (Sto.ofV Ar2 q2 ho (Ins.self f_O_t.1)) d8_6 (pc' := 7) rfl (fun T3 h3 X3 e3 W3 => ?_)
  have f_V_w := Arv.set Ar2 q2 S2 M2 H2 G2 rfl W3 2 rfl (Nat.le_of_ble_eq_true rfl)
  have f_V_w : Arv Z h3 w kk (.object "com/example/earnest_reactor/earnestreactor/core/ScheduledTask") (16 : Int32) [v0, v1, (.ref t)] .null := f_V_w
  have f_O_t := f_O_t.other W3 ne_t_w
  have f_E_q := f_E_q.wr W3
  have f_F_q_heap := f_F_q_heap.other W3 (Or.inl ne_q_w)
  have f_F_q_size := f_F_q_size.other W3 (Or.inl ne_q_w)
  have Zn := Nat.le_trans Z0 (Keep.of_wr W3).1
  have Kp := Kp.wr W3 (Or.inl (List.mem_of_getElem? (i := 0) rfl))
  have N3 := Fr.snoc X3 N0 ge_w
  refine own_aloadN X3 hx hby d8_7 (pc' := 8) rfl rfl rfl ?_
  refine own_iloadN X3 hx hby d8_8 (pc' := 9) rfl rfl ?_
  have ne_q_t : q ≠ t := Exa.ne f_E_q f_O_t.1 (by decide)
  refine own_lk0 hw X3 hx hZ hby (by rw [hml]; rfl) hown d8_9 (pc' := 12) rfl e3 f_O_t.1 (W := 0) (Nat.le_of_eq rfl) (rmSQ l Z a0 hw [] t dt st i (2 : Int32) h3 n0 Zn f_O_t ge_t) (by decide) (by decide) (by decide) (by decide) (fun v4 T4 L4 X4 hQ4 => ?_)
  obtain ⟨rfl, Nq4, K4, O4⟩ := hQ4
  have N4 := Fr.app N3 Nq4
  have f_V_w := f_V_w.keep K4 (ninS (Ne.symm ne_t_w) nin0)
  have f_E_q := f_E_q.keep K4
  have f_F_q_heap := f_F_q_heap.keep K4 (ninS ne_q_t nin0)
  have f_F_q_size := f_F_q_size.keep K4 (ninS ne_q_t nin0)
  have Zn := Nat.le_trans Zn K4.1
  have Kp := Kp.trans K4 (allS (Or.inl (List.mem_of_getElem? (i := 1) rfl)) all0)
  show own_End p e below _ (T4.setTop (mkF m 12 _ []))
  refine own_return X4 hx hlk hby hret d8_12 (own_lv ?_ (by decide) (by decide))
  show QPL2 Z q w kk sz i t dt st v0 v1 v2 hv0 hv1 hv2  h0 n0 none T4.heap _
  exact ⟨rfl, N4, Kp, f_V_w, O4⟩
theorem own_ef_rmU0 (m : MethodId) (q : Addr) (t : Addr)  : entryFrame m #[(.ref q), (.int (0 : Int32)), (.ref t)] 5 = mkF m 0 #[.val (.ref q), .val (.int (0 : Int32)), .val (.ref t), .unset, .unset] [] := by first | (simp [entryFrame, mkF, argsToLocals, Value.category]; done) | rfl
def QU0 (Z : State) (q : Addr) (w : Addr) (kk : ClassId) (t : Addr) (dt : Int64) (st : Int64) (h0 : Heap) (n0 : Nat) (v : Option Value) (h : Heap) (L : List Loc) : Prop := v = none ∧ Fr n0 L ∧ Keep h0 h [w, t] ∧ Arv Z h w kk (.object "com/example/earnest_reactor/earnestreactor/core/ScheduledTask") (16 : Int32) [(.ref t), .null, .null] .null ∧ own_TK Z h t .null dt st .null (0 : Int32)
set_option maxRecDepth 65536 in
set_option maxHeartbeats 40000000 in
theorem rmU0 (l : Launch) (Z : State) (a0 : Array Value) (hw : ∀ d ∈ tables_1, d.before a0 Z = true) (ws : List Jvm.Cond) (q : Addr) (w : Addr) (kk : ClassId) (t : Addr) (dt : Int64) (st : Int64) (h0 : Heap) (n0 : Nat) (Z0 : n0 ≤ h0.size) (f_O_q : own_TQ Z h0 q (.ref w) (1 : Int32)) (f_V_w : Arv Z h0 w kk (.object "com/example/earnest_reactor/earnestreactor/core/ScheduledTask") (16 : Int32) [.null, .null, .null] .null) (ho : Ovr Z kk "com/example/earnest_reactor/earnestreactor/core/ScheduledTask") (f_O_t : own_TK Z h0 t .null dt st .null (-1 : Int32)) (ge_w : n0 ≤ w) (ge_t : n0 ≤ t) :
    MetFree l (⟨"com/example/earnest_reactor/earnestreactor/core/TimerQueue", "siftUp", "(ILcom/example/earnest_reactor/earnestreactor/core/ScheduledTask;)V"⟩ : MethodName) (head1 (Jvm.Cond.code (⟨"com/example/earnest_reactor/earnestreactor/core/TimerQueue", "siftUp", "(ILcom/example/earnest_reactor/earnestreactor/core/ScheduledTask;)V"⟩ : MethodName) prog_35_method_8_code 5 none :: ws) ({ frames := 2, cells := 0, slots := 0, locals := 27 } : Room)) (fun aa U => aa = #[(.ref q), (.int (0 : Int32)), (.ref t)] ∧ Z.Warmed39 U.vm ∧ U.heap = h0) (fun _ _ _ _ _ => True) (fun _ U oc U' => ∃ v L, oc = .returned v ∧ QU0 Z q w kk t dt st h0 n0 v U'.heap L ∧ FrameEnd U oc U' L ({ frames := 2, cells := 0, slots := 0, locals := 27 } : Room).cells ({ frames := 2, cells := 0, slots := 0, locals := 27 } : Room).slots) := by
  refine MetFree.of_bodySF (plainFor_of_name own_pn1) hisR ?_
  intro p e s m args below meth c s₁ Bd hml0 hP hK
  obtain ⟨rfl, hZ, hh⟩ := hP
  have hx := Bd.exec
  have hby := Bd.bytes
  have hlk := Bd.notSynchronized
  have hret := Bd.returns
  have hml : c.maxLocals = 5 := hml0
  have hown : s.vm.findClass "com/example/earnest_reactor/earnestreactor/core/TimerQueue" = some m.cls := findClass_of_methodNamed Bd.named
  have hnm := (name_of_methodNamed Bd.named Bd.method).1
  have X0 : Stand p l e ({ frames := 2, cells := 0, slots := 0, locals := 27 } : Room) s m #[(.ref q), (.int (0 : Int32)), (.ref t)] below meth c s₁ [] 0 0 := Stand.of_body Bd
  have e0 : s₁.heap = h0 := by rw [← hh, Bd.state]; rfl
  have N0 := Fr.nil n0
  refine own_body (Q := QU0 Z q w kk t dt st h0 n0) (KC := ({ frames := 2, cells := 0, slots := 0, locals := 27 } : Room).cells) (KS := ({ frames := 2, cells := 0, slots := 0, locals := 27 } : Room).slots) ?_
  rw [own_ef_rmU0 m q t]
  have Kp : Keep h0 h0 [w, t] := Keep.refl h0 _
  refine own_iloadN X0 hx hby d7_0 (pc' := 1) rfl rfl ?_
  refine own_istoreN X0 hx hby d7_1 (pc' := 2) rfl (l' := #[.val (.ref q), .val (.int (0 : Int32)), .val (.ref t), .val (.int (0 : Int32)), .unset]) rfl ?_
  refine own_iloadN X0 hx hby d7_2 (pc' := 3) rfl rfl ?_
  refine own_ifY X0 hx hby d7_3 (pc' := 48) (by decide) (by decide) (show ¬ (0 : Int32) < (0 : Int32) by decide) ?_
  refine own_aloadN X0 hx hby d7_48 (pc' := 49) rfl rfl rfl ?_
  refine own_iloadN X0 hx hby d7_49 (pc' := 50) rfl rfl ?_
  refine own_aloadN X0 hx hby d7_50 (pc' := 51) rfl rfl rfl ?_
  have ne_q_w : q ≠ w := Exa.neArv f_O_q.1 f_V_w (wd_26 hw)
  have ne_q_t : q ≠ t := Exa.ne f_O_q.1 f_O_t.1 (by decide)
  have ne_w_t : w ≠ t := Ne.symm (Exa.neArv f_O_t.1 f_V_w (wd_6 hw))
  refine own_lk1 hw X0 hx hZ hby (by rw [hml]; rfl) hown d7_51 (pc' := 54) rfl e0 f_O_q.1 (W := 0) (Nat.le_of_eq rfl) (rmPL0 l Z a0 hw [] q w kk (1 : Int32) (-1 : Int32) t dt st .null .null .null rfl rfl rfl h0 n0 Z0 f_O_q f_V_w ho f_O_t ge_w ge_t) (by decide) (by decide) (by decide) (by decide) (fun v1 T1 L1 X1 hQ1 => ?_)
  obtain ⟨rfl, Nq1, K1, V1, O1⟩ := hQ1
  have N1 := Fr.app N0 Nq1
  have f_O_q := f_O_q.keep K1 (ninS ne_q_w (ninS ne_q_t nin0))
  have Zn := Nat.le_trans Z0 K1.1
  have Kp := Kp.trans K1 (allS (Or.inl (List.mem_of_getElem? (i := 0) rfl)) (allS (Or.inl (List.mem_of_getElem? (i := 1) rfl)) all0))
  show own_End p e below _ (T1.setTop (mkF m 54 _ []))
  refine own_return X1 hx hlk hby hret d7_54 (own_lv ?_ (by decide) (by decide))
  show QU0 Z q w kk t dt st  h0 n0 none T1.heap _
  exact ⟨rfl, N1, Kp, V1, O1⟩
theorem own_ef_rmU1a (m : MethodId) (q : Addr) (t : Addr)  : entryFrame m #[(.ref q), (.int (1 : Int32)), (.ref t)] 5 = mkF m 0 #[.val (.ref q), .val (.int (1 : Int32)), .val (.ref t), .unset, .unset] [] := by first | (simp [entryFrame, mkF, argsToLocals, Value.category]; done) | rfl
def QU1a (Z : State) (q : Addr) (w : Addr) (kk : ClassId) (x : Addr) (dx : Int64) (sx : Int64) (t : Addr) (dt : Int64) (st : Int64) (h0 : Heap) (n0 : Nat) (v : Option Value) (h : Heap) (L : List Loc) : Prop := v = none ∧ Fr n0 L ∧ Keep h0 h [w, t] ∧ Arv Z h w kk (.object "com/example/earnest_reactor/earnestreactor/core/ScheduledTask") (16 : Int32) [(.ref x), (.ref t), .null] .null ∧ own_TK Z h t .null dt st .null (1 : Int32)
set_option maxRecDepth 65536 in
set_option maxHeartbeats 40000000 in
theorem rmU1a (l : Launch) (Z : State) (a0 : Array Value) (hw : ∀ d ∈ tables_1, d.before a0 Z = true) (ws : List Jvm.Cond) (q : Addr) (w : Addr) (kk : ClassId) (x : Addr) (dx : Int64) (sx : Int64) (t : Addr) (dt : Int64) (st : Int64) (h0 : Heap) (n0 : Nat) (Z0 : n0 ≤ h0.size) (f_O_q : own_TQ Z h0 q (.ref w) (2 : Int32)) (f_V_w : Arv Z h0 w kk (.object "com/example/earnest_reactor/earnestreactor/core/ScheduledTask") (16 : Int32) [(.ref x), .null, .null] .null) (ho : Ovr Z kk "com/example/earnest_reactor/earnestreactor/core/ScheduledTask") (f_O_x : own_TK Z h0 x .null dx sx .null (0 : Int32)) (f_O_t : own_TK Z h0 t .null dt st .null (-1 : Int32)) (ge_w : n0 ≤ w) (ge_t : n0 ≤ t) (ne_x_t : x ≠ t) (hz : own_rb dt st dx sx = (0 : Int32)) :
    MetFree l (⟨"com/example/earnest_reactor/earnestreactor/core/TimerQueue", "siftUp", "(ILcom/example/earnest_reactor/earnestreactor/core/ScheduledTask;)V"⟩ : MethodName) (head1 (Jvm.Cond.code (⟨"com/example/earnest_reactor/earnestreactor/core/TimerQueue", "siftUp", "(ILcom/example/earnest_reactor/earnestreactor/core/ScheduledTask;)V"⟩ : MethodName) prog_35_method_8_code 5 none :: ws) ({ frames := 2, cells := 0, slots := 0, locals := 27 } : Room)) (fun aa U => aa = #[(.ref q), (.int (1 : Int32)), (.ref t)] ∧ Z.Warmed39 U.vm ∧ U.heap = h0) (fun _ _ _ _ _ => True) (fun _ U oc U' => ∃ v L, oc = .returned v ∧ QU1a Z q w kk x dx sx t dt st h0 n0 v U'.heap L ∧ FrameEnd U oc U' L ({ frames := 2, cells := 0, slots := 0, locals := 27 } : Room).cells ({ frames := 2, cells := 0, slots := 0, locals := 27 } : Room).slots) := by
  refine MetFree.of_bodySF (plainFor_of_name own_pn1) hisR ?_
  intro p e s m args below meth c s₁ Bd hml0 hP hK
  obtain ⟨rfl, hZ, hh⟩ := hP
  have hx := Bd.exec
  have hby := Bd.bytes
  have hlk := Bd.notSynchronized
  have hret := Bd.returns
  have hml : c.maxLocals = 5 := hml0
  have hown : s.vm.findClass "com/example/earnest_reactor/earnestreactor/core/TimerQueue" = some m.cls := findClass_of_methodNamed Bd.named
  have hnm := (name_of_methodNamed Bd.named Bd.method).1
  have X0 : Stand p l e ({ frames := 2, cells := 0, slots := 0, locals := 27 } : Room) s m #[(.ref q), (.int (1 : Int32)), (.ref t)] below meth c s₁ [] 0 0 := Stand.of_body Bd
  have e0 : s₁.heap = h0 := by rw [← hh, Bd.state]; rfl
  have N0 := Fr.nil n0
  refine own_body (Q := QU1a Z q w kk x dx sx t dt st h0 n0) (KC := ({ frames := 2, cells := 0, slots := 0, locals := 27 } : Room).cells) (KS := ({ frames := 2, cells := 0, slots := 0, locals := 27 } : Room).slots) ?_
  rw [own_ef_rmU1a m q t]
  have Kp : Keep h0 h0 [w, t] := Keep.refl h0 _
  refine own_iloadN X0 hx hby d7_0 (pc' := 1) rfl rfl ?_
  refine own_istoreN X0 hx hby d7_1 (pc' := 2) rfl (l' := #[.val (.ref q), .val (.int (1 : Int32)), .val (.ref t), .val (.int (1 : Int32)), .unset]) rfl ?_
  refine own_iloadN X0 hx hby d7_2 (pc' := 3) rfl rfl ?_
  refine own_ifN X0 hx hby d7_3 (pc' := 6) rfl (show (0 : Int32) < (1 : Int32) by decide) ?_
  refine own_iloadN X0 hx hby d7_6 (pc' := 7) rfl rfl ?_
  refine own_iconst X0 hx hby d7_7 (pc' := 8) rfl (n := (1 : Int32)) (by decide) ?_
  refine own_isub X0 hx hby d7_8 (pc' := 9) rfl ?_
  show own_End p e below _ (s₁.setTop (mkF m 9 #[.val (.ref q), .val (.int (1 : Int32)), .val (.ref t), .val (.int (1 : Int32)), .unset] [(.int (0 : Int32))]))
  refine own_iconst X0 hx hby d7_9 (pc' := 10) rfl (n := (2 : Int32)) (by decide) ?_
  refine own_idiv X0 hx hby d7_10 (pc' := 11) rfl (by decide) ?_
  show own_End p e below _ (s₁.setTop (mkF m 11 #[.val (.ref q), .val (.int (1 : Int32)), .val (.ref t), .val (.int (1 : Int32)), .unset] [(.int (0 : Int32))]))
  refine own_istore X0 hx hby d7_11 (pc' := 13) rfl (l' := #[.val (.ref q), .val (.int (1 : Int32)), .val (.ref t), .val (.int (1 : Int32)), .val (.int (0 : Int32))]) rfl ?_
  refine own_aloadN X0 hx hby d7_13 (pc' := 14) rfl rfl rfl ?_
  refine own_aloadN X0 hx hby d7_14 (pc' := 15) rfl rfl rfl ?_
  obtain ⟨f_E_q, f_F_q_heap, f_F_q_size⟩ := f_O_q
  refine own_getF X0 hx hZ hby hown (host := "") (Or.inl (wd_33 hw)) Via.refl e0 f_F_q_heap d7_15 (pc' := 18) rfl (fun T1 X1 e1 => ?_)
  refine own_iload X1 hx hby d7_18 (pc' := 20) rfl rfl ?_
  obtain ⟨cl2, Ar2, q2, S2, M2, H2, G2⟩ := id f_V_w
  have hin2 : ¬ ((0 : Int32) < 0 ∨ cl2.slots.size ≤ ((0 : Int32)).toNatClampNeg) := inb_of S2 ⟨by decide, by decide⟩
  have hat2 : cl2.slots[((0 : Int32)).toNatClampNeg]? = some (.ref x) := H2.at hin2 rfl
  refine own_aaload X1 hx hZ hby e1 Ar2 rfl hin2 hat2 d7_20 (pc' := 21) rfl ?_
  refine own_lk2 hw X1 hx hZ hby (by rw [hml]; rfl) hown d7_21 (pc' := 24) rfl e1 f_O_t.1 (W := 0) (Nat.le_of_eq rfl) (rmRB l Z a0 hw [] t dt st x dx sx (-1 : Int32) (0 : Int32) (0 : Int32) h0 n0 Z0 f_O_t f_O_x hz) (by decide) (by decide) (by decide) (by decide) (fun v3 T3 L3 X3 hQ3 => ?_)
  obtain ⟨rfl, Nq3, e3⟩ := hQ3
  have N3 := Fr.app N0 Nq3
  show own_End p e below _ (T3.setTop (mkF m 24 _ [(.int (0 : Int32))]))
  refine own_ifN X3 hx hby d7_24 (pc' := 27) rfl (show (0 : Int32) = (0 : Int32) by decide) ?_
  refine own_goto X3 hx hby d7_27 (pc' := 48) (by decide) (by decide) ?_
  refine own_aloadN X3 hx hby d7_48 (pc' := 49) rfl rfl rfl ?_
  refine own_iloadN X3 hx hby d7_49 (pc' := 50) rfl rfl ?_
  refine own_aloadN X3 hx hby d7_50 (pc' := 51) rfl rfl rfl ?_
  have f_O_q : own_TQ Z h0 q (.ref w) (2 : Int32) := ⟨f_E_q, f_F_q_heap, f_F_q_size⟩
  have ne_w_t : w ≠ t := Ne.symm (Exa.neArv f_O_t.1 f_V_w (wd_6 hw))
  have ne_x_w : x ≠ w := Exa.neArv f_O_x.1 f_V_w (wd_6 hw)
  have ne_q_w : q ≠ w := Exa.neArv f_O_q.1 f_V_w (wd_26 hw)
  have ne_q_t : q ≠ t := Exa.ne f_O_q.1 f_O_t.1 (by decide)
  refine own_lk1 hw X3 hx hZ hby (by rw [hml]; rfl) hown d7_51 (pc' := 54) rfl e3 f_O_q.1 (W := 0) (Nat.le_of_eq rfl) (rmPL1 l Z a0 hw [] q w kk (2 : Int32) (-1 : Int32) t dt st (.ref x) .null .null rfl rfl rfl h0 n0 Z0 f_O_q f_V_w ho f_O_t ge_w ge_t) (by decide) (by decide) (by decide) (by decide) (fun v4 T4 L4 X4 hQ4 => ?_)
  obtain ⟨rfl, Nq4, K4, V4, O4⟩ := hQ4
  have N4 := Fr.app N3 Nq4
  have f_O_x := f_O_x.keep K4 (ninS ne_x_w (ninS ne_x_t nin0))
  have f_O_q := f_O_q.keep K4 (ninS ne_q_w (ninS ne_q_t nin0))
  have Zn := Nat.le_trans Z0 K4.1
  have Kp := Kp.trans K4 (allS (Or.inl (List.mem_of_getElem? (i := 0) rfl)) (allS (Or.inl (List.mem_of_getElem? (i := 1) rfl)) all0))
  show own_End p e below _ (T4.setTop (mkF m 54 _ []))
  refine own_return X4 hx hlk hby hret d7_54 (own_lv ?_ (by decide) (by decide))
  show QU1a Z q w kk x dx sx t dt st  h0 n0 none T4.heap _
  exact ⟨rfl, N4, Kp, V4, O4⟩
theorem own_ef_rmU1b (m : MethodId) (q : Addr) (t : Addr)  : entryFrame m #[(.ref q), (.int (1 : Int32)), (.ref t)] 5 = mkF m 0 #[.val (.ref q), .val (.int (1 : Int32)), .val (.ref t), .unset, .unset] [] := by first | (simp [entryFrame, mkF, argsToLocals, Value.category]; done) | rfl
def QU1b (Z : State) (q : Addr) (w : Addr) (kk : ClassId) (x : Addr) (dx : Int64) (sx : Int64) (t : Addr) (dt : Int64) (st : Int64) (h0 : Heap) (n0 : Nat) (v : Option Value) (h : Heap) (L : List Loc) : Prop := v = none ∧ Fr n0 L ∧ Keep h0 h [w, x, t] ∧ Arv Z h w kk (.object "com/example/earnest_reactor/earnestreactor/core/ScheduledTask") (16 : Int32) [(.ref t), (.ref x), .null] .null ∧ own_TK Z h x .null dx sx .null (1 : Int32) ∧ own_TK Z h t .null dt st .null (0 : Int32)
set_option maxRecDepth 65536 in
set_option maxHeartbeats 40000000 in
theorem rmU1b (l : Launch) (Z : State) (a0 : Array Value) (hw : ∀ d ∈ tables_1, d.before a0 Z = true) (ws : List Jvm.Cond) (q : Addr) (w : Addr) (kk : ClassId) (x : Addr) (dx : Int64) (sx : Int64) (t : Addr) (dt : Int64) (st : Int64) (h0 : Heap) (n0 : Nat) (Z0 : n0 ≤ h0.size) (f_O_q : own_TQ Z h0 q (.ref w) (2 : Int32)) (f_V_w : Arv Z h0 w kk (.object "com/example/earnest_reactor/earnestreactor/core/ScheduledTask") (16 : Int32) [(.ref x), .null, .null] .null) (ho : Ovr Z kk "com/example/earnest_reactor/earnestreactor/core/ScheduledTask") (f_O_x : own_TK Z h0 x .null dx sx .null (0 : Int32)) (f_O_t : own_TK Z h0 t .null dt st .null (-1 : Int32)) (ge_w : n0 ≤ w) (ge_x : n0 ≤ x) (ge_t : n0 ≤ t) (ne_x_t : x ≠ t) (hz : own_rb dt st dx sx = (1 : Int32)) :
    MetFree l (⟨"com/example/earnest_reactor/earnestreactor/core/TimerQueue", "siftUp", "(ILcom/example/earnest_reactor/earnestreactor/core/ScheduledTask;)V"⟩ : MethodName) (head1 (Jvm.Cond.code (⟨"com/example/earnest_reactor/earnestreactor/core/TimerQueue", "siftUp", "(ILcom/example/earnest_reactor/earnestreactor/core/ScheduledTask;)V"⟩ : MethodName) prog_35_method_8_code 5 none :: ws) ({ frames := 2, cells := 0, slots := 0, locals := 27 } : Room)) (fun aa U => aa = #[(.ref q), (.int (1 : Int32)), (.ref t)] ∧ Z.Warmed39 U.vm ∧ U.heap = h0) (fun _ _ _ _ _ => True) (fun _ U oc U' => ∃ v L, oc = .returned v ∧ QU1b Z q w kk x dx sx t dt st h0 n0 v U'.heap L ∧ FrameEnd U oc U' L ({ frames := 2, cells := 0, slots := 0, locals := 27 } : Room).cells ({ frames := 2, cells := 0, slots := 0, locals := 27 } : Room).slots) := by
  refine MetFree.of_bodySF (plainFor_of_name own_pn1) hisR ?_
  intro p e s m args below meth c s₁ Bd hml0 hP hK
  obtain ⟨rfl, hZ, hh⟩ := hP
  have hx := Bd.exec
  have hby := Bd.bytes
  have hlk := Bd.notSynchronized
  have hret := Bd.returns
  have hml : c.maxLocals = 5 := hml0
  have hown : s.vm.findClass "com/example/earnest_reactor/earnestreactor/core/TimerQueue" = some m.cls := findClass_of_methodNamed Bd.named
  have hnm := (name_of_methodNamed Bd.named Bd.method).1
  have X0 : Stand p l e ({ frames := 2, cells := 0, slots := 0, locals := 27 } : Room) s m #[(.ref q), (.int (1 : Int32)), (.ref t)] below meth c s₁ [] 0 0 := Stand.of_body Bd
  have e0 : s₁.heap = h0 := by rw [← hh, Bd.state]; rfl
  have N0 := Fr.nil n0
  refine own_body (Q := QU1b Z q w kk x dx sx t dt st h0 n0) (KC := ({ frames := 2, cells := 0, slots := 0, locals := 27 } : Room).cells) (KS := ({ frames := 2, cells := 0, slots := 0, locals := 27 } : Room).slots) ?_
  rw [own_ef_rmU1b m q t]
  have Kp : Keep h0 h0 [w, x, t] := Keep.refl h0 _
  refine own_iloadN X0 hx hby d7_0 (pc' := 1) rfl rfl ?_
  refine own_istoreN X0 hx hby d7_1 (pc' := 2) rfl (l' := #[.val (.ref q), .val (.int (1 : Int32)), .val (.ref t), .val (.int (1 : Int32)), .unset]) rfl ?_
  refine own_iloadN X0 hx hby d7_2 (pc' := 3) rfl rfl ?_
  refine own_ifN X0 hx hby d7_3 (pc' := 6) rfl (show (0 : Int32) < (1 : Int32) by decide) ?_
  refine own_iloadN X0 hx hby d7_6 (pc' := 7) rfl rfl ?_
  refine own_iconst X0 hx hby d7_7 (pc' := 8) rfl (n := (1 : Int32)) (by decide) ?_
  refine own_isub X0 hx hby d7_8 (pc' := 9) rfl ?_
  show own_End p e below _ (s₁.setTop (mkF m 9 #[.val (.ref q), .val (.int (1 : Int32)), .val (.ref t), .val (.int (1 : Int32)), .unset] [(.int (0 : Int32))]))
  refine own_iconst X0 hx hby d7_9 (pc' := 10) rfl (n := (2 : Int32)) (by decide) ?_
  refine own_idiv X0 hx hby d7_10 (pc' := 11) rfl (by decide) ?_
  show own_End p e below _ (s₁.setTop (mkF m 11 #[.val (.ref q), .val (.int (1 : Int32)), .val (.ref t), .val (.int (1 : Int32)), .unset] [(.int (0 : Int32))]))
  refine own_istore X0 hx hby d7_11 (pc' := 13) rfl (l' := #[.val (.ref q), .val (.int (1 : Int32)), .val (.ref t), .val (.int (1 : Int32)), .val (.int (0 : Int32))]) rfl ?_
  refine own_aloadN X0 hx hby d7_13 (pc' := 14) rfl rfl rfl ?_
  refine own_aloadN X0 hx hby d7_14 (pc' := 15) rfl rfl rfl ?_
  obtain ⟨f_E_q, f_F_q_heap, f_F_q_size⟩ := f_O_q
  refine own_getF X0 hx hZ hby hown (host := "") (Or.inl (wd_33 hw)) Via.refl e0 f_F_q_heap d7_15 (pc' := 18) rfl (fun T1 X1 e1 => ?_)
  refine own_iload X1 hx hby d7_18 (pc' := 20) rfl rfl ?_
  obtain ⟨cl2, Ar2, q2, S2, M2, H2, G2⟩ := id f_V_w
  have hin2 : ¬ ((0 : Int32) < 0 ∨ cl2.slots.size ≤ ((0 : Int32)).toNatClampNeg) := inb_of S2 ⟨by decide, by decide⟩
  have hat2 : cl2.slots[((0 : Int32)).toNatClampNeg]? = some (.ref x) := H2.at hin2 rfl
  refine own_aaload X1 hx hZ hby e1 Ar2 rfl hin2 hat2 d7_20 (pc' := 21) rfl ?_
  refine own_lk2 hw X1 hx hZ hby (by rw [hml]; rfl) hown d7_21 (pc' := 24) rfl e1 f_O_t.1 (W := 0) (Nat.le_of_eq rfl) (rmRB l Z a0 hw [] t dt st x dx sx (-1 : Int32) (0 : Int32) (1 : Int32) h0 n0 Z0 f_O_t f_O_x hz) (by decide) (by decide) (by decide) (by decide) (fun v3 T3 L3 X3 hQ3 => ?_)
  obtain ⟨rfl, Nq3, e3⟩ := hQ3
  have N3 := Fr.app N0 Nq3
  show own_End p e below _ (T3.setTop (mkF m 24 _ [(.int (1 : Int32))]))
  refine own_ifY X3 hx hby d7_24 (pc' := 30) (by decide) (by decide) (show ¬ (1 : Int32) = (0 : Int32) by decide) ?_
  refine own_aloadN X3 hx hby d7_30 (pc' := 31) rfl rfl rfl ?_
  refine own_iloadN X3 hx hby d7_31 (pc' := 32) rfl rfl ?_
  refine own_aloadN X3 hx hby d7_32 (pc' := 33) rfl rfl rfl ?_
  refine own_getF X3 hx hZ hby hown (host := "") (Or.inl (wd_33 hw)) Via.refl e3 f_F_q_heap d7_33 (pc' := 36) rfl (fun T4 X4 e4 => ?_)
  refine own_iload X4 hx hby d7_36 (pc' := 38) rfl rfl ?_
  obtain ⟨cl5, Ar5, q5, S5, M5, H5, G5⟩ := id f_V_w
  have hin5 : ¬ ((0 : Int32) < 0 ∨ cl5.slots.size ≤ ((0 : Int32)).toNatClampNeg) := inb_of S5 ⟨by decide, by decide⟩
  have hat5 : cl5.slots[((0 : Int32)).toNatClampNeg]? = some (.ref x) := H5.at hin5 rfl
  refine own_aaload X4 hx hZ hby e4 Ar5 rfl hin5 hat5 d7_38 (pc' := 39) rfl ?_
  have f_O_q : own_TQ Z h0 q (.ref w) (2 : Int32) := ⟨f_E_q, f_F_q_heap, f_F_q_size⟩
  have ne_w_x : w ≠ x := Ne.symm (Exa.neArv f_O_x.1 f_V_w (wd_6 hw))
  have ne_t_w : t ≠ w := Exa.neArv f_O_t.1 f_V_w (wd_6 hw)
  have ne_q_w : q ≠ w := Exa.neArv f_O_q.1 f_V_w (wd_26 hw)
  have ne_q_x : q ≠ x := Exa.ne f_O_q.1 f_O_x.1 (by decide)
  refine own_lk1 hw X4 hx hZ hby (by rw [hml]; rfl) hown d7_39 (pc' := 42) rfl e4 f_O_q.1 (W := 0) (Nat.le_of_eq rfl) (rmPL1 l Z a0 hw [] q w kk (2 : Int32) (0 : Int32) x dx sx (.ref x) .null .null rfl rfl rfl h0 n0 Z0 f_O_q f_V_w ho f_O_x ge_w ge_x) (by decide) (by decide) (by decide) (by decide) (fun v6 T6 L6 X6 hQ6 => ?_)
  obtain ⟨rfl, Nq6, K6, V6, O6⟩ := hQ6
  have N6 := Fr.app N3 Nq6
  have f_O_t := f_O_t.keep K6 (ninS ne_t_w (ninS (Ne.symm ne_x_t) nin0))
  have f_O_q := f_O_q.keep K6 (ninS ne_q_w (ninS ne_q_x nin0))
  have Zn := Nat.le_trans Z0 K6.1
  have Kp := Kp.trans K6 (allS (Or.inl (List.mem_of_getElem? (i := 0) rfl)) (allS (Or.inl (List.mem_of_getElem? (i := 1) rfl)) all0))
  show own_End p e below _ (T6.setTop (mkF m 42 _ []))
  refine own_iload X6 hx hby d7_42 (pc' := 44) rfl rfl ?_
  refine own_istoreN X6 hx hby d7_44 (pc' := 45) rfl (l' := #[.val (.ref q), .val (.int (1 : Int32)), .val (.ref t), .val (.int (0 : Int32)), .val (.int (0 : Int32))]) rfl ?_
  refine own_goto X6 hx hby d7_45 (pc' := 2) (by decide) (by decide) ?_
  refine own_iloadN X6 hx hby d7_2 (pc' := 3) rfl rfl ?_
  refine own_ifY X6 hx hby d7_3 (pc' := 48) (by decide) (by decide) (show ¬ (0 : Int32) < (0 : Int32) by decide) ?_
  refine own_aloadN X6 hx hby d7_48 (pc' := 49) rfl rfl rfl ?_
  refine own_iloadN X6 hx hby d7_49 (pc' := 50) rfl rfl ?_
  refine own_aloadN X6 hx hby d7_50 (pc' := 51) rfl rfl rfl ?_
  have ne_q_t : q ≠ t := Exa.ne f_O_q.1 f_O_t.1 (by decide)
  refine own_lk1 hw X6 hx hZ hby (by rw [hml]; rfl) hown d7_51 (pc' := 54) rfl rfl f_O_q.1 (W := 0) (Nat.le_of_eq rfl) (rmPL0 l Z a0 hw [] q w kk (2 : Int32) (-1 : Int32) t dt st (.ref x) (.ref x) .null rfl rfl rfl T6.heap n0 Zn f_O_q V6 ho f_O_t ge_w ge_t) (by decide) (by decide) (by decide) (by decide) (fun v7 T7 L7 X7 hQ7 => ?_)
  obtain ⟨rfl, Nq7, K7, V7, O7⟩ := hQ7
  have N7 := Fr.app N6 Nq7
  have f_O_q := f_O_q.keep K7 (ninS ne_q_w (ninS ne_q_t nin0))
  have O6 := O6.keep K7 (ninS (Ne.symm ne_w_x) (ninS ne_x_t nin0))
  have Zn := Nat.le_trans Zn K7.1
  have Kp := Kp.trans K7 (allS (Or.inl (List.mem_of_getElem? (i := 0) rfl)) (allS (Or.inl (List.mem_of_getElem? (i := 2) rfl)) all0))
  show own_End p e below _ (T7.setTop (mkF m 54 _ []))
  refine own_return X7 hx hlk hby hret d7_54 (own_lv ?_ (by decide) (by decide))
  show QU1b Z q w kk x dx sx t dt st  h0 n0 none T7.heap _
  exact ⟨rfl, N7, Kp, V7, O6, O7⟩
theorem own_ef_rmU2a (m : MethodId) (q : Addr) (t : Addr)  : entryFrame m #[(.ref q), (.int (2 : Int32)), (.ref t)] 5 = mkF m 0 #[.val (.ref q), .val (.int (2 : Int32)), .val (.ref t), .unset, .unset] [] := by first | (simp [entryFrame, mkF, argsToLocals, Value.category]; done) | rfl
def QU2a (Z : State) (q : Addr) (w : Addr) (kk : ClassId) (x : Addr) (dx : Int64) (sx : Int64) (y : Addr) (dy : Int64) (sy : Int64) (t : Addr) (dt : Int64) (st : Int64) (h0 : Heap) (n0 : Nat) (v : Option Value) (h : Heap) (L : List Loc) : Prop := v = none ∧ Fr n0 L ∧ Keep h0 h [w, t] ∧ Arv Z h w kk (.object "com/example/earnest_reactor/earnestreactor/core/ScheduledTask") (16 : Int32) [(.ref x), (.ref y), (.ref t)] .null ∧ own_TK Z h t .null dt st .null (2 : Int32)
set_option maxRecDepth 65536 in
set_option maxHeartbeats 40000000 in
theorem rmU2a (l : Launch) (Z : State) (a0 : Array Value) (hw : ∀ d ∈ tables_1, d.before a0 Z = true) (ws : List Jvm.Cond) (q : Addr) (w : Addr) (kk : ClassId) (x : Addr) (dx : Int64) (sx : Int64) (y : Addr) (dy : Int64) (sy : Int64) (t : Addr) (dt : Int64) (st : Int64) (h0 : Heap) (n0 : Nat) (Z0 : n0 ≤ h0.size) (f_O_q : own_TQ Z h0 q (.ref w) (3 : Int32)) (f_V_w : Arv Z h0 w kk (.object "com/example/earnest_reactor/earnestreactor/core/ScheduledTask") (16 : Int32) [(.ref x), (.ref y), .null] .null) (ho : Ovr Z kk "com/example/earnest_reactor/earnestreactor/core/ScheduledTask") (f_O_x : own_TK Z h0 x .null dx sx .null (0 : Int32)) (f_O_y : own_TK Z h0 y .null dy sy .null (1 : Int32)) (f_O_t : own_TK Z h0 t .null dt st .null (-1 : Int32)) (ge_w : n0 ≤ w) (ge_t : n0 ≤ t) (ne_x_y : x ≠ y) (ne_x_t : x ≠ t) (ne_y_t : y ≠ t) (hz : own_rb dt st dx sx = (0 : Int32)) :
    MetFree l (⟨"com/example/earnest_reactor/earnestreactor/core/TimerQueue", "siftUp", "(ILcom/example/earnest_reactor/earnestreactor/core/ScheduledTask;)V"⟩ : MethodName) (head1 (Jvm.Cond.code (⟨"com/example/earnest_reactor/earnestreactor/core/TimerQueue", "siftUp", "(ILcom/example/earnest_reactor/earnestreactor/core/ScheduledTask;)V"⟩ : MethodName) prog_35_method_8_code 5 none :: ws) ({ frames := 2, cells := 0, slots := 0, locals := 27 } : Room)) (fun aa U => aa = #[(.ref q), (.int (2 : Int32)), (.ref t)] ∧ Z.Warmed39 U.vm ∧ U.heap = h0) (fun _ _ _ _ _ => True) (fun _ U oc U' => ∃ v L, oc = .returned v ∧ QU2a Z q w kk x dx sx y dy sy t dt st h0 n0 v U'.heap L ∧ FrameEnd U oc U' L ({ frames := 2, cells := 0, slots := 0, locals := 27 } : Room).cells ({ frames := 2, cells := 0, slots := 0, locals := 27 } : Room).slots) := by
  refine MetFree.of_bodySF (plainFor_of_name own_pn1) hisR ?_
  intro p e s m args below meth c s₁ Bd hml0 hP hK
  obtain ⟨rfl, hZ, hh⟩ := hP
  have hx := Bd.exec
  have hby := Bd.bytes
  have hlk := Bd.notSynchronized
  have hret := Bd.returns
  have hml : c.maxLocals = 5 := hml0
  have hown : s.vm.findClass "com/example/earnest_reactor/earnestreactor/core/TimerQueue" = some m.cls := findClass_of_methodNamed Bd.named
  have hnm := (name_of_methodNamed Bd.named Bd.method).1
  have X0 : Stand p l e ({ frames := 2, cells := 0, slots := 0, locals := 27 } : Room) s m #[(.ref q), (.int (2 : Int32)), (.ref t)] below meth c s₁ [] 0 0 := Stand.of_body Bd
  have e0 : s₁.heap = h0 := by rw [← hh, Bd.state]; rfl
  have N0 := Fr.nil n0
  refine own_body (Q := QU2a Z q w kk x dx sx y dy sy t dt st h0 n0) (KC := ({ frames := 2, cells := 0, slots := 0, locals := 27 } : Room).cells) (KS := ({ frames := 2, cells := 0, slots := 0, locals := 27 } : Room).slots) ?_
  rw [own_ef_rmU2a m q t]
  have Kp : Keep h0 h0 [w, t] := Keep.refl h0 _
  refine own_iloadN X0 hx hby d7_0 (pc' := 1) rfl rfl ?_
  refine own_istoreN X0 hx hby d7_1 (pc' := 2) rfl (l' := #[.val (.ref q), .val (.int (2 : Int32)), .val (.ref t), .val (.int (2 : Int32)), .unset]) rfl ?_
  refine own_iloadN X0 hx hby d7_2 (pc' := 3) rfl rfl ?_
  refine own_ifN X0 hx hby d7_3 (pc' := 6) rfl (show (0 : Int32) < (2 : Int32) by decide) ?_
  refine own_iloadN X0 hx hby d7_6 (pc' := 7) rfl rfl ?_
  refine own_iconst X0 hx hby d7_7 (pc' := 8) rfl (n := (1 : Int32)) (by decide) ?_
  refine own_isub X0 hx hby d7_8 (pc' := 9) rfl ?_
  show own_End p e below _ (s₁.setTop (mkF m 9 #[.val (.ref q), .val (.int (2 : Int32)), .val (.ref t), .val (.int (2 : Int32)), .unset] [(.int (1 : Int32))]))
  refine own_iconst X0 hx hby d7_9 (pc' := 10) rfl (n := (2 : Int32)) (by decide) ?_
  refine own_idiv X0 hx hby d7_10 (pc' := 11) rfl (by decide) ?_
  show own_End p e below _ (s₁.setTop (mkF m 11 #[.val (.ref q), .val (.int (2 : Int32)), .val (.ref t), .val (.int (2 : Int32)), .unset] [(.int (0 : Int32))]))
  refine own_istore X0 hx hby d7_11 (pc' := 13) rfl (l' := #[.val (.ref q), .val (.int (2 : Int32)), .val (.ref t), .val (.int (2 : Int32)), .val (.int (0 : Int32))]) rfl ?_
  refine own_aloadN X0 hx hby d7_13 (pc' := 14) rfl rfl rfl ?_
  refine own_aloadN X0 hx hby d7_14 (pc' := 15) rfl rfl rfl ?_
  obtain ⟨f_E_q, f_F_q_heap, f_F_q_size⟩ := f_O_q
  refine own_getF X0 hx hZ hby hown (host := "") (Or.inl (wd_33 hw)) Via.refl e0 f_F_q_heap d7_15 (pc' := 18) rfl (fun T1 X1 e1 => ?_)
  refine own_iload X1 hx hby d7_18 (pc' := 20) rfl rfl ?_
  obtain ⟨cl2, Ar2, q2, S2, M2, H2, G2⟩ := id f_V_w
  have hin2 : ¬ ((0 : Int32) < 0 ∨ cl2.slots.size ≤ ((0 : Int32)).toNatClampNeg) := inb_of S2 ⟨by decide, by decide⟩
  have hat2 : cl2.slots[((0 : Int32)).toNatClampNeg]? = some (.ref x) := H2.at hin2 rfl
  refine own_aaload X1 hx hZ hby e1 Ar2 rfl hin2 hat2 d7_20 (pc' := 21) rfl ?_
  refine own_lk2 hw X1 hx hZ hby (by rw [hml]; rfl) hown d7_21 (pc' := 24) rfl e1 f_O_t.1 (W := 0) (Nat.le_of_eq rfl) (rmRB l Z a0 hw [] t dt st x dx sx (-1 : Int32) (0 : Int32) (0 : Int32) h0 n0 Z0 f_O_t f_O_x hz) (by decide) (by decide) (by decide) (by decide) (fun v3 T3 L3 X3 hQ3 => ?_)
  obtain ⟨rfl, Nq3, e3⟩ := hQ3
  have N3 := Fr.app N0 Nq3
  show own_End p e below _ (T3.setTop (mkF m 24 _ [(.int (0 : Int32))]))
  refine own_ifN X3 hx hby d7_24 (pc' := 27) rfl (show (0 : Int32) = (0 : Int32) by decide) ?_
  refine own_goto X3 hx hby d7_27 (pc' := 48) (by decide) (by decide) ?_
  refine own_aloadN X3 hx hby d7_48 (pc' := 49) rfl rfl rfl ?_
  refine own_iloadN X3 hx hby d7_49 (pc' := 50) rfl rfl ?_
  refine own_aloadN X3 hx hby d7_50 (pc' := 51) rfl rfl rfl ?_
  have f_O_q : own_TQ Z h0 q (.ref w) (3 : Int32) := ⟨f_E_q, f_F_q_heap, f_F_q_size⟩
  have ne_w_t : w ≠ t := Ne.symm (Exa.neArv f_O_t.1 f_V_w (wd_6 hw))
  have ne_x_w : x ≠ w := Exa.neArv f_O_x.1 f_V_w (wd_6 hw)
  have ne_y_w : y ≠ w := Exa.neArv f_O_y.1 f_V_w (wd_6 hw)
  have ne_q_w : q ≠ w := Exa.neArv f_O_q.1 f_V_w (wd_26 hw)
  have ne_q_t : q ≠ t := Exa.ne f_O_q.1 f_O_t.1 (by decide)
  refine own_lk1 hw X3 hx hZ hby (by rw [hml]; rfl) hown d7_51 (pc' := 54) rfl e3 f_O_q.1 (W := 0) (Nat.le_of_eq rfl) (rmPL2 l Z a0 hw [] q w kk (3 : Int32) (-1 : Int32) t dt st (.ref x) (.ref y) .null rfl rfl rfl h0 n0 Z0 f_O_q f_V_w ho f_O_t ge_w ge_t) (by decide) (by decide) (by decide) (by decide) (fun v4 T4 L4 X4 hQ4 => ?_)
  obtain ⟨rfl, Nq4, K4, V4, O4⟩ := hQ4
  have N4 := Fr.app N3 Nq4
  have f_O_x := f_O_x.keep K4 (ninS ne_x_w (ninS ne_x_t nin0))
  have f_O_y := f_O_y.keep K4 (ninS ne_y_w (ninS ne_y_t nin0))
  have f_O_q := f_O_q.keep K4 (ninS ne_q_w (ninS ne_q_t nin0))
  have Zn := Nat.le_trans Z0 K4.1
  have Kp := Kp.trans K4 (allS (Or.inl (List.mem_of_getElem? (i := 0) rfl)) (allS (Or.inl (List.mem_of_getElem? (i := 1) rfl)) all0))
  show own_End p e below _ (T4.setTop (mkF m 54 _ []))
  refine own_return X4 hx hlk hby hret d7_54 (own_lv ?_ (by decide) (by decide))
  show QU2a Z q w kk x dx sx y dy sy t dt st  h0 n0 none T4.heap _
  exact ⟨rfl, N4, Kp, V4, O4⟩
theorem own_ef_rmU2b (m : MethodId) (q : Addr) (t : Addr)  : entryFrame m #[(.ref q), (.int (2 : Int32)), (.ref t)] 5 = mkF m 0 #[.val (.ref q), .val (.int (2 : Int32)), .val (.ref t), .unset, .unset] [] := by first | (simp [entryFrame, mkF, argsToLocals, Value.category]; done) | rfl
def QU2b (Z : State) (q : Addr) (w : Addr) (kk : ClassId) (x : Addr) (dx : Int64) (sx : Int64) (y : Addr) (dy : Int64) (sy : Int64) (t : Addr) (dt : Int64) (st : Int64) (h0 : Heap) (n0 : Nat) (v : Option Value) (h : Heap) (L : List Loc) : Prop := v = none ∧ Fr n0 L ∧ Keep h0 h [w, x, t] ∧ Arv Z h w kk (.object "com/example/earnest_reactor/earnestreactor/core/ScheduledTask") (16 : Int32) [(.ref t), (.ref y), (.ref x)] .null ∧ own_TK Z h x .null dx sx .null (2 : Int32) ∧ own_TK Z h t .null dt st .null (0 : Int32)
set_option maxRecDepth 65536 in
set_option maxHeartbeats 40000000 in
theorem rmU2b (l : Launch) (Z : State) (a0 : Array Value) (hw : ∀ d ∈ tables_1, d.before a0 Z = true) (ws : List Jvm.Cond) (q : Addr) (w : Addr) (kk : ClassId) (x : Addr) (dx : Int64) (sx : Int64) (y : Addr) (dy : Int64) (sy : Int64) (t : Addr) (dt : Int64) (st : Int64) (h0 : Heap) (n0 : Nat) (Z0 : n0 ≤ h0.size) (f_O_q : own_TQ Z h0 q (.ref w) (3 : Int32)) (f_V_w : Arv Z h0 w kk (.object "com/example/earnest_reactor/earnestreactor/core/ScheduledTask") (16 : Int32) [(.ref x), (.ref y), .null] .null) (ho : Ovr Z kk "com/example/earnest_reactor/earnestreactor/core/ScheduledTask") (f_O_x : own_TK Z h0 x .null dx sx .null (0 : Int32)) (f_O_y : own_TK Z h0 y .null dy sy .null (1 : Int32)) (f_O_t : own_TK Z h0 t .null dt st .null (-1 : Int32)) (ge_w : n0 ≤ w) (ge_x : n0 ≤ x) (ge_t : n0 ≤ t) (ne_x_y : x ≠ y) (ne_x_t : x ≠ t) (ne_y_t : y ≠ t) (hz : own_rb dt st dx sx = (1 : Int32)) :
    MetFree l (⟨"com/example/earnest_reactor/earnestreactor/core/TimerQueue", "siftUp", "(ILcom/example/earnest_reactor/earnestreactor/core/ScheduledTask;)V"⟩ : MethodName) (head1 (Jvm.Cond.code (⟨"com/example/earnest_reactor/earnestreactor/core/TimerQueue", "siftUp", "(ILcom/example/earnest_reactor/earnestreactor/core/ScheduledTask;)V"⟩ : MethodName) prog_35_method_8_code 5 none :: ws) ({ frames := 2, cells := 0, slots := 0, locals := 27 } : Room)) (fun aa U => aa = #[(.ref q), (.int (2 : Int32)), (.ref t)] ∧ Z.Warmed39 U.vm ∧ U.heap = h0) (fun _ _ _ _ _ => True) (fun _ U oc U' => ∃ v L, oc = .returned v ∧ QU2b Z q w kk x dx sx y dy sy t dt st h0 n0 v U'.heap L ∧ FrameEnd U oc U' L ({ frames := 2, cells := 0, slots := 0, locals := 27 } : Room).cells ({ frames := 2, cells := 0, slots := 0, locals := 27 } : Room).slots) := by
  refine MetFree.of_bodySF (plainFor_of_name own_pn1) hisR ?_
  intro p e s m args below meth c s₁ Bd hml0 hP hK
  obtain ⟨rfl, hZ, hh⟩ := hP
  have hx := Bd.exec
  have hby := Bd.bytes
  have hlk := Bd.notSynchronized
  have hret := Bd.returns
  have hml : c.maxLocals = 5 := hml0
  have hown : s.vm.findClass "com/example/earnest_reactor/earnestreactor/core/TimerQueue" = some m.cls := findClass_of_methodNamed Bd.named
  have hnm := (name_of_methodNamed Bd.named Bd.method).1
  have X0 : Stand p l e ({ frames := 2, cells := 0, slots := 0, locals := 27 } : Room) s m #[(.ref q), (.int (2 : Int32)), (.ref t)] below meth c s₁ [] 0 0 := Stand.of_body Bd
  have e0 : s₁.heap = h0 := by rw [← hh, Bd.state]; rfl
  have N0 := Fr.nil n0
  refine own_body (Q := QU2b Z q w kk x dx sx y dy sy t dt st h0 n0) (KC := ({ frames := 2, cells := 0, slots := 0, locals := 27 } : Room).cells) (KS := ({ frames := 2, cells := 0, slots := 0, locals := 27 } : Room).slots) ?_
  rw [own_ef_rmU2b m q t]
  have Kp : Keep h0 h0 [w, x, t] := Keep.refl h0 _
  refine own_iloadN X0 hx hby d7_0 (pc' := 1) rfl rfl ?_
  refine own_istoreN X0 hx hby d7_1 (pc' := 2) rfl (l' := #[.val (.ref q), .val (.int (2 : Int32)), .val (.ref t), .val (.int (2 : Int32)), .unset]) rfl ?_
  refine own_iloadN X0 hx hby d7_2 (pc' := 3) rfl rfl ?_
  refine own_ifN X0 hx hby d7_3 (pc' := 6) rfl (show (0 : Int32) < (2 : Int32) by decide) ?_
  refine own_iloadN X0 hx hby d7_6 (pc' := 7) rfl rfl ?_
  refine own_iconst X0 hx hby d7_7 (pc' := 8) rfl (n := (1 : Int32)) (by decide) ?_
  refine own_isub X0 hx hby d7_8 (pc' := 9) rfl ?_
  show own_End p e below _ (s₁.setTop (mkF m 9 #[.val (.ref q), .val (.int (2 : Int32)), .val (.ref t), .val (.int (2 : Int32)), .unset] [(.int (1 : Int32))]))
  refine own_iconst X0 hx hby d7_9 (pc' := 10) rfl (n := (2 : Int32)) (by decide) ?_
  refine own_idiv X0 hx hby d7_10 (pc' := 11) rfl (by decide) ?_
  show own_End p e below _ (s₁.setTop (mkF m 11 #[.val (.ref q), .val (.int (2 : Int32)), .val (.ref t), .val (.int (2 : Int32)), .unset] [(.int (0 : Int32))]))
  refine own_istore X0 hx hby d7_11 (pc' := 13) rfl (l' := #[.val (.ref q), .val (.int (2 : Int32)), .val (.ref t), .val (.int (2 : Int32)), .val (.int (0 : Int32))]) rfl ?_
  refine own_aloadN X0 hx hby d7_13 (pc' := 14) rfl rfl rfl ?_
  refine own_aloadN X0 hx hby d7_14 (pc' := 15) rfl rfl rfl ?_
  obtain ⟨f_E_q, f_F_q_heap, f_F_q_size⟩ := f_O_q
  refine own_getF X0 hx hZ hby hown (host := "") (Or.inl (wd_33 hw)) Via.refl e0 f_F_q_heap d7_15 (pc' := 18) rfl (fun T1 X1 e1 => ?_)
  refine own_iload X1 hx hby d7_18 (pc' := 20) rfl rfl ?_
  obtain ⟨cl2, Ar2, q2, S2, M2, H2, G2⟩ := id f_V_w
  have hin2 : ¬ ((0 : Int32) < 0 ∨ cl2.slots.size ≤ ((0 : Int32)).toNatClampNeg) := inb_of S2 ⟨by decide, by decide⟩
  have hat2 : cl2.slots[((0 : Int32)).toNatClampNeg]? = some (.ref x) := H2.at hin2 rfl
  refine own_aaload X1 hx hZ hby e1 Ar2 rfl hin2 hat2 d7_20 (pc' := 21) rfl ?_
  refine own_lk2 hw X1 hx hZ hby (by rw [hml]; rfl) hown d7_21 (pc' := 24) rfl e1 f_O_t.1 (W := 0) (Nat.le_of_eq rfl) (rmRB l Z a0 hw [] t dt st x dx sx (-1 : Int32) (0 : Int32) (1 : Int32) h0 n0 Z0 f_O_t f_O_x hz) (by decide) (by decide) (by decide) (by decide) (fun v3 T3 L3 X3 hQ3 => ?_)
  obtain ⟨rfl, Nq3, e3⟩ := hQ3
  have N3 := Fr.app N0 Nq3
  show own_End p e below _ (T3.setTop (mkF m 24 _ [(.int (1 : Int32))]))
  refine own_ifY X3 hx hby d7_24 (pc' := 30) (by decide) (by decide) (show ¬ (1 : Int32) = (0 : Int32) by decide) ?_
  refine own_aloadN X3 hx hby d7_30 (pc' := 31) rfl rfl rfl ?_
  refine own_iloadN X3 hx hby d7_31 (pc' := 32) rfl rfl ?_
  refine own_aloadN X3 hx hby d7_32 (pc' := 33) rfl rfl rfl ?_
  refine own_getF X3 hx hZ hby hown (host := "") (Or.inl (wd_33 hw)) Via.refl e3 f_F_q_heap d7_33 (pc' := 36) rfl (fun T4 X4 e4 => ?_)
  refine own_iload X4 hx hby d7_36 (pc' := 38) rfl rfl ?_
  obtain ⟨cl5, Ar5, q5, S5, M5, H5, G5⟩ := id f_V_w
  have hin5 : ¬ ((0 : Int32) < 0 ∨ cl5.slots.size ≤ ((0 : Int32)).toNatClampNeg) := inb_of S5 ⟨by decide, by decide⟩
  have hat5 : cl5.slots[((0 : Int32)).toNatClampNeg]? = some (.ref x) := H5.at hin5 rfl
  refine own_aaload X4 hx hZ hby e4 Ar5 rfl hin5 hat5 d7_38 (pc' := 39) rfl ?_
  have f_O_q : own_TQ Z h0 q (.ref w) (3 : Int32) := ⟨f_E_q, f_F_q_heap, f_F_q_size⟩
  have ne_w_x : w ≠ x := Ne.symm (Exa.neArv f_O_x.1 f_V_w (wd_6 hw))
  have ne_y_w : y ≠ w := Exa.neArv f_O_y.1 f_V_w (wd_6 hw)
  have ne_t_w : t ≠ w := Exa.neArv f_O_t.1 f_V_w (wd_6 hw)
  have ne_q_w : q ≠ w := Exa.neArv f_O_q.1 f_V_w (wd_26 hw)
  have ne_q_x : q ≠ x := Exa.ne f_O_q.1 f_O_x.1 (by decide)
  refine own_lk1 hw X4 hx hZ hby (by rw [hml]; rfl) hown d7_39 (pc' := 42) rfl e4 f_O_q.1 (W := 0) (Nat.le_of_eq rfl) (rmPL2 l Z a0 hw [] q w kk (3 : Int32) (0 : Int32) x dx sx (.ref x) (.ref y) .null rfl rfl rfl h0 n0 Z0 f_O_q f_V_w ho f_O_x ge_w ge_x) (by decide) (by decide) (by decide) (by decide) (fun v6 T6 L6 X6 hQ6 => ?_)
  obtain ⟨rfl, Nq6, K6, V6, O6⟩ := hQ6
  have N6 := Fr.app N3 Nq6
  have f_O_y := f_O_y.keep K6 (ninS ne_y_w (ninS (Ne.symm ne_x_y) nin0))
  have f_O_t := f_O_t.keep K6 (ninS ne_t_w (ninS (Ne.symm ne_x_t) nin0))
  have f_O_q := f_O_q.keep K6 (ninS ne_q_w (ninS ne_q_x nin0))
  have Zn := Nat.le_trans Z0 K6.1
  have Kp := Kp.trans K6 (allS (Or.inl (List.mem_of_getElem? (i := 0) rfl)) (allS (Or.inl (List.mem_of_getElem? (i := 1) rfl)) all0))
  show own_End p e below _ (T6.setTop (mkF m 42 _ []))
  refine own_iload X6 hx hby d7_42 (pc' := 44) rfl rfl ?_
  refine own_istoreN X6 hx hby d7_44 (pc' := 45) rfl (l' := #[.val (.ref q), .val (.int (2 : Int32)), .val (.ref t), .val (.int (0 : Int32)), .val (.int (0 : Int32))]) rfl ?_
  refine own_goto X6 hx hby d7_45 (pc' := 2) (by decide) (by decide) ?_
  refine own_iloadN X6 hx hby d7_2 (pc' := 3) rfl rfl ?_
  refine own_ifY X6 hx hby d7_3 (pc' := 48) (by decide) (by decide) (show ¬ (0 : Int32) < (0 : Int32) by decide) ?_
  refine own_aloadN X6 hx hby d7_48 (pc' := 49) rfl rfl rfl ?_
  refine own_iloadN X6 hx hby d7_49 (pc' := 50) rfl rfl ?_
  refine own_aloadN X6 hx hby d7_50 (pc' := 51) rfl rfl rfl ?_
  have ne_q_t : q ≠ t := Exa.ne f_O_q.1 f_O_t.1 (by decide)
  refine own_lk1 hw X6 hx hZ hby (by rw [hml]; rfl) hown d7_51 (pc' := 54) rfl rfl f_O_q.1 (W := 0) (Nat.le_of_eq rfl) (rmPL0 l Z a0 hw [] q w kk (3 : Int32) (-1 : Int32) t dt st (.ref x) (.ref y) (.ref x) rfl rfl rfl T6.heap n0 Zn f_O_q V6 ho f_O_t ge_w ge_t) (by decide) (by decide) (by decide) (by decide) (fun v7 T7 L7 X7 hQ7 => ?_)
  obtain ⟨rfl, Nq7, K7, V7, O7⟩ := hQ7
  have N7 := Fr.app N6 Nq7
  have f_O_y := f_O_y.keep K7 (ninS ne_y_w (ninS ne_y_t nin0))
  have f_O_q := f_O_q.keep K7 (ninS ne_q_w (ninS ne_q_t nin0))
  have O6 := O6.keep K7 (ninS (Ne.symm ne_w_x) (ninS ne_x_t nin0))
  have Zn := Nat.le_trans Zn K7.1
  have Kp := Kp.trans K7 (allS (Or.inl (List.mem_of_getElem? (i := 0) rfl)) (allS (Or.inl (List.mem_of_getElem? (i := 2) rfl)) all0))
  show own_End p e below _ (T7.setTop (mkF m 54 _ []))
  refine own_return X7 hx hlk hby hret d7_54 (own_lv ?_ (by decide) (by decide))
  show QU2b Z q w kk x dx sx y dy sy t dt st  h0 n0 none T7.heap _
  exact ⟨rfl, N7, Kp, V7, O6, O7⟩
theorem own_ef_rmU0r1 (m : MethodId) (q : Addr) (t : Addr)  : entryFrame m #[(.ref q), (.int (0 : Int32)), (.ref t)] 5 = mkF m 0 #[.val (.ref q), .val (.int (0 : Int32)), .val (.ref t), .unset, .unset] [] := by first | (simp [entryFrame, mkF, argsToLocals, Value.category]; done) | rfl
def QU0r1 (Z : State) (q : Addr) (w : Addr) (kk : ClassId) (t : Addr) (dt : Int64) (st : Int64) (h0 : Heap) (n0 : Nat) (v : Option Value) (h : Heap) (L : List Loc) : Prop := v = none ∧ Fr n0 L ∧ Keep h0 h [w, t] ∧ Arv Z h w kk (.object "com/example/earnest_reactor/earnestreactor/core/ScheduledTask") (16 : Int32) [(.ref t), .null, .null] .null ∧ own_TK Z h t .null dt st .null (0 : Int32)
set_option maxRecDepth 65536 in
set_option maxHeartbeats 40000000 in
theorem rmU0r1 (l : Launch) (Z : State) (a0 : Array Value) (hw : ∀ d ∈ tables_1, d.before a0 Z = true) (ws : List Jvm.Cond) (q : Addr) (w : Addr) (kk : ClassId) (t : Addr) (dt : Int64) (st : Int64) (h0 : Heap) (n0 : Nat) (Z0 : n0 ≤ h0.size) (f_O_q : own_TQ Z h0 q (.ref w) (1 : Int32)) (f_V_w : Arv Z h0 w kk (.object "com/example/earnest_reactor/earnestreactor/core/ScheduledTask") (16 : Int32) [(.ref t), .null, .null] .null) (ho : Ovr Z kk "com/example/earnest_reactor/earnestreactor/core/ScheduledTask") (f_O_t : own_TK Z h0 t .null dt st .null (0 : Int32)) (ge_w : n0 ≤ w) (ge_t : n0 ≤ t) :
    MetFree l (⟨"com/example/earnest_reactor/earnestreactor/core/TimerQueue", "siftUp", "(ILcom/example/earnest_reactor/earnestreactor/core/ScheduledTask;)V"⟩ : MethodName) (head1 (Jvm.Cond.code (⟨"com/example/earnest_reactor/earnestreactor/core/TimerQueue", "siftUp", "(ILcom/example/earnest_reactor/earnestreactor/core/ScheduledTask;)V"⟩ : MethodName) prog_35_method_8_code 5 none :: ws) ({ frames := 2, cells := 0, slots := 0, locals := 27 } : Room)) (fun aa U => aa = #[(.ref q), (.int (0 : Int32)), (.ref t)] ∧ Z.Warmed39 U.vm ∧ U.heap = h0) (fun _ _ _ _ _ => True) (fun _ U oc U' => ∃ v L, oc = .returned v ∧ QU0r1 Z q w kk t dt st h0 n0 v U'.heap L ∧ FrameEnd U oc U' L ({ frames := 2, cells := 0, slots := 0, locals := 27 } : Room).cells ({ frames := 2, cells := 0, slots := 0, locals := 27 } : Room).slots) := by
  refine MetFree.of_bodySF (plainFor_of_name own_pn1) hisR ?_
  intro p e s m args below meth c s₁ Bd hml0 hP hK
  obtain ⟨rfl, hZ, hh⟩ := hP
  have hx := Bd.exec
  have hby := Bd.bytes
  have hlk := Bd.notSynchronized
  have hret := Bd.returns
  have hml : c.maxLocals = 5 := hml0
  have hown : s.vm.findClass "com/example/earnest_reactor/earnestreactor/core/TimerQueue" = some m.cls := findClass_of_methodNamed Bd.named
  have hnm := (name_of_methodNamed Bd.named Bd.method).1
  have X0 : Stand p l e ({ frames := 2, cells := 0, slots := 0, locals := 27 } : Room) s m #[(.ref q), (.int (0 : Int32)), (.ref t)] below meth c s₁ [] 0 0 := Stand.of_body Bd
  have e0 : s₁.heap = h0 := by rw [← hh, Bd.state]; rfl
  have N0 := Fr.nil n0
  refine own_body (Q := QU0r1 Z q w kk t dt st h0 n0) (KC := ({ frames := 2, cells := 0, slots := 0, locals := 27 } : Room).cells) (KS := ({ frames := 2, cells := 0, slots := 0, locals := 27 } : Room).slots) ?_
  rw [own_ef_rmU0r1 m q t]
  have Kp : Keep h0 h0 [w, t] := Keep.refl h0 _
  refine own_iloadN X0 hx hby d7_0 (pc' := 1) rfl rfl ?_
  refine own_istoreN X0 hx hby d7_1 (pc' := 2) rfl (l' := #[.val (.ref q), .val (.int (0 : Int32)), .val (.ref t), .val (.int (0 : Int32)), .unset]) rfl ?_
  refine own_iloadN X0 hx hby d7_2 (pc' := 3) rfl rfl ?_
  refine own_ifY X0 hx hby d7_3 (pc' := 48) (by decide) (by decide) (show ¬ (0 : Int32) < (0 : Int32) by decide) ?_
  refine own_aloadN X0 hx hby d7_48 (pc' := 49) rfl rfl rfl ?_
  refine own_iloadN X0 hx hby d7_49 (pc' := 50) rfl rfl ?_
  refine own_aloadN X0 hx hby d7_50 (pc' := 51) rfl rfl rfl ?_
  have ne_q_w : q ≠ w := Exa.neArv f_O_q.1 f_V_w (wd_26 hw)
  have ne_q_t : q ≠ t := Exa.ne f_O_q.1 f_O_t.1 (by decide)
  have ne_w_t : w ≠ t := Ne.symm (Exa.neArv f_O_t.1 f_V_w (wd_6 hw))
  refine own_lk1 hw X0 hx hZ hby (by rw [hml]; rfl) hown d7_51 (pc' := 54) rfl e0 f_O_q.1 (W := 0) (Nat.le_of_eq rfl) (rmPL0 l Z a0 hw [] q w kk (1 : Int32) (0 : Int32) t dt st (.ref t) .null .null rfl rfl rfl h0 n0 Z0 f_O_q f_V_w ho f_O_t ge_w ge_t) (by decide) (by decide) (by decide) (by decide) (fun v1 T1 L1 X1 hQ1 => ?_)
  obtain ⟨rfl, Nq1, K1, V1, O1⟩ := hQ1
  have N1 := Fr.app N0 Nq1
  have f_O_q := f_O_q.keep K1 (ninS ne_q_w (ninS ne_q_t nin0))
  have Zn := Nat.le_trans Z0 K1.1
  have Kp := Kp.trans K1 (allS (Or.inl (List.mem_of_getElem? (i := 0) rfl)) (allS (Or.inl (List.mem_of_getElem? (i := 1) rfl)) all0))
  show own_End p e below _ (T1.setTop (mkF m 54 _ []))
  refine own_return X1 hx hlk hby hret d7_54 (own_lv ?_ (by decide) (by decide))
  show QU0r1 Z q w kk t dt st  h0 n0 none T1.heap _
  exact ⟨rfl, N1, Kp, V1, O1⟩
theorem own_ef_rmU0r2 (m : MethodId) (q : Addr) (t : Addr)  : entryFrame m #[(.ref q), (.int (0 : Int32)), (.ref t)] 5 = mkF m 0 #[.val (.ref q), .val (.int (0 : Int32)), .val (.ref t), .unset, .unset] [] := by first | (simp [entryFrame, mkF, argsToLocals, Value.category]; done) | rfl
def QU0r2 (Z : State) (q : Addr) (w : Addr) (kk : ClassId) (t : Addr) (dt : Int64) (st : Int64) (y : Addr) (dy : Int64) (sy : Int64) (h0 : Heap) (n0 : Nat) (v : Option Value) (h : Heap) (L : List Loc) : Prop := v = none ∧ Fr n0 L ∧ Keep h0 h [w, t] ∧ Arv Z h w kk (.object "com/example/earnest_reactor/earnestreactor/core/ScheduledTask") (16 : Int32) [(.ref t), (.ref y), .null] .null ∧ own_TK Z h t .null dt st .null (0 : Int32)
set_option maxRecDepth 65536 in
set_option maxHeartbeats 40000000 in
theorem rmU0r2 (l : Launch) (Z : State) (a0 : Array Value) (hw : ∀ d ∈ tables_1, d.before a0 Z = true) (ws : List Jvm.Cond) (q : Addr) (w : Addr) (kk : ClassId) (t : Addr) (dt : Int64) (st : Int64) (y : Addr) (dy : Int64) (sy : Int64) (h0 : Heap) (n0 : Nat) (Z0 : n0 ≤ h0.size) (f_O_q : own_TQ Z h0 q (.ref w) (2 : Int32)) (f_V_w : Arv Z h0 w kk (.object "com/example/earnest_reactor/earnestreactor/core/ScheduledTask") (16 : Int32) [(.ref t), (.ref y), .null] .null) (ho : Ovr Z kk "com/example/earnest_reactor/earnestreactor/core/ScheduledTask") (f_O_t : own_TK Z h0 t .null dt st .null (0 : Int32)) (f_O_y : own_TK Z h0 y .null dy sy .null (1 : Int32)) (ge_w : n0 ≤ w) (ge_t : n0 ≤ t) (ne_t_y : t ≠ y) :
    MetFree l (⟨"com/example/earnest_reactor/earnestreactor/core/TimerQueue", "siftUp", "(ILcom/example/earnest_reactor/earnestreactor/core/ScheduledTask;)V"⟩ : MethodName) (head1 (Jvm.Cond.code (⟨"com/example/earnest_reactor/earnestreactor/core/TimerQueue", "siftUp", "(ILcom/example/earnest_reactor/earnestreactor/core/ScheduledTask;)V"⟩ : MethodName) prog_35_method_8_code 5 none :: ws) ({ frames := 2, cells := 0, slots := 0, locals := 27 } : Room)) (fun aa U => aa = #[(.ref q), (.int (0 : Int32)), (.ref t)] ∧ Z.Warmed39 U.vm ∧ U.heap = h0) (fun _ _ _ _ _ => True) (fun _ U oc U' => ∃ v L, oc = .returned v ∧ QU0r2 Z q w kk t dt st y dy sy h0 n0 v U'.heap L ∧ FrameEnd U oc U' L ({ frames := 2, cells := 0, slots := 0, locals := 27 } : Room).cells ({ frames := 2, cells := 0, slots := 0, locals := 27 } : Room).slots) := by
  refine MetFree.of_bodySF (plainFor_of_name own_pn1) hisR ?_
  intro p e s m args below meth c s₁ Bd hml0 hP hK
  obtain ⟨rfl, hZ, hh⟩ := hP
  have hx := Bd.exec
  have hby := Bd.bytes
  have hlk := Bd.notSynchronized
  have hret := Bd.returns
  have hml : c.maxLocals = 5 := hml0
  have hown : s.vm.findClass "com/example/earnest_reactor/earnestreactor/core/TimerQueue" = some m.cls := findClass_of_methodNamed Bd.named
  have hnm := (name_of_methodNamed Bd.named Bd.method).1
  have X0 : Stand p l e ({ frames := 2, cells := 0, slots := 0, locals := 27 } : Room) s m #[(.ref q), (.int (0 : Int32)), (.ref t)] below meth c s₁ [] 0 0 := Stand.of_body Bd
  have e0 : s₁.heap = h0 := by rw [← hh, Bd.state]; rfl
  have N0 := Fr.nil n0
  refine own_body (Q := QU0r2 Z q w kk t dt st y dy sy h0 n0) (KC := ({ frames := 2, cells := 0, slots := 0, locals := 27 } : Room).cells) (KS := ({ frames := 2, cells := 0, slots := 0, locals := 27 } : Room).slots) ?_
  rw [own_ef_rmU0r2 m q t]
  have Kp : Keep h0 h0 [w, t] := Keep.refl h0 _
  refine own_iloadN X0 hx hby d7_0 (pc' := 1) rfl rfl ?_
  refine own_istoreN X0 hx hby d7_1 (pc' := 2) rfl (l' := #[.val (.ref q), .val (.int (0 : Int32)), .val (.ref t), .val (.int (0 : Int32)), .unset]) rfl ?_
  refine own_iloadN X0 hx hby d7_2 (pc' := 3) rfl rfl ?_
  refine own_ifY X0 hx hby d7_3 (pc' := 48) (by decide) (by decide) (show ¬ (0 : Int32) < (0 : Int32) by decide) ?_
  refine own_aloadN X0 hx hby d7_48 (pc' := 49) rfl rfl rfl ?_
  refine own_iloadN X0 hx hby d7_49 (pc' := 50) rfl rfl ?_
  refine own_aloadN X0 hx hby d7_50 (pc' := 51) rfl rfl rfl ?_
  have ne_q_w : q ≠ w := Exa.neArv f_O_q.1 f_V_w (wd_26 hw)
  have ne_q_t : q ≠ t := Exa.ne f_O_q.1 f_O_t.1 (by decide)
  have ne_w_t : w ≠ t := Ne.symm (Exa.neArv f_O_t.1 f_V_w (wd_6 hw))
  have ne_y_w : y ≠ w := Exa.neArv f_O_y.1 f_V_w (wd_6 hw)
  refine own_lk1 hw X0 hx hZ hby (by rw [hml]; rfl) hown d7_51 (pc' := 54) rfl e0 f_O_q.1 (W := 0) (Nat.le_of_eq rfl) (rmPL0 l Z a0 hw [] q w kk (2 : Int32) (0 : Int32) t dt st (.ref t) (.ref y) .null rfl rfl rfl h0 n0 Z0 f_O_q f_V_w ho f_O_t ge_w ge_t) (by decide) (by decide) (by decide) (by decide) (fun v1 T1 L1 X1 hQ1 => ?_)
  obtain ⟨rfl, Nq1, K1, V1, O1⟩ := hQ1
  have N1 := Fr.app N0 Nq1
  have f_O_q := f_O_q.keep K1 (ninS ne_q_w (ninS ne_q_t nin0))
  have f_O_y := f_O_y.keep K1 (ninS ne_y_w (ninS (Ne.symm ne_t_y) nin0))
  have Zn := Nat.le_trans Z0 K1.1
  have Kp := Kp.trans K1 (allS (Or.inl (List.mem_of_getElem? (i := 0) rfl)) (allS (Or.inl (List.mem_of_getElem? (i := 1) rfl)) all0))
  show own_End p e below _ (T1.setTop (mkF m 54 _ []))
  refine own_return X1 hx hlk hby hret d7_54 (own_lv ?_ (by decide) (by decide))
  show QU0r2 Z q w kk t dt st y dy sy  h0 n0 none T1.heap _
  exact ⟨rfl, N1, Kp, V1, O1⟩
theorem own_ef_rmD1 (m : MethodId) (q : Addr) (t : Addr)  : entryFrame m #[(.ref q), (.int (0 : Int32)), (.ref t)] 6 = mkF m 0 #[.val (.ref q), .val (.int (0 : Int32)), .val (.ref t), .unset, .unset, .unset] [] := by first | (simp [entryFrame, mkF, argsToLocals, Value.category]; done) | rfl
def QD1 (Z : State) (q : Addr) (w : Addr) (kk : ClassId) (t : Addr) (dt : Int64) (st : Int64) (v0 : Value) (hv0 : v0.isRef = true) (h0 : Heap) (n0 : Nat) (v : Option Value) (h : Heap) (L : List Loc) : Prop := v = none ∧ Fr n0 L ∧ Keep h0 h [w, t] ∧ Arv Z h w kk (.object "com/example/earnest_reactor/earnestreactor/core/ScheduledTask") (16 : Int32) [(.ref t), .null, .null] .null ∧ own_TK Z h t .null dt st .null (0 : Int32)
set_option maxRecDepth 65536 in
set_option maxHeartbeats 40000000 in
theorem rmD1 (l : Launch) (Z : State) (a0 : Array Value) (hw : ∀ d ∈ tables_1, d.before a0 Z = true) (ws : List Jvm.Cond) (q : Addr) (w : Addr) (kk : ClassId) (t : Addr) (dt : Int64) (st : Int64) (v0 : Value) (hv0 : v0.isRef = true) (h0 : Heap) (n0 : Nat) (Z0 : n0 ≤ h0.size) (f_O_q : own_TQ Z h0 q (.ref w) (1 : Int32)) (f_V_w : Arv Z h0 w kk (.object "com/example/earnest_reactor/earnestreactor/core/ScheduledTask") (16 : Int32) [v0, .null, .null] .null) (ho : Ovr Z kk "com/example/earnest_reactor/earnestreactor/core/ScheduledTask") (f_O_t : own_TK Z h0 t .null dt st .null (1 : Int32)) (ge_w : n0 ≤ w) (ge_t : n0 ≤ t) :
    MetFree l (⟨"com/example/earnest_reactor/earnestreactor/core/TimerQueue", "siftDown", "(ILcom/example/earnest_reactor/earnestreactor/core/ScheduledTask;)V"⟩ : MethodName) (head1 (Jvm.Cond.code (⟨"com/example/earnest_reactor/earnestreactor/core/TimerQueue", "siftDown", "(ILcom/example/earnest_reactor/earnestreactor/core/ScheduledTask;)V"⟩ : MethodName) prog_35_method_9_code 6 none :: ws) ({ frames := 2, cells := 0, slots := 0, locals := 27 } : Room)) (fun aa U => aa = #[(.ref q), (.int (0 : Int32)), (.ref t)] ∧ Z.Warmed39 U.vm ∧ U.heap = h0) (fun _ _ _ _ _ => True) (fun _ U oc U' => ∃ v L, oc = .returned v ∧ QD1 Z q w kk t dt st v0 hv0 h0 n0 v U'.heap L ∧ FrameEnd U oc U' L ({ frames := 2, cells := 0, slots := 0, locals := 27 } : Room).cells ({ frames := 2, cells := 0, slots := 0, locals := 27 } : Room).slots) := by
  refine MetFree.of_bodySF (plainFor_of_name own_pn1) hisR ?_
  intro p e s m args below meth c s₁ Bd hml0 hP hK
  obtain ⟨rfl, hZ, hh⟩ := hP
  have hx := Bd.exec
  have hby := Bd.bytes
  have hlk := Bd.notSynchronized
  have hret := Bd.returns
  have hml : c.maxLocals = 6 := hml0
  have hown : s.vm.findClass "com/example/earnest_reactor/earnestreactor/core/TimerQueue" = some m.cls := findClass_of_methodNamed Bd.named
  have hnm := (name_of_methodNamed Bd.named Bd.method).1
  have X0 : Stand p l e ({ frames := 2, cells := 0, slots := 0, locals := 27 } : Room) s m #[(.ref q), (.int (0 : Int32)), (.ref t)] below meth c s₁ [] 0 0 := Stand.of_body Bd
  have e0 : s₁.heap = h0 := by rw [← hh, Bd.state]; rfl
  have N0 := Fr.nil n0
  refine own_body (Q := QD1 Z q w kk t dt st v0 hv0 h0 n0) (KC := ({ frames := 2, cells := 0, slots := 0, locals := 27 } : Room).cells) (KS := ({ frames := 2, cells := 0, slots := 0, locals := 27 } : Room).slots) ?_
  rw [own_ef_rmD1 m q t]
  have Kp : Keep h0 h0 [w, t] := Keep.refl h0 _
  refine own_iloadN X0 hx hby d14_0 (pc' := 1) rfl rfl ?_
  refine own_istoreN X0 hx hby d14_1 (pc' := 2) rfl (l' := #[.val (.ref q), .val (.int (0 : Int32)), .val (.ref t), .val (.int (0 : Int32)), .unset, .unset]) rfl ?_
  refine own_aloadN X0 hx hby d14_2 (pc' := 3) rfl rfl rfl ?_
  obtain ⟨f_E_q, f_F_q_heap, f_F_q_size⟩ := f_O_q
  refine own_getF X0 hx hZ hby hown (host := "") (Or.inl (wd_49 hw)) Via.refl e0 f_F_q_size d14_3 (pc' := 6) rfl (fun T1 X1 e1 => ?_)
  refine own_iconst X1 hx hby d14_6 (pc' := 7) rfl (n := (2 : Int32)) (by decide) ?_
  refine own_idiv X1 hx hby d14_7 (pc' := 8) rfl (by decide) ?_
  show own_End p e below _ (T1.setTop (mkF m 8 #[.val (.ref q), .val (.int (0 : Int32)), .val (.ref t), .val (.int (0 : Int32)), .unset, .unset] [(.int (0 : Int32))]))
  refine own_istore X1 hx hby d14_8 (pc' := 10) rfl (l' := #[.val (.ref q), .val (.int (0 : Int32)), .val (.ref t), .val (.int (0 : Int32)), .val (.int (0 : Int32)), .unset]) rfl ?_
  refine own_iloadN X1 hx hby d14_10 (pc' := 11) rfl rfl ?_
  refine own_iload X1 hx hby d14_11 (pc' := 13) rfl rfl ?_
  refine own_icY X1 hx hby d14_13 (pc' := 94) (by decide) (by decide) (show ¬ (0 : Int32) < (0 : Int32) by decide) ?_
  refine own_aloadN X1 hx hby d14_94 (pc' := 95) rfl rfl rfl ?_
  refine own_iloadN X1 hx hby d14_95 (pc' := 96) rfl rfl ?_
  refine own_aloadN X1 hx hby d14_96 (pc' := 97) rfl rfl rfl ?_
  have f_O_q : own_TQ Z h0 q (.ref w) (1 : Int32) := ⟨f_E_q, f_F_q_heap, f_F_q_size⟩
  have ne_w_t : w ≠ t := Ne.symm (Exa.neArv f_O_t.1 f_V_w (wd_6 hw))
  have ne_q_w : q ≠ w := Exa.neArv f_O_q.1 f_V_w (wd_26 hw)
  have ne_q_t : q ≠ t := Exa.ne f_O_q.1 f_O_t.1 (by decide)
  refine own_lk1 hw X1 hx hZ hby (by rw [hml]; rfl) hown d14_97 (pc' := 100) rfl e1 f_O_q.1 (W := 0) (Nat.le_of_eq rfl) (rmPL0 l Z a0 hw [] q w kk (1 : Int32) (1 : Int32) t dt st v0 .null .null hv0 rfl rfl h0 n0 Z0 f_O_q f_V_w ho f_O_t ge_w ge_t) (by decide) (by decide) (by decide) (by decide) (fun v2 T2 L2 X2 hQ2 => ?_)
  obtain ⟨rfl, Nq2, K2, V2, O2⟩ := hQ2
  have N2 := Fr.app N0 Nq2
  have f_O_q := f_O_q.keep K2 (ninS ne_q_w (ninS ne_q_t nin0))
  have Zn := Nat.le_trans Z0 K2.1
  have Kp := Kp.trans K2 (allS (Or.inl (List.mem_of_getElem? (i := 0) rfl)) (allS (Or.inl (List.mem_of_getElem? (i := 1) rfl)) all0))
  show own_End p e below _ (T2.setTop (mkF m 100 _ []))
  refine own_return X2 hx hlk hby hret d14_100 (own_lv ?_ (by decide) (by decide))
  show QD1 Z q w kk t dt st v0 hv0  h0 n0 none T2.heap _
  exact ⟨rfl, N2, Kp, V2, O2⟩
theorem own_ef_rmD2a (m : MethodId) (q : Addr) (t : Addr)  : entryFrame m #[(.ref q), (.int (0 : Int32)), (.ref t)] 6 = mkF m 0 #[.val (.ref q), .val (.int (0 : Int32)), .val (.ref t), .unset, .unset, .unset] [] := by first | (simp [entryFrame, mkF, argsToLocals, Value.category]; done) | rfl
def QD2a (Z : State) (q : Addr) (w : Addr) (kk : ClassId) (t : Addr) (dt : Int64) (st : Int64) (y : Addr) (dy : Int64) (sy : Int64) (v0 : Value) (hv0 : v0.isRef = true) (h0 : Heap) (n0 : Nat) (v : Option Value) (h : Heap) (L : List Loc) : Prop := v = none ∧ Fr n0 L ∧ Keep h0 h [w, t] ∧ Arv Z h w kk (.object "com/example/earnest_reactor/earnestreactor/core/ScheduledTask") (16 : Int32) [(.ref t), (.ref y), .null] .null ∧ own_TK Z h t .null dt st .null (0 : Int32)
set_option maxRecDepth 65536 in
set_option maxHeartbeats 40000000 in
theorem rmD2a (l : Launch) (Z : State) (a0 : Array Value) (hw : ∀ d ∈ tables_1, d.before a0 Z = true) (ws : List Jvm.Cond) (q : Addr) (w : Addr) (kk : ClassId) (t : Addr) (dt : Int64) (st : Int64) (y : Addr) (dy : Int64) (sy : Int64) (v0 : Value) (hv0 : v0.isRef = true) (h0 : Heap) (n0 : Nat) (Z0 : n0 ≤ h0.size) (f_O_q : own_TQ Z h0 q (.ref w) (2 : Int32)) (f_V_w : Arv Z h0 w kk (.object "com/example/earnest_reactor/earnestreactor/core/ScheduledTask") (16 : Int32) [v0, (.ref y), .null] .null) (ho : Ovr Z kk "com/example/earnest_reactor/earnestreactor/core/ScheduledTask") (f_O_t : own_TK Z h0 t .null dt st .null (2 : Int32)) (f_O_y : own_TK Z h0 y .null dy sy .null (1 : Int32)) (ge_w : n0 ≤ w) (ge_t : n0 ≤ t) (ne_t_y : t ≠ y) (hz : own_rb dy sy dt st = (0 : Int32)) :
    MetFree l (⟨"com/example/earnest_reactor/earnestreactor/core/TimerQueue", "siftDown", "(ILcom/example/earnest_reactor/earnestreactor/core/ScheduledTask;)V"⟩ : MethodName) (head1 (Jvm.Cond.code (⟨"com/example/earnest_reactor/earnestreactor/core/TimerQueue", "siftDown", "(ILcom/example/earnest_reactor/earnestreactor/core/ScheduledTask;)V"⟩ : MethodName) prog_35_method_9_code 6 none :: ws) ({ frames := 2, cells := 0, slots := 0, locals := 27 } : Room)) (fun aa U => aa = #[(.ref q), (.int (0 : Int32)), (.ref t)] ∧ Z.Warmed39 U.vm ∧ U.heap = h0) (fun _ _ _ _ _ => True) (fun _ U oc U' => ∃ v L, oc = .returned v ∧ QD2a Z q w kk t dt st y dy sy v0 hv0 h0 n0 v U'.heap L ∧ FrameEnd U oc U' L ({ frames := 2, cells := 0, slots := 0, locals := 27 } : Room).cells ({ frames := 2, cells := 0, slots := 0, locals := 27 } : Room).slots) := by
  refine MetFree.of_bodySF (plainFor_of_name own_pn1) hisR ?_
  intro p e s m args below meth c s₁ Bd hml0 hP hK
  obtain ⟨rfl, hZ, hh⟩ := hP
  have hx := Bd.exec
  have hby := Bd.bytes
  have hlk := Bd.notSynchronized
  have hret := Bd.returns
  have hml : c.maxLocals = 6 := hml0
  have hown : s.vm.findClass "com/example/earnest_reactor/earnestreactor/core/TimerQueue" = some m.cls := findClass_of_methodNamed Bd.named
  have hnm := (name_of_methodNamed Bd.named Bd.method).1
  have X0 : Stand p l e ({ frames := 2, cells := 0, slots := 0, locals := 27 } : Room) s m #[(.ref q), (.int (0 : Int32)), (.ref t)] below meth c s₁ [] 0 0 := Stand.of_body Bd
  have e0 : s₁.heap = h0 := by rw [← hh, Bd.state]; rfl
  have N0 := Fr.nil n0
  refine own_body (Q := QD2a Z q w kk t dt st y dy sy v0 hv0 h0 n0) (KC := ({ frames := 2, cells := 0, slots := 0, locals := 27 } : Room).cells) (KS := ({ frames := 2, cells := 0, slots := 0, locals := 27 } : Room).slots) ?_
  rw [own_ef_rmD2a m q t]
  have Kp : Keep h0 h0 [w, t] := Keep.refl h0 _
  refine own_iloadN X0 hx hby d14_0 (pc' := 1) rfl rfl ?_
  refine own_istoreN X0 hx hby d14_1 (pc' := 2) rfl (l' := #[.val (.ref q), .val (.int (0 : Int32)), .val (.ref t), .val (.int (0 : Int32)), .unset, .unset]) rfl ?_
  refine own_aloadN X0 hx hby d14_2 (pc' := 3) rfl rfl rfl ?_
  obtain ⟨f_E_q, f_F_q_heap, f_F_q_size⟩ := f_O_q
  refine own_getF X0 hx hZ hby hown (host := "") (Or.inl (wd_49 hw)) Via.refl e0 f_F_q_size d14_3 (pc' := 6) rfl (fun T1 X1 e1 => ?_)
  refine own_iconst X1 hx hby d14_6 (pc' := 7) rfl (n := (2 : Int32)) (by decide) ?_
  refine own_idiv X1 hx hby d14_7 (pc' := 8) rfl (by decide) ?_
  show own_End p e below _ (T1.setTop (mkF m 8 #[.val (.ref q), .val (.int (0 : Int32)), .val (.ref t), .val (.int (0 : Int32)), .unset, .unset] [(.int (1 : Int32))]))
  refine own_istore X1 hx hby d14_8 (pc' := 10) rfl (l' := #[.val (.ref q), .val (.int (0 : Int32)), .val (.ref t), .val (.int (0 : Int32)), .val (.int (1 : Int32)), .unset]) rfl ?_
  refine own_iloadN X1 hx hby d14_10 (pc' := 11) rfl rfl ?_
  refine own_iload X1 hx hby d14_11 (pc' := 13) rfl rfl ?_
  refine own_icN X1 hx hby d14_13 (pc' := 16) rfl (show (0 : Int32) < (1 : Int32) by decide) ?_
  refine own_iconst X1 hx hby d14_16 (pc' := 17) rfl (n := (2 : Int32)) (by decide) ?_
  refine own_iloadN X1 hx hby d14_17 (pc' := 18) rfl rfl ?_
  refine own_imul X1 hx hby d14_18 (pc' := 19) rfl ?_
  show own_End p e below _ (T1.setTop (mkF m 19 #[.val (.ref q), .val (.int (0 : Int32)), .val (.ref t), .val (.int (0 : Int32)), .val (.int (1 : Int32)), .unset] [(.int (0 : Int32))]))
  refine own_iconst X1 hx hby d14_19 (pc' := 20) rfl (n := (1 : Int32)) (by decide) ?_
  refine own_iadd X1 hx hby d14_20 (pc' := 21) rfl ?_
  show own_End p e below _ (T1.setTop (mkF m 21 #[.val (.ref q), .val (.int (0 : Int32)), .val (.ref t), .val (.int (0 : Int32)), .val (.int (1 : Int32)), .unset] [(.int (1 : Int32))]))
  refine own_istore X1 hx hby d14_21 (pc' := 23) rfl (l' := #[.val (.ref q), .val (.int (0 : Int32)), .val (.ref t), .val (.int (0 : Int32)), .val (.int (1 : Int32)), .val (.int (1 : Int32))]) rfl ?_
  refine own_iload X1 hx hby d14_23 (pc' := 25) rfl rfl ?_
  refine own_iconst X1 hx hby d14_25 (pc' := 26) rfl (n := (1 : Int32)) (by decide) ?_
  refine own_iadd X1 hx hby d14_26 (pc' := 27) rfl ?_
  show own_End p e below _ (T1.setTop (mkF m 27 #[.val (.ref q), .val (.int (0 : Int32)), .val (.ref t), .val (.int (0 : Int32)), .val (.int (1 : Int32)), .val (.int (1 : Int32))] [(.int (2 : Int32))]))
  refine own_aloadN X1 hx hby d14_27 (pc' := 28) rfl rfl rfl ?_
  refine own_getF X1 hx hZ hby hown (host := "") (Or.inl (wd_49 hw)) Via.refl e1 f_F_q_size d14_28 (pc' := 31) rfl (fun T2 X2 e2 => ?_)
  refine own_icY X2 hx hby d14_31 (pc' := 59) (by decide) (by decide) (show ¬ (2 : Int32) < (2 : Int32) by decide) ?_
  refine own_aloadN X2 hx hby d14_59 (pc' := 60) rfl rfl rfl ?_
  refine own_getF X2 hx hZ hby hown (host := "") (Or.inl (wd_33 hw)) Via.refl e2 f_F_q_heap d14_60 (pc' := 63) rfl (fun T3 X3 e3 => ?_)
  refine own_iload X3 hx hby d14_63 (pc' := 65) rfl rfl ?_
  obtain ⟨cl4, Ar4, q4, S4, M4, H4, G4⟩ := id f_V_w
  have hin4 : ¬ ((1 : Int32) < 0 ∨ cl4.slots.size ≤ ((1 : Int32)).toNatClampNeg) := inb_of S4 ⟨by decide, by decide⟩
  have hat4 : cl4.slots[((1 : Int32)).toNatClampNeg]? = some (.ref y) := H4.at hin4 rfl
  refine own_aaload X3 hx hZ hby e3 Ar4 rfl hin4 hat4 d14_65 (pc' := 66) rfl ?_
  refine own_aloadN X3 hx hby d14_66 (pc' := 67) rfl rfl rfl ?_
  refine own_lk2 hw X3 hx hZ hby (by rw [hml]; rfl) hown d14_67 (pc' := 70) rfl e3 f_O_y.1 (W := 0) (Nat.le_of_eq rfl) (rmRB l Z a0 hw [] y dy sy t dt st (1 : Int32) (2 : Int32) (0 : Int32) h0 n0 Z0 f_O_y f_O_t hz) (by decide) (by decide) (by decide) (by decide) (fun v5 T5 L5 X5 hQ5 => ?_)
  obtain ⟨rfl, Nq5, e5⟩ := hQ5
  have N5 := Fr.app N0 Nq5
  show own_End p e below _ (T5.setTop (mkF m 70 _ [(.int (0 : Int32))]))
  refine own_ifN X5 hx hby d14_70 (pc' := 73) rfl (show (0 : Int32) = (0 : Int32) by decide) ?_
  refine own_goto X5 hx hby d14_73 (pc' := 94) (by decide) (by decide) ?_
  refine own_aloadN X5 hx hby d14_94 (pc' := 95) rfl rfl rfl ?_
  refine own_iloadN X5 hx hby d14_95 (pc' := 96) rfl rfl ?_
  refine own_aloadN X5 hx hby d14_96 (pc' := 97) rfl rfl rfl ?_
  have f_O_q : own_TQ Z h0 q (.ref w) (2 : Int32) := ⟨f_E_q, f_F_q_heap, f_F_q_size⟩
  have ne_w_t : w ≠ t := Ne.symm (Exa.neArv f_O_t.1 f_V_w (wd_6 hw))
  have ne_y_w : y ≠ w := Exa.neArv f_O_y.1 f_V_w (wd_6 hw)
  have ne_q_w : q ≠ w := Exa.neArv f_O_q.1 f_V_w (wd_26 hw)
  have ne_q_t : q ≠ t := Exa.ne f_O_q.1 f_O_t.1 (by decide)
  refine own_lk1 hw X5 hx hZ hby (by rw [hml]; rfl) hown d14_97 (pc' := 100) rfl e5 f_O_q.1 (W := 0) (Nat.le_of_eq rfl) (rmPL0 l Z a0 hw [] q w kk (2 : Int32) (2 : Int32) t dt st v0 (.ref y) .null hv0 rfl rfl h0 n0 Z0 f_O_q f_V_w ho f_O_t ge_w ge_t) (by decide) (by decide) (by decide) (by decide) (fun v6 T6 L6 X6 hQ6 => ?_)
  obtain ⟨rfl, Nq6, K6, V6, O6⟩ := hQ6
  have N6 := Fr.app N5 Nq6
  have f_O_y := f_O_y.keep K6 (ninS ne_y_w (ninS (Ne.symm ne_t_y) nin0))
  have f_O_q := f_O_q.keep K6 (ninS ne_q_w (ninS ne_q_t nin0))
  have Zn := Nat.le_trans Z0 K6.1
  have Kp := Kp.trans K6 (allS (Or.inl (List.mem_of_getElem? (i := 0) rfl)) (allS (Or.inl (List.mem_of_getElem? (i := 1) rfl)) all0))
  show own_End p e below _ (T6.setTop (mkF m 100 _ []))
  refine own_return X6 hx hlk hby hret d14_100 (own_lv ?_ (by decide) (by decide))
  show QD2a Z q w kk t dt st y dy sy v0 hv0  h0 n0 none T6.heap _
  exact ⟨rfl, N6, Kp, V6, O6⟩
theorem own_ef_rmD2b (m : MethodId) (q : Addr) (t : Addr)  : entryFrame m #[(.ref q), (.int (0 : Int32)), (.ref t)] 6 = mkF m 0 #[.val (.ref q), .val (.int (0 : Int32)), .val (.ref t), .unset, .unset, .unset] [] := by first | (simp [entryFrame, mkF, argsToLocals, Value.category]; done) | rfl
def QD2b (Z : State) (q : Addr) (w : Addr) (kk : ClassId) (t : Addr) (dt : Int64) (st : Int64) (y : Addr) (dy : Int64) (sy : Int64) (v0 : Value) (hv0 : v0.isRef = true) (h0 : Heap) (n0 : Nat) (v : Option Value) (h : Heap) (L : List Loc) : Prop := v = none ∧ Fr n0 L ∧ Keep h0 h [w, t, y] ∧ Arv Z h w kk (.object "com/example/earnest_reactor/earnestreactor/core/ScheduledTask") (16 : Int32) [(.ref y), (.ref t), .null] .null ∧ own_TK Z h t .null dt st .null (1 : Int32) ∧ own_TK Z h y .null dy sy .null (0 : Int32)
set_option maxRecDepth 65536 in
set_option maxHeartbeats 40000000 in
theorem rmD2b (l : Launch) (Z : State) (a0 : Array Value) (hw : ∀ d ∈ tables_1, d.before a0 Z = true) (ws : List Jvm.Cond) (q : Addr) (w : Addr) (kk : ClassId) (t : Addr) (dt : Int64) (st : Int64) (y : Addr) (dy : Int64) (sy : Int64) (v0 : Value) (hv0 : v0.isRef = true) (h0 : Heap) (n0 : Nat) (Z0 : n0 ≤ h0.size) (f_O_q : own_TQ Z h0 q (.ref w) (2 : Int32)) (f_V_w : Arv Z h0 w kk (.object "com/example/earnest_reactor/earnestreactor/core/ScheduledTask") (16 : Int32) [v0, (.ref y), .null] .null) (ho : Ovr Z kk "com/example/earnest_reactor/earnestreactor/core/ScheduledTask") (f_O_t : own_TK Z h0 t .null dt st .null (2 : Int32)) (f_O_y : own_TK Z h0 y .null dy sy .null (1 : Int32)) (ge_w : n0 ≤ w) (ge_t : n0 ≤ t) (ge_y : n0 ≤ y) (ne_t_y : t ≠ y) (hz : own_rb dy sy dt st = (1 : Int32)) :
    MetFree l (⟨"com/example/earnest_reactor/earnestreactor/core/TimerQueue", "siftDown", "(ILcom/example/earnest_reactor/earnestreactor/core/ScheduledTask;)V"⟩ : MethodName) (head1 (Jvm.Cond.code (⟨"com/example/earnest_reactor/earnestreactor/core/TimerQueue", "siftDown", "(ILcom/example/earnest_reactor/earnestreactor/core/ScheduledTask;)V"⟩ : MethodName) prog_35_method_9_code 6 none :: ws) ({ frames := 2, cells := 0, slots := 0, locals := 27 } : Room)) (fun aa U => aa = #[(.ref q), (.int (0 : Int32)), (.ref t)] ∧ Z.Warmed39 U.vm ∧ U.heap = h0) (fun _ _ _ _ _ => True) (fun _ U oc U' => ∃ v L, oc = .returned v ∧ QD2b Z q w kk t dt st y dy sy v0 hv0 h0 n0 v U'.heap L ∧ FrameEnd U oc U' L ({ frames := 2, cells := 0, slots := 0, locals := 27 } : Room).cells ({ frames := 2, cells := 0, slots := 0, locals := 27 } : Room).slots) := by
  refine MetFree.of_bodySF (plainFor_of_name own_pn1) hisR ?_
  intro p e s m args below meth c s₁ Bd hml0 hP hK
  obtain ⟨rfl, hZ, hh⟩ := hP
  have hx := Bd.exec
  have hby := Bd.bytes
  have hlk := Bd.notSynchronized
  have hret := Bd.returns
  have hml : c.maxLocals = 6 := hml0
  have hown : s.vm.findClass "com/example/earnest_reactor/earnestreactor/core/TimerQueue" = some m.cls := findClass_of_methodNamed Bd.named
  have hnm := (name_of_methodNamed Bd.named Bd.method).1
  have X0 : Stand p l e ({ frames := 2, cells := 0, slots := 0, locals := 27 } : Room) s m #[(.ref q), (.int (0 : Int32)), (.ref t)] below meth c s₁ [] 0 0 := Stand.of_body Bd
  have e0 : s₁.heap = h0 := by rw [← hh, Bd.state]; rfl
  have N0 := Fr.nil n0
  refine own_body (Q := QD2b Z q w kk t dt st y dy sy v0 hv0 h0 n0) (KC := ({ frames := 2, cells := 0, slots := 0, locals := 27 } : Room).cells) (KS := ({ frames := 2, cells := 0, slots := 0, locals := 27 } : Room).slots) ?_
  rw [own_ef_rmD2b m q t]
  have Kp : Keep h0 h0 [w, t, y] := Keep.refl h0 _
  refine own_iloadN X0 hx hby d14_0 (pc' := 1) rfl rfl ?_
  refine own_istoreN X0 hx hby d14_1 (pc' := 2) rfl (l' := #[.val (.ref q), .val (.int (0 : Int32)), .val (.ref t), .val (.int (0 : Int32)), .unset, .unset]) rfl ?_
  refine own_aloadN X0 hx hby d14_2 (pc' := 3) rfl rfl rfl ?_
  obtain ⟨f_E_q, f_F_q_heap, f_F_q_size⟩ := f_O_q
  refine own_getF X0 hx hZ hby hown (host := "") (Or.inl (wd_49 hw)) Via.refl e0 f_F_q_size d14_3 (pc' := 6) rfl (fun T1 X1 e1 => ?_)
  refine own_iconst X1 hx hby d14_6 (pc' := 7) rfl (n := (2 : Int32)) (by decide) ?_
  refine own_idiv X1 hx hby d14_7 (pc' := 8) rfl (by decide) ?_
  show own_End p e below _ (T1.setTop (mkF m 8 #[.val (.ref q), .val (.int (0 : Int32)), .val (.ref t), .val (.int (0 : Int32)), .unset, .unset] [(.int (1 : Int32))]))
  refine own_istore X1 hx hby d14_8 (pc' := 10) rfl (l' := #[.val (.ref q), .val (.int (0 : Int32)), .val (.ref t), .val (.int (0 : Int32)), .val (.int (1 : Int32)), .unset]) rfl ?_
  refine own_iloadN X1 hx hby d14_10 (pc' := 11) rfl rfl ?_
  refine own_iload X1 hx hby d14_11 (pc' := 13) rfl rfl ?_
  refine own_icN X1 hx hby d14_13 (pc' := 16) rfl (show (0 : Int32) < (1 : Int32) by decide) ?_
  refine own_iconst X1 hx hby d14_16 (pc' := 17) rfl (n := (2 : Int32)) (by decide) ?_
  refine own_iloadN X1 hx hby d14_17 (pc' := 18) rfl rfl ?_
  refine own_imul X1 hx hby d14_18 (pc' := 19) rfl ?_
  show own_End p e below _ (T1.setTop (mkF m 19 #[.val (.ref q), .val (.int (0 : Int32)), .val (.ref t), .val (.int (0 : Int32)), .val (.int (1 : Int32)), .unset] [(.int (0 : Int32))]))
  refine own_iconst X1 hx hby d14_19 (pc' := 20) rfl (n := (1 : Int32)) (by decide) ?_
  refine own_iadd X1 hx hby d14_20 (pc' := 21) rfl ?_
  show own_End p e below _ (T1.setTop (mkF m 21 #[.val (.ref q), .val (.int (0 : Int32)), .val (.ref t), .val (.int (0 : Int32)), .val (.int (1 : Int32)), .unset] [(.int (1 : Int32))]))
  refine own_istore X1 hx hby d14_21 (pc' := 23) rfl (l' := #[.val (.ref q), .val (.int (0 : Int32)), .val (.ref t), .val (.int (0 : Int32)), .val (.int (1 : Int32)), .val (.int (1 : Int32))]) rfl ?_
  refine own_iload X1 hx hby d14_23 (pc' := 25) rfl rfl ?_
  refine own_iconst X1 hx hby d14_25 (pc' := 26) rfl (n := (1 : Int32)) (by decide) ?_
  refine own_iadd X1 hx hby d14_26 (pc' := 27) rfl ?_
  show own_End p e below _ (T1.setTop (mkF m 27 #[.val (.ref q), .val (.int (0 : Int32)), .val (.ref t), .val (.int (0 : Int32)), .val (.int (1 : Int32)), .val (.int (1 : Int32))] [(.int (2 : Int32))]))
  refine own_aloadN X1 hx hby d14_27 (pc' := 28) rfl rfl rfl ?_
  refine own_getF X1 hx hZ hby hown (host := "") (Or.inl (wd_49 hw)) Via.refl e1 f_F_q_size d14_28 (pc' := 31) rfl (fun T2 X2 e2 => ?_)
  refine own_icY X2 hx hby d14_31 (pc' := 59) (by decide) (by decide) (show ¬ (2 : Int32) < (2 : Int32) by decide) ?_
  refine own_aloadN X2 hx hby d14_59 (pc' := 60) rfl rfl rfl ?_
  refine own_getF X2 hx hZ hby hown (host := "") (Or.inl (wd_33 hw)) Via.refl e2 f_F_q_heap d14_60 (pc' := 63) rfl (fun T3 X3 e3 => ?_)
  refine own_iload X3 hx hby d14_63 (pc' := 65) rfl rfl ?_
  obtain ⟨cl4, Ar4, q4, S4, M4, H4, G4⟩ := id f_V_w
  have hin4 : ¬ ((1 : Int32) < 0 ∨ cl4.slots.size ≤ ((1 : Int32)).toNatClampNeg) := inb_of S4 ⟨by decide, by decide⟩
  have hat4 : cl4.slots[((1 : Int32)).toNatClampNeg]? = some (.ref y) := H4.at hin4 rfl
  refine own_aaload X3 hx hZ hby e3 Ar4 rfl hin4 hat4 d14_65 (pc' := 66) rfl ?_
  refine own_aloadN X3 hx hby d14_66 (pc' := 67) rfl rfl rfl ?_
  refine own_lk2 hw X3 hx hZ hby (by rw [hml]; rfl) hown d14_67 (pc' := 70) rfl e3 f_O_y.1 (W := 0) (Nat.le_of_eq rfl) (rmRB l Z a0 hw [] y dy sy t dt st (1 : Int32) (2 : Int32) (1 : Int32) h0 n0 Z0 f_O_y f_O_t hz) (by decide) (by decide) (by decide) (by decide) (fun v5 T5 L5 X5 hQ5 => ?_)
  obtain ⟨rfl, Nq5, e5⟩ := hQ5
  have N5 := Fr.app N0 Nq5
  show own_End p e below _ (T5.setTop (mkF m 70 _ [(.int (1 : Int32))]))
  refine own_ifY X5 hx hby d14_70 (pc' := 76) (by decide) (by decide) (show ¬ (1 : Int32) = (0 : Int32) by decide) ?_
  refine own_aloadN X5 hx hby d14_76 (pc' := 77) rfl rfl rfl ?_
  refine own_iloadN X5 hx hby d14_77 (pc' := 78) rfl rfl ?_
  refine own_aloadN X5 hx hby d14_78 (pc' := 79) rfl rfl rfl ?_
  refine own_getF X5 hx hZ hby hown (host := "") (Or.inl (wd_33 hw)) Via.refl e5 f_F_q_heap d14_79 (pc' := 82) rfl (fun T6 X6 e6 => ?_)
  refine own_iload X6 hx hby d14_82 (pc' := 84) rfl rfl ?_
  obtain ⟨cl7, Ar7, q7, S7, M7, H7, G7⟩ := id f_V_w
  have hin7 : ¬ ((1 : Int32) < 0 ∨ cl7.slots.size ≤ ((1 : Int32)).toNatClampNeg) := inb_of S7 ⟨by decide, by decide⟩
  have hat7 : cl7.slots[((1 : Int32)).toNatClampNeg]? = some (.ref y) := H7.at hin7 rfl
  refine own_aaload X6 hx hZ hby e6 Ar7 rfl hin7 hat7 d14_84 (pc' := 85) rfl ?_
  have f_O_q : own_TQ Z h0 q (.ref w) (2 : Int32) := ⟨f_E_q, f_F_q_heap, f_F_q_size⟩
  have ne_w_y : w ≠ y := Ne.symm (Exa.neArv f_O_y.1 f_V_w (wd_6 hw))
  have ne_t_w : t ≠ w := Exa.neArv f_O_t.1 f_V_w (wd_6 hw)
  have ne_q_w : q ≠ w := Exa.neArv f_O_q.1 f_V_w (wd_26 hw)
  have ne_q_y : q ≠ y := Exa.ne f_O_q.1 f_O_y.1 (by decide)
  refine own_lk1 hw X6 hx hZ hby (by rw [hml]; rfl) hown d14_85 (pc' := 88) rfl e6 f_O_q.1 (W := 0) (Nat.le_of_eq rfl) (rmPL0 l Z a0 hw [] q w kk (2 : Int32) (1 : Int32) y dy sy v0 (.ref y) .null hv0 rfl rfl h0 n0 Z0 f_O_q f_V_w ho f_O_y ge_w ge_y) (by decide) (by decide) (by decide) (by decide) (fun v8 T8 L8 X8 hQ8 => ?_)
  obtain ⟨rfl, Nq8, K8, V8, O8⟩ := hQ8
  have N8 := Fr.app N5 Nq8
  have f_O_t := f_O_t.keep K8 (ninS ne_t_w (ninS ne_t_y nin0))
  have f_O_q := f_O_q.keep K8 (ninS ne_q_w (ninS ne_q_y nin0))
  have Zn := Nat.le_trans Z0 K8.1
  have Kp := Kp.trans K8 (allS (Or.inl (List.mem_of_getElem? (i := 0) rfl)) (allS (Or.inl (List.mem_of_getElem? (i := 2) rfl)) all0))
  show own_End p e below _ (T8.setTop (mkF m 88 _ []))
  refine own_iload X8 hx hby d14_88 (pc' := 90) rfl rfl ?_
  refine own_istoreN X8 hx hby d14_90 (pc' := 91) rfl (l' := #[.val (.ref q), .val (.int (0 : Int32)), .val (.ref t), .val (.int (1 : Int32)), .val (.int (1 : Int32)), .val (.int (1 : Int32))]) rfl ?_
  refine own_goto X8 hx hby d14_91 (pc' := 10) (by decide) (by decide) ?_
  refine own_iloadN X8 hx hby d14_10 (pc' := 11) rfl rfl ?_
  refine own_iload X8 hx hby d14_11 (pc' := 13) rfl rfl ?_
  refine own_icY X8 hx hby d14_13 (pc' := 94) (by decide) (by decide) (show ¬ (1 : Int32) < (1 : Int32) by decide) ?_
  refine own_aloadN X8 hx hby d14_94 (pc' := 95) rfl rfl rfl ?_
  refine own_iloadN X8 hx hby d14_95 (pc' := 96) rfl rfl ?_
  refine own_aloadN X8 hx hby d14_96 (pc' := 97) rfl rfl rfl ?_
  have ne_q_t : q ≠ t := Exa.ne f_O_q.1 f_O_t.1 (by decide)
  refine own_lk1 hw X8 hx hZ hby (by rw [hml]; rfl) hown d14_97 (pc' := 100) rfl rfl f_O_q.1 (W := 0) (Nat.le_of_eq rfl) (rmPL1 l Z a0 hw [] q w kk (2 : Int32) (2 : Int32) t dt st (.ref y) (.ref y) .null rfl rfl rfl T8.heap n0 Zn f_O_q V8 ho f_O_t ge_w ge_t) (by decide) (by decide) (by decide) (by decide) (fun v9 T9 L9 X9 hQ9 => ?_)
  obtain ⟨rfl, Nq9, K9, V9, O9⟩ := hQ9
  have N9 := Fr.app N8 Nq9
  have f_O_q := f_O_q.keep K9 (ninS ne_q_w (ninS ne_q_t nin0))
  have O8 := O8.keep K9 (ninS (Ne.symm ne_w_y) (ninS (Ne.symm ne_t_y) nin0))
  have Zn := Nat.le_trans Zn K9.1
  have Kp := Kp.trans K9 (allS (Or.inl (List.mem_of_getElem? (i := 0) rfl)) (allS (Or.inl (List.mem_of_getElem? (i := 1) rfl)) all0))
  show own_End p e below _ (T9.setTop (mkF m 100 _ []))
  refine own_return X9 hx hlk hby hret d14_100 (own_lv ?_ (by decide) (by decide))
  show QD2b Z q w kk t dt st y dy sy v0 hv0  h0 n0 none T9.heap _
  exact ⟨rfl, N9, Kp, V9, O9, O8⟩
theorem own_ef_rmR1 (m : MethodId) (q : Addr)  : entryFrame m #[(.ref q), (.int (0 : Int32))] 4 = mkF m 0 #[.val (.ref q), .val (.int (0 : Int32)), .unset, .unset] [] := by first | (simp [entryFrame, mkF, argsToLocals, Value.category]; done) | rfl
def QR1 (Z : State) (q : Addr) (w : Addr) (kk : ClassId) (x : Addr) (dx : Int64) (sx : Int64) (h0 : Heap) (n0 : Nat) (v : Option Value) (h : Heap) (L : List Loc) : Prop := v = none ∧ Fr n0 L ∧ Keep h0 h [q, w, x] ∧ own_TQ Z h q (.ref w) (0 : Int32) ∧ Arv Z h w kk (.object "com/example/earnest_reactor/earnestreactor/core/ScheduledTask") (16 : Int32) [.null, .null, .null] .null ∧ own_TK Z h x .null dx sx .null (-1 : Int32)
set_option maxRecDepth 65536 in
set_option maxHeartbeats 40000000 in
theorem rmR1 (l : Launch) (Z : State) (a0 : Array Value) (hw : ∀ d ∈ tables_1, d.before a0 Z = true) (ws : List Jvm.Cond) (q : Addr) (w : Addr) (kk : ClassId) (x : Addr) (dx : Int64) (sx : Int64) (h0 : Heap) (n0 : Nat) (Z0 : n0 ≤ h0.size) (f_O_q : own_TQ Z h0 q (.ref w) (1 : Int32)) (f_V_w : Arv Z h0 w kk (.object "com/example/earnest_reactor/earnestreactor/core/ScheduledTask") (16 : Int32) [(.ref x), .null, .null] .null) (ho : Ovr Z kk "com/example/earnest_reactor/earnestreactor/core/ScheduledTask") (f_O_x : own_TK Z h0 x .null dx sx .null (0 : Int32)) (ge_q : n0 ≤ q) (ge_w : n0 ≤ w) (ge_x : n0 ≤ x) :
    MetFree l (⟨"com/example/earnest_reactor/earnestreactor/core/TimerQueue", "removeAt", "(I)V"⟩ : MethodName) (head1 (Jvm.Cond.code (⟨"com/example/earnest_reactor/earnestreactor/core/TimerQueue", "removeAt", "(I)V"⟩ : MethodName) prog_35_method_7_code 4 none :: ws) ({ frames := 1, cells := 0, slots := 0, locals := 13 } : Room)) (fun aa U => aa = #[(.ref q), (.int (0 : Int32))] ∧ Z.Warmed39 U.vm ∧ U.heap = h0) (fun _ _ _ _ _ => True) (fun _ U oc U' => ∃ v L, oc = .returned v ∧ QR1 Z q w kk x dx sx h0 n0 v U'.heap L ∧ FrameEnd U oc U' L ({ frames := 1, cells := 0, slots := 0, locals := 13 } : Room).cells ({ frames := 1, cells := 0, slots := 0, locals := 13 } : Room).slots) := by
  refine MetFree.of_bodySF (plainFor_of_name own_pn1) hisR ?_
  intro p e s m args below meth c s₁ Bd hml0 hP hK
  obtain ⟨rfl, hZ, hh⟩ := hP
  have hx := Bd.exec
  have hby := Bd.bytes
  have hlk := Bd.notSynchronized
  have hret := Bd.returns
  have hml : c.maxLocals = 4 := hml0
  have hown : s.vm.findClass "com/example/earnest_reactor/earnestreactor/core/TimerQueue" = some m.cls := findClass_of_methodNamed Bd.named
  have hnm := (name_of_methodNamed Bd.named Bd.method).1
  have X0 : Stand p l e ({ frames := 1, cells := 0, slots := 0, locals := 13 } : Room) s m #[(.ref q), (.int (0 : Int32))] below meth c s₁ [] 0 0 := Stand.of_body Bd
  have e0 : s₁.heap = h0 := by rw [← hh, Bd.state]; rfl
  have N0 := Fr.nil n0
  refine own_body (Q := QR1 Z q w kk x dx sx h0 n0) (KC := ({ frames := 1, cells := 0, slots := 0, locals := 13 } : Room).cells) (KS := ({ frames := 1, cells := 0, slots := 0, locals := 13 } : Room).slots) ?_
  rw [own_ef_rmR1 m q]
  have Kp : Keep h0 h0 [q, w, x] := Keep.refl h0 _
  refine own_aloadN X0 hx hby d10_0 (pc' := 1) rfl rfl rfl ?_
  obtain ⟨f_E_q, f_F_q_heap, f_F_q_size⟩ := f_O_q
  refine own_getF X0 hx hZ hby hown (host := "") (Or.inl (wd_33 hw)) Via.refl e0 f_F_q_heap d10_1 (pc' := 4) rfl (fun T1 X1 e1 => ?_)
  refine own_iloadN X1 hx hby d10_4 (pc' := 5) rfl rfl ?_
  obtain ⟨cl2, Ar2, q2, S2, M2, H2, G2⟩ := id f_V_w
  have hin2 : ¬ ((0 : Int32) < 0 ∨ cl2.slots.size ≤ ((0 : Int32)).toNatClampNeg) := inb_of S2 ⟨by decide, by decide⟩
  have hat2 : cl2.slots[((0 : Int32)).toNatClampNeg]? = some (.ref x) := H2.at hin2 rfl
  refine own_aaload X1 hx hZ hby e1 Ar2 rfl hin2 hat2 d10_5 (pc' := 6) rfl ?_
  refine own_astoreN X1 hx hby d10_6 (pc' := 7) rfl rfl (l' := #[.val (.ref q), .val (.int (0 : Int32)), .val (.ref x), .unset]) rfl ?_
  refine own_aloadN X1 hx hby d10_7 (pc' := 8) rfl rfl rfl ?_
  refine own_dup X1 hx hby d10_8 (pc' := 9) rfl rfl ?_
  refine own_getF X1 hx hZ hby hown (host := "") (Or.inl (wd_49 hw)) Via.refl e1 f_F_q_size d10_9 (pc' := 12) rfl (fun T3 X3 e3 => ?_)
  refine own_iconst X3 hx hby d10_12 (pc' := 13) rfl (n := (1 : Int32)) (by decide) ?_
  refine own_isub X3 hx hby d10_13 (pc' := 14) rfl ?_
  show own_End p e below _ (T3.setTop (mkF m 14 #[.val (.ref q), .val (.int (0 : Int32)), .val (.ref x), .unset] [(.int (0 : Int32)), (.ref q)]))
  have ne_w_q : w ≠ q := Ne.symm (Exa.neArv f_E_q f_V_w (wd_26 hw))
  have ne_x_q : x ≠ q := Exa.ne f_O_x.1 f_E_q (by decide)
  refine own_putF X3 hx hZ hby hown (host := "") (Or.inl (wd_49 hw)) Via.refl e3 f_F_q_size f_E_q (Or.inl (wd_50 hw)) (wd_26 hw) (ty := .int) (by decide) rfl rfl d10_14 (pc' := 17) rfl (fun T4 h4 X4 e4 W4 => ?_)
  have f_F_q_size := f_F_q_size.same W4
  have f_V_w := f_V_w.other W4 ne_w_q
  have f_O_x := f_O_x.other W4 ne_x_q
  have f_E_q := f_E_q.wr W4
  have f_F_q_heap := f_F_q_heap.other W4 (Or.inr (slot_ne (Or.inl (wd_34 hw)) (Or.inl (wd_50 hw)) (by decide) (t := (.array (.object "com/example/earnest_reactor/earnestreactor/core/ScheduledTask"))) (t' := .int) (by decide) (by decide)))
  have Zn := Nat.le_trans Z0 (Keep.of_wr W4).1
  have Kp := Kp.wr W4 (Or.inl (List.mem_of_getElem? (i := 0) rfl))
  have N4 := Fr.snoc X4 N0 ge_q
  refine own_aloadN X4 hx hby d10_17 (pc' := 18) rfl rfl rfl ?_
  refine own_getF X4 hx hZ hby hown (host := "") (Or.inl (wd_33 hw)) Via.refl e4 f_F_q_heap d10_18 (pc' := 21) rfl (fun T5 X5 e5 => ?_)
  refine own_aloadN X5 hx hby d10_21 (pc' := 22) rfl rfl rfl ?_
  refine own_getF X5 hx hZ hby hown (host := "") (Or.inl (wd_49 hw)) Via.refl e5 f_F_q_size d10_22 (pc' := 25) rfl (fun T6 X6 e6 => ?_)
  obtain ⟨cl7, Ar7, q7, S7, M7, H7, G7⟩ := id f_V_w
  have hin7 : ¬ ((0 : Int32) < 0 ∨ cl7.slots.size ≤ ((0 : Int32)).toNatClampNeg) := inb_of S7 ⟨by decide, by decide⟩
  have hat7 : cl7.slots[((0 : Int32)).toNatClampNeg]? = some (.ref x) := H7.at hin7 rfl
  refine own_aaload X6 hx hZ hby e6 Ar7 rfl hin7 hat7 d10_25 (pc' := 26) rfl ?_
  refine own_astoreN X6 hx hby d10_26 (pc' := 27) rfl rfl (l' := #[.val (.ref q), .val (.int (0 : Int32)), .val (.ref x), .val (.ref x)]) rfl ?_
  refine own_aloadN X6 hx hby d10_27 (pc' := 28) rfl rfl rfl ?_
  refine own_getF X6 hx hZ hby hown (host := "") (Or.inl (wd_33 hw)) Via.refl e6 f_F_q_heap d10_28 (pc' := 31) rfl (fun T8 X8 e8 => ?_)
  refine own_aloadN X8 hx hby d10_31 (pc' := 32) rfl rfl rfl ?_
  refine own_getF X8 hx hZ hby hown (host := "") (Or.inl (wd_49 hw)) Via.refl e8 f_F_q_size d10_32 (pc' := 35) rfl (fun T9 X9 e9 => ?_)
  refine own_aconst_null X9 hx hby d10_35 (pc' := 36) rfl ?_
  have ne_x_w : x ≠ w := Exa.neArv f_O_x.1 f_V_w (wd_6 hw)
  obtain ⟨cl10, Ar10, q10, S10, M10, H10, G10⟩ := id f_V_w
  have hin10 : ¬ ((0 : Int32) < 0 ∨ cl10.slots.size ≤ ((0 : Int32)).toNatClampNeg) := inb_of S10 ⟨by decide, by decide⟩
  refine own_stR X9 hx hZ hby e9 Ar10 hin10 rfl (Or.inl rfl) d10_36 (pc' := 37) rfl (fun T11 h11 X11 e11 W11 => ?_)
  have f_V_w := Arv.set Ar10 q10 S10 M10 H10 G10 rfl W11 0 rfl (Nat.le_of_ble_eq_true rfl)
  have f_V_w : Arv Z h11 w kk (.object "com/example/earnest_reactor/earnestreactor/core/ScheduledTask") (16 : Int32) [.null, .null, .null] .null := f_V_w
  have f_O_x := f_O_x.other W11 ne_x_w
  have f_E_q := f_E_q.wr W11
  have f_F_q_heap := f_F_q_heap.other W11 (Or.inl (Ne.symm ne_w_q))
  have f_F_q_size := f_F_q_size.other W11 (Or.inl (Ne.symm ne_w_q))
  have Zn := Nat.le_trans Zn (Keep.of_wr W11).1
  have Kp := Kp.wr W11 (Or.inl (List.mem_of_getElem? (i := 1) rfl))
  have N11 := Fr.snoc X11 N4 ge_w
  refine own_aloadN X11 hx hby d10_37 (pc' := 38) rfl rfl rfl ?_
  refine own_iconst X11 hx hby d10_38 (pc' := 39) rfl (n := (-1 : Int32)) (by decide) ?_
  refine own_lk0 hw X11 hx hZ hby (by rw [hml]; rfl) hown d10_39 (pc' := 42) rfl e11 f_O_x.1 (W := 0) (Nat.le_of_eq rfl) (rmSQ l Z a0 hw [] x dx sx (0 : Int32) (-1 : Int32) h11 n0 Zn f_O_x ge_x) (by decide) (by decide) (by decide) (by decide) (fun v12 T12 L12 X12 hQ12 => ?_)
  obtain ⟨rfl, Nq12, K12, O12⟩ := hQ12
  have N12 := Fr.app N11 Nq12
  have f_V_w := f_V_w.keep K12 (ninS (Ne.symm ne_x_w) nin0)
  have f_E_q := f_E_q.keep K12
  have f_F_q_heap := f_F_q_heap.keep K12 (ninS (Ne.symm ne_x_q) nin0)
  have f_F_q_size := f_F_q_size.keep K12 (ninS (Ne.symm ne_x_q) nin0)
  have Zn := Nat.le_trans Zn K12.1
  have Kp := Kp.trans K12 (allS (Or.inl (List.mem_of_getElem? (i := 2) rfl)) all0)
  show own_End p e below _ (T12.setTop (mkF m 42 _ []))
  refine own_iloadN X12 hx hby d10_42 (pc' := 43) rfl rfl ?_
  refine own_aloadN X12 hx hby d10_43 (pc' := 44) rfl rfl rfl ?_
  refine own_getF X12 hx hZ hby hown (host := "") (Or.inl (wd_49 hw)) Via.refl rfl f_F_q_size d10_44 (pc' := 47) rfl (fun T13 X13 e13 => ?_)
  refine own_icY X13 hx hby d10_47 (pc' := 72) (by decide) (by decide) (show ¬ (0 : Int32) < (0 : Int32) by decide) ?_
  refine own_return X13 hx hlk hby hret d10_72 (own_lv ?_ (by decide) (by decide))
  show QR1 Z q w kk x dx sx  h0 n0 none T13.heap _
  rw [e13]
  exact ⟨rfl, N12, Kp, ⟨f_E_q, f_F_q_heap, f_F_q_size⟩, f_V_w, O12⟩
theorem own_ef_rmR2 (m : MethodId) (q : Addr)  : entryFrame m #[(.ref q), (.int (0 : Int32))] 4 = mkF m 0 #[.val (.ref q), .val (.int (0 : Int32)), .unset, .unset] [] := by first | (simp [entryFrame, mkF, argsToLocals, Value.category]; done) | rfl
def QR2 (Z : State) (q : Addr) (w : Addr) (kk : ClassId) (x : Addr) (dx : Int64) (sx : Int64) (y : Addr) (dy : Int64) (sy : Int64) (h0 : Heap) (n0 : Nat) (v : Option Value) (h : Heap) (L : List Loc) : Prop := v = none ∧ Fr n0 L ∧ Keep h0 h [q, w, x, y] ∧ own_TQ Z h q (.ref w) (1 : Int32) ∧ Arv Z h w kk (.object "com/example/earnest_reactor/earnestreactor/core/ScheduledTask") (16 : Int32) [(.ref y), .null, .null] .null ∧ own_TK Z h x .null dx sx .null (-1 : Int32) ∧ own_TK Z h y .null dy sy .null (0 : Int32)
set_option maxRecDepth 65536 in
set_option maxHeartbeats 40000000 in
theorem rmR2 (l : Launch) (Z : State) (a0 : Array Value) (hw : ∀ d ∈ tables_1, d.before a0 Z = true) (ws : List Jvm.Cond) (q : Addr) (w : Addr) (kk : ClassId) (x : Addr) (dx : Int64) (sx : Int64) (y : Addr) (dy : Int64) (sy : Int64) (h0 : Heap) (n0 : Nat) (Z0 : n0 ≤ h0.size) (f_O_q : own_TQ Z h0 q (.ref w) (2 : Int32)) (f_V_w : Arv Z h0 w kk (.object "com/example/earnest_reactor/earnestreactor/core/ScheduledTask") (16 : Int32) [(.ref x), (.ref y), .null] .null) (ho : Ovr Z kk "com/example/earnest_reactor/earnestreactor/core/ScheduledTask") (f_O_x : own_TK Z h0 x .null dx sx .null (0 : Int32)) (f_O_y : own_TK Z h0 y .null dy sy .null (1 : Int32)) (ge_q : n0 ≤ q) (ge_w : n0 ≤ w) (ge_x : n0 ≤ x) (ge_y : n0 ≤ y) (ne_x_y : x ≠ y) :
    MetFree l (⟨"com/example/earnest_reactor/earnestreactor/core/TimerQueue", "removeAt", "(I)V"⟩ : MethodName) (head1 (Jvm.Cond.code (⟨"com/example/earnest_reactor/earnestreactor/core/TimerQueue", "removeAt", "(I)V"⟩ : MethodName) prog_35_method_7_code 4 none :: ws) ({ frames := 3, cells := 0, slots := 0, locals := 44 } : Room)) (fun aa U => aa = #[(.ref q), (.int (0 : Int32))] ∧ Z.Warmed39 U.vm ∧ U.heap = h0) (fun _ _ _ _ _ => True) (fun _ U oc U' => ∃ v L, oc = .returned v ∧ QR2 Z q w kk x dx sx y dy sy h0 n0 v U'.heap L ∧ FrameEnd U oc U' L ({ frames := 3, cells := 0, slots := 0, locals := 44 } : Room).cells ({ frames := 3, cells := 0, slots := 0, locals := 44 } : Room).slots) := by
  refine MetFree.of_bodySF (plainFor_of_name own_pn1) hisR ?_
  intro p e s m args below meth c s₁ Bd hml0 hP hK
  obtain ⟨rfl, hZ, hh⟩ := hP
  have hx := Bd.exec
  have hby := Bd.bytes
  have hlk := Bd.notSynchronized
  have hret := Bd.returns
  have hml : c.maxLocals = 4 := hml0
  have hown : s.vm.findClass "com/example/earnest_reactor/earnestreactor/core/TimerQueue" = some m.cls := findClass_of_methodNamed Bd.named
  have hnm := (name_of_methodNamed Bd.named Bd.method).1
  have X0 : Stand p l e ({ frames := 3, cells := 0, slots := 0, locals := 44 } : Room) s m #[(.ref q), (.int (0 : Int32))] below meth c s₁ [] 0 0 := Stand.of_body Bd
  have e0 : s₁.heap = h0 := by rw [← hh, Bd.state]; rfl
  have N0 := Fr.nil n0
  refine own_body (Q := QR2 Z q w kk x dx sx y dy sy h0 n0) (KC := ({ frames := 3, cells := 0, slots := 0, locals := 44 } : Room).cells) (KS := ({ frames := 3, cells := 0, slots := 0, locals := 44 } : Room).slots) ?_
  rw [own_ef_rmR2 m q]
  have Kp : Keep h0 h0 [q, w, x, y] := Keep.refl h0 _
  refine own_aloadN X0 hx hby d10_0 (pc' := 1) rfl rfl rfl ?_
  obtain ⟨f_E_q, f_F_q_heap, f_F_q_size⟩ := f_O_q
  refine own_getF X0 hx hZ hby hown (host := "") (Or.inl (wd_33 hw)) Via.refl e0 f_F_q_heap d10_1 (pc' := 4) rfl (fun T1 X1 e1 => ?_)
  refine own_iloadN X1 hx hby d10_4 (pc' := 5) rfl rfl ?_
  obtain ⟨cl2, Ar2, q2, S2, M2, H2, G2⟩ := id f_V_w
  have hin2 : ¬ ((0 : Int32) < 0 ∨ cl2.slots.size ≤ ((0 : Int32)).toNatClampNeg) := inb_of S2 ⟨by decide, by decide⟩
  have hat2 : cl2.slots[((0 : Int32)).toNatClampNeg]? = some (.ref x) := H2.at hin2 rfl
  refine own_aaload X1 hx hZ hby e1 Ar2 rfl hin2 hat2 d10_5 (pc' := 6) rfl ?_
  refine own_astoreN X1 hx hby d10_6 (pc' := 7) rfl rfl (l' := #[.val (.ref q), .val (.int (0 : Int32)), .val (.ref x), .unset]) rfl ?_
  refine own_aloadN X1 hx hby d10_7 (pc' := 8) rfl rfl rfl ?_
  refine own_dup X1 hx hby d10_8 (pc' := 9) rfl rfl ?_
  refine own_getF X1 hx hZ hby hown (host := "") (Or.inl (wd_49 hw)) Via.refl e1 f_F_q_size d10_9 (pc' := 12) rfl (fun T3 X3 e3 => ?_)
  refine own_iconst X3 hx hby d10_12 (pc' := 13) rfl (n := (1 : Int32)) (by decide) ?_
  refine own_isub X3 hx hby d10_13 (pc' := 14) rfl ?_
  show own_End p e below _ (T3.setTop (mkF m 14 #[.val (.ref q), .val (.int (0 : Int32)), .val (.ref x), .unset] [(.int (1 : Int32)), (.ref q)]))
  have ne_w_q : w ≠ q := Ne.symm (Exa.neArv f_E_q f_V_w (wd_26 hw))
  have ne_x_q : x ≠ q := Exa.ne f_O_x.1 f_E_q (by decide)
  have ne_y_q : y ≠ q := Exa.ne f_O_y.1 f_E_q (by decide)
  refine own_putF X3 hx hZ hby hown (host := "") (Or.inl (wd_49 hw)) Via.refl e3 f_F_q_size f_E_q (Or.inl (wd_50 hw)) (wd_26 hw) (ty := .int) (by decide) rfl rfl d10_14 (pc' := 17) rfl (fun T4 h4 X4 e4 W4 => ?_)
  have f_F_q_size := f_F_q_size.same W4
  have f_V_w := f_V_w.other W4 ne_w_q
  have f_O_x := f_O_x.other W4 ne_x_q
  have f_O_y := f_O_y.other W4 ne_y_q
  have f_E_q := f_E_q.wr W4
  have f_F_q_heap := f_F_q_heap.other W4 (Or.inr (slot_ne (Or.inl (wd_34 hw)) (Or.inl (wd_50 hw)) (by decide) (t := (.array (.object "com/example/earnest_reactor/earnestreactor/core/ScheduledTask"))) (t' := .int) (by decide) (by decide)))
  have Zn := Nat.le_trans Z0 (Keep.of_wr W4).1
  have Kp := Kp.wr W4 (Or.inl (List.mem_of_getElem? (i := 0) rfl))
  have N4 := Fr.snoc X4 N0 ge_q
  refine own_aloadN X4 hx hby d10_17 (pc' := 18) rfl rfl rfl ?_
  refine own_getF X4 hx hZ hby hown (host := "") (Or.inl (wd_33 hw)) Via.refl e4 f_F_q_heap d10_18 (pc' := 21) rfl (fun T5 X5 e5 => ?_)
  refine own_aloadN X5 hx hby d10_21 (pc' := 22) rfl rfl rfl ?_
  refine own_getF X5 hx hZ hby hown (host := "") (Or.inl (wd_49 hw)) Via.refl e5 f_F_q_size d10_22 (pc' := 25) rfl (fun T6 X6 e6 => ?_)
  obtain ⟨cl7, Ar7, q7, S7, M7, H7, G7⟩ := id f_V_w
  have hin7 : ¬ ((1 : Int32) < 0 ∨ cl7.slots.size ≤ ((1 : Int32)).toNatClampNeg) := inb_of S7 ⟨by decide, by decide⟩
  have hat7 : cl7.slots[((1 : Int32)).toNatClampNeg]? = some (.ref y) := H7.at hin7 rfl
  refine own_aaload X6 hx hZ hby e6 Ar7 rfl hin7 hat7 d10_25 (pc' := 26) rfl ?_
  refine own_astoreN X6 hx hby d10_26 (pc' := 27) rfl rfl (l' := #[.val (.ref q), .val (.int (0 : Int32)), .val (.ref x), .val (.ref y)]) rfl ?_
  refine own_aloadN X6 hx hby d10_27 (pc' := 28) rfl rfl rfl ?_
  refine own_getF X6 hx hZ hby hown (host := "") (Or.inl (wd_33 hw)) Via.refl e6 f_F_q_heap d10_28 (pc' := 31) rfl (fun T8 X8 e8 => ?_)
  refine own_aloadN X8 hx hby d10_31 (pc' := 32) rfl rfl rfl ?_
  refine own_getF X8 hx hZ hby hown (host := "") (Or.inl (wd_49 hw)) Via.refl e8 f_F_q_size d10_32 (pc' := 35) rfl (fun T9 X9 e9 => ?_)
  refine own_aconst_null X9 hx hby d10_35 (pc' := 36) rfl ?_
  have ne_x_w : x ≠ w := Exa.neArv f_O_x.1 f_V_w (wd_6 hw)
  have ne_y_w : y ≠ w := Exa.neArv f_O_y.1 f_V_w (wd_6 hw)
  obtain ⟨cl10, Ar10, q10, S10, M10, H10, G10⟩ := id f_V_w
  have hin10 : ¬ ((1 : Int32) < 0 ∨ cl10.slots.size ≤ ((1 : Int32)).toNatClampNeg) := inb_of S10 ⟨by decide, by decide⟩
  refine own_stR X9 hx hZ hby e9 Ar10 hin10 rfl (Or.inl rfl) d10_36 (pc' := 37) rfl (fun T11 h11 X11 e11 W11 => ?_)
  have f_V_w := Arv.set Ar10 q10 S10 M10 H10 G10 rfl W11 1 rfl (Nat.le_of_ble_eq_true rfl)
  have f_V_w : Arv Z h11 w kk (.object "com/example/earnest_reactor/earnestreactor/core/ScheduledTask") (16 : Int32) [(.ref x), .null, .null] .null := f_V_w
  have f_O_x := f_O_x.other W11 ne_x_w
  have f_O_y := f_O_y.other W11 ne_y_w
  have f_E_q := f_E_q.wr W11
  have f_F_q_heap := f_F_q_heap.other W11 (Or.inl (Ne.symm ne_w_q))
  have f_F_q_size := f_F_q_size.other W11 (Or.inl (Ne.symm ne_w_q))
  have Zn := Nat.le_trans Zn (Keep.of_wr W11).1
  have Kp := Kp.wr W11 (Or.inl (List.mem_of_getElem? (i := 1) rfl))
  have N11 := Fr.snoc X11 N4 ge_w
  refine own_aloadN X11 hx hby d10_37 (pc' := 38) rfl rfl rfl ?_
  refine own_iconst X11 hx hby d10_38 (pc' := 39) rfl (n := (-1 : Int32)) (by decide) ?_
  refine own_lk0 hw X11 hx hZ hby (by rw [hml]; rfl) hown d10_39 (pc' := 42) rfl e11 f_O_x.1 (W := 0) (Nat.le_of_eq rfl) (rmSQ l Z a0 hw [] x dx sx (0 : Int32) (-1 : Int32) h11 n0 Zn f_O_x ge_x) (by decide) (by decide) (by decide) (by decide) (fun v12 T12 L12 X12 hQ12 => ?_)
  obtain ⟨rfl, Nq12, K12, O12⟩ := hQ12
  have N12 := Fr.app N11 Nq12
  have f_V_w := f_V_w.keep K12 (ninS (Ne.symm ne_x_w) nin0)
  have f_O_y := f_O_y.keep K12 (ninS (Ne.symm ne_x_y) nin0)
  have f_E_q := f_E_q.keep K12
  have f_F_q_heap := f_F_q_heap.keep K12 (ninS (Ne.symm ne_x_q) nin0)
  have f_F_q_size := f_F_q_size.keep K12 (ninS (Ne.symm ne_x_q) nin0)
  have Zn := Nat.le_trans Zn K12.1
  have Kp := Kp.trans K12 (allS (Or.inl (List.mem_of_getElem? (i := 2) rfl)) all0)
  show own_End p e below _ (T12.setTop (mkF m 42 _ []))
  refine own_iloadN X12 hx hby d10_42 (pc' := 43) rfl rfl ?_
  refine own_aloadN X12 hx hby d10_43 (pc' := 44) rfl rfl rfl ?_
  refine own_getF X12 hx hZ hby hown (host := "") (Or.inl (wd_49 hw)) Via.refl rfl f_F_q_size d10_44 (pc' := 47) rfl (fun T13 X13 e13 => ?_)
  refine own_icN X13 hx hby d10_47 (pc' := 50) rfl (show (0 : Int32) < (1 : Int32) by decide) ?_
  refine own_aloadN X13 hx hby d10_50 (pc' := 51) rfl rfl rfl ?_
  refine own_iloadN X13 hx hby d10_51 (pc' := 52) rfl rfl ?_
  refine own_aloadN X13 hx hby d10_52 (pc' := 53) rfl rfl rfl ?_
  have f_O_q : own_TQ Z T12.heap q (.ref w) (1 : Int32) := ⟨f_E_q, f_F_q_heap, f_F_q_size⟩
  refine own_lk3 hw X13 hx hZ hby (by rw [hml]; rfl) hown d10_53 (pc' := 56) rfl e13 f_O_q.1 (W := 0) (Nat.le_of_eq rfl) (rmD1 l Z a0 hw [] q w kk y dy sy (.ref x) rfl T12.heap n0 Zn f_O_q f_V_w ho f_O_y ge_w ge_y) (by decide) (by decide) (by decide) (by decide) (fun v14 T14 L14 X14 hQ14 => ?_)
  obtain ⟨rfl, Nq14, K14, V14, Ot14⟩ := hQ14
  have N14 := Fr.app N12 Nq14
  have O12 := O12.keep K14 (ninS ne_x_w (ninS ne_x_y nin0))
  have f_O_q := f_O_q.keep K14 (ninS (Ne.symm ne_w_q) (ninS (Ne.symm ne_y_q) nin0))
  have Zn := Nat.le_trans Zn K14.1
  have Kp := Kp.trans K14 (allS (Or.inl (List.mem_of_getElem? (i := 1) rfl)) (allS (Or.inl (List.mem_of_getElem? (i := 3) rfl)) all0))
  show own_End p e below _ (T14.setTop (mkF m 56 _ []))
  refine own_aloadN X14 hx hby d10_56 (pc' := 57) rfl rfl rfl ?_
  obtain ⟨f_E_q, f_F_q_heap, f_F_q_size⟩ := f_O_q
  refine own_getF X14 hx hZ hby hown (host := "") (Or.inl (wd_33 hw)) Via.refl rfl f_F_q_heap d10_57 (pc' := 60) rfl (fun T15 X15 e15 => ?_)
  refine own_iloadN X15 hx hby d10_60 (pc' := 61) rfl rfl ?_
  obtain ⟨cl16, Ar16, q16, S16, M16, H16, G16⟩ := id V14
  have hin16 : ¬ ((0 : Int32) < 0 ∨ cl16.slots.size ≤ ((0 : Int32)).toNatClampNeg) := inb_of S16 ⟨by decide, by decide⟩
  have hat16 : cl16.slots[((0 : Int32)).toNatClampNeg]? = some (.ref y) := H16.at hin16 rfl
  refine own_aaload X15 hx hZ hby e15 Ar16 rfl hin16 hat16 d10_61 (pc' := 62) rfl ?_
  refine own_aloadN X15 hx hby d10_62 (pc' := 63) rfl rfl rfl ?_
  refine own_acmp X15 hx hby d10_63 rfl rfl (same := true) (decide_eq_true rfl) (by decide) (pc' := 66) (by decide) ?_
  refine own_aloadN X15 hx hby d10_66 (pc' := 67) rfl rfl rfl ?_
  refine own_iloadN X15 hx hby d10_67 (pc' := 68) rfl rfl ?_
  refine own_aloadN X15 hx hby d10_68 (pc' := 69) rfl rfl rfl ?_
  have f_O_q : own_TQ Z T14.heap q (.ref w) (1 : Int32) := ⟨f_E_q, f_F_q_heap, f_F_q_size⟩
  refine own_lk4 hw X15 hx hZ hby (by rw [hml]; rfl) hown d10_69 (pc' := 72) rfl e15 f_O_q.1 (W := 0) (Nat.le_of_eq rfl) (rmU0r1 l Z a0 hw [] q w kk y dy sy T14.heap n0 Zn f_O_q V14 ho Ot14 ge_w ge_y) (by decide) (by decide) (by decide) (by decide) (fun v17 T17 L17 X17 hQ17 => ?_)
  obtain ⟨rfl, Nq17, K17, V17, Ot17⟩ := hQ17
  have N17 := Fr.app N14 Nq17
  have O12 := O12.keep K17 (ninS ne_x_w (ninS ne_x_y nin0))
  have f_O_q := f_O_q.keep K17 (ninS (Ne.symm ne_w_q) (ninS (Ne.symm ne_y_q) nin0))
  have Zn := Nat.le_trans Zn K17.1
  have Kp := Kp.trans K17 (allS (Or.inl (List.mem_of_getElem? (i := 1) rfl)) (allS (Or.inl (List.mem_of_getElem? (i := 3) rfl)) all0))
  show own_End p e below _ (T17.setTop (mkF m 72 _ []))
  refine own_return X17 hx hlk hby hret d10_72 (own_lv ?_ (by decide) (by decide))
  show QR2 Z q w kk x dx sx y dy sy  h0 n0 none T17.heap _
  exact ⟨rfl, N17, Kp, f_O_q, V17, O12, Ot17⟩
theorem own_ef_rmR3a (m : MethodId) (q : Addr)  : entryFrame m #[(.ref q), (.int (0 : Int32))] 4 = mkF m 0 #[.val (.ref q), .val (.int (0 : Int32)), .unset, .unset] [] := by first | (simp [entryFrame, mkF, argsToLocals, Value.category]; done) | rfl
def QR3a (Z : State) (q : Addr) (w : Addr) (kk : ClassId) (x : Addr) (dx : Int64) (sx : Int64) (y : Addr) (dy : Int64) (sy : Int64) (z : Addr) (dz : Int64) (sz : Int64) (h0 : Heap) (n0 : Nat) (v : Option Value) (h : Heap) (L : List Loc) : Prop := v = none ∧ Fr n0 L ∧ Keep h0 h [q, w, x, z] ∧ own_TQ Z h q (.ref w) (2 : Int32) ∧ Arv Z h w kk (.object "com/example/earnest_reactor/earnestreactor/core/ScheduledTask") (16 : Int32) [(.ref z), (.ref y), .null] .null ∧ own_TK Z h x .null dx sx .null (-1 : Int32) ∧ own_TK Z h z .null dz sz .null (0 : Int32)
set_option maxRecDepth 65536 in
set_option maxHeartbeats 40000000 in
theorem rmR3a (l : Launch) (Z : State) (a0 : Array Value) (hw : ∀ d ∈ tables_1, d.before a0 Z = true) (ws : List Jvm.Cond) (q : Addr) (w : Addr) (kk : ClassId) (x : Addr) (dx : Int64) (sx : Int64) (y : Addr) (dy : Int64) (sy : Int64) (z : Addr) (dz : Int64) (sz : Int64) (h0 : Heap) (n0 : Nat) (Z0 : n0 ≤ h0.size) (f_O_q : own_TQ Z h0 q (.ref w) (3 : Int32)) (f_V_w : Arv Z h0 w kk (.object "com/example/earnest_reactor/earnestreactor/core/ScheduledTask") (16 : Int32) [(.ref x), (.ref y), (.ref z)] .null) (ho : Ovr Z kk "com/example/earnest_reactor/earnestreactor/core/ScheduledTask") (f_O_x : own_TK Z h0 x .null dx sx .null (0 : Int32)) (f_O_y : own_TK Z h0 y .null dy sy .null (1 : Int32)) (f_O_z : own_TK Z h0 z .null dz sz .null (2 : Int32)) (ge_q : n0 ≤ q) (ge_w : n0 ≤ w) (ge_x : n0 ≤ x) (ge_z : n0 ≤ z) (ne_x_y : x ≠ y) (ne_x_z : x ≠ z) (ne_y_z : y ≠ z) (hz : own_rb dy sy dz sz = (0 : Int32)) :
    MetFree l (⟨"com/example/earnest_reactor/earnestreactor/core/TimerQueue", "removeAt", "(I)V"⟩ : MethodName) (head1 (Jvm.Cond.code (⟨"com/example/earnest_reactor/earnestreactor/core/TimerQueue", "removeAt", "(I)V"⟩ : MethodName) prog_35_method_7_code 4 none :: ws) ({ frames := 3, cells := 0, slots := 0, locals := 44 } : Room)) (fun aa U => aa = #[(.ref q), (.int (0 : Int32))] ∧ Z.Warmed39 U.vm ∧ U.heap = h0) (fun _ _ _ _ _ => True) (fun _ U oc U' => ∃ v L, oc = .returned v ∧ QR3a Z q w kk x dx sx y dy sy z dz sz h0 n0 v U'.heap L ∧ FrameEnd U oc U' L ({ frames := 3, cells := 0, slots := 0, locals := 44 } : Room).cells ({ frames := 3, cells := 0, slots := 0, locals := 44 } : Room).slots) := by
  refine MetFree.of_bodySF (plainFor_of_name own_pn1) hisR ?_
  intro p e s m args below meth c s₁ Bd hml0 hP hK
  obtain ⟨rfl, hZ, hh⟩ := hP
  have hx := Bd.exec
  have hby := Bd.bytes
  have hlk := Bd.notSynchronized
  have hret := Bd.returns
  have hml : c.maxLocals = 4 := hml0
  have hown : s.vm.findClass "com/example/earnest_reactor/earnestreactor/core/TimerQueue" = some m.cls := findClass_of_methodNamed Bd.named
  have hnm := (name_of_methodNamed Bd.named Bd.method).1
  have X0 : Stand p l e ({ frames := 3, cells := 0, slots := 0, locals := 44 } : Room) s m #[(.ref q), (.int (0 : Int32))] below meth c s₁ [] 0 0 := Stand.of_body Bd
  have e0 : s₁.heap = h0 := by rw [← hh, Bd.state]; rfl
  have N0 := Fr.nil n0
  refine own_body (Q := QR3a Z q w kk x dx sx y dy sy z dz sz h0 n0) (KC := ({ frames := 3, cells := 0, slots := 0, locals := 44 } : Room).cells) (KS := ({ frames := 3, cells := 0, slots := 0, locals := 44 } : Room).slots) ?_
  rw [own_ef_rmR3a m q]
  have Kp : Keep h0 h0 [q, w, x, z] := Keep.refl h0 _
  refine own_aloadN X0 hx hby d10_0 (pc' := 1) rfl rfl rfl ?_
  obtain ⟨f_E_q, f_F_q_heap, f_F_q_size⟩ := f_O_q
  refine own_getF X0 hx hZ hby hown (host := "") (Or.inl (wd_33 hw)) Via.refl e0 f_F_q_heap d10_1 (pc' := 4) rfl (fun T1 X1 e1 => ?_)
  refine own_iloadN X1 hx hby d10_4 (pc' := 5) rfl rfl ?_
  obtain ⟨cl2, Ar2, q2, S2, M2, H2, G2⟩ := id f_V_w
  have hin2 : ¬ ((0 : Int32) < 0 ∨ cl2.slots.size ≤ ((0 : Int32)).toNatClampNeg) := inb_of S2 ⟨by decide, by decide⟩
  have hat2 : cl2.slots[((0 : Int32)).toNatClampNeg]? = some (.ref x) := H2.at hin2 rfl
  refine own_aaload X1 hx hZ hby e1 Ar2 rfl hin2 hat2 d10_5 (pc' := 6) rfl ?_
  refine own_astoreN X1 hx hby d10_6 (pc' := 7) rfl rfl (l' := #[.val (.ref q), .val (.int (0 : Int32)), .val (.ref x), .unset]) rfl ?_
  refine own_aloadN X1 hx hby d10_7 (pc' := 8) rfl rfl rfl ?_
  refine own_dup X1 hx hby d10_8 (pc' := 9) rfl rfl ?_
  refine own_getF X1 hx hZ hby hown (host := "") (Or.inl (wd_49 hw)) Via.refl e1 f_F_q_size d10_9 (pc' := 12) rfl (fun T3 X3 e3 => ?_)
  refine own_iconst X3 hx hby d10_12 (pc' := 13) rfl (n := (1 : Int32)) (by decide) ?_
  refine own_isub X3 hx hby d10_13 (pc' := 14) rfl ?_
  show own_End p e below _ (T3.setTop (mkF m 14 #[.val (.ref q), .val (.int (0 : Int32)), .val (.ref x), .unset] [(.int (2 : Int32)), (.ref q)]))
  have ne_w_q : w ≠ q := Ne.symm (Exa.neArv f_E_q f_V_w (wd_26 hw))
  have ne_x_q : x ≠ q := Exa.ne f_O_x.1 f_E_q (by decide)
  have ne_y_q : y ≠ q := Exa.ne f_O_y.1 f_E_q (by decide)
  have ne_z_q : z ≠ q := Exa.ne f_O_z.1 f_E_q (by decide)
  refine own_putF X3 hx hZ hby hown (host := "") (Or.inl (wd_49 hw)) Via.refl e3 f_F_q_size f_E_q (Or.inl (wd_50 hw)) (wd_26 hw) (ty := .int) (by decide) rfl rfl d10_14 (pc' := 17) rfl (fun T4 h4 X4 e4 W4 => ?_)
  have f_F_q_size := f_F_q_size.same W4
  have f_V_w := f_V_w.other W4 ne_w_q
  have f_O_x := f_O_x.other W4 ne_x_q
  have f_O_y := f_O_y.other W4 ne_y_q
  have f_O_z := f_O_z.other W4 ne_z_q
  have f_E_q := f_E_q.wr W4
  have f_F_q_heap := f_F_q_heap.other W4 (Or.inr (slot_ne (Or.inl (wd_34 hw)) (Or.inl (wd_50 hw)) (by decide) (t := (.array (.object "com/example/earnest_reactor/earnestreactor/core/ScheduledTask"))) (t' := .int) (by decide) (by decide)))
  have Zn := Nat.le_trans Z0 (Keep.of_wr W4).1
  have Kp := Kp.wr W4 (Or.inl (List.mem_of_getElem? (i := 0) rfl))
  have N4 := Fr.snoc X4 N0 ge_q
  refine own_aloadN X4 hx hby d10_17 (pc' := 18) rfl rfl rfl ?_
  refine own_getF X4 hx hZ hby hown (host := "") (Or.inl (wd_33 hw)) Via.refl e4 f_F_q_heap d10_18 (pc' := 21) rfl (fun T5 X5 e5 => ?_)
  refine own_aloadN X5 hx hby d10_21 (pc' := 22) rfl rfl rfl ?_
  refine own_getF X5 hx hZ hby hown (host := "") (Or.inl (wd_49 hw)) Via.refl e5 f_F_q_size d10_22 (pc' := 25) rfl (fun T6 X6 e6 => ?_)
  obtain ⟨cl7, Ar7, q7, S7, M7, H7, G7⟩ := id f_V_w
  have hin7 : ¬ ((2 : Int32) < 0 ∨ cl7.slots.size ≤ ((2 : Int32)).toNatClampNeg) := inb_of S7 ⟨by decide, by decide⟩
  have hat7 : cl7.slots[((2 : Int32)).toNatClampNeg]? = some (.ref z) := H7.at hin7 rfl
  refine own_aaload X6 hx hZ hby e6 Ar7 rfl hin7 hat7 d10_25 (pc' := 26) rfl ?_
  refine own_astoreN X6 hx hby d10_26 (pc' := 27) rfl rfl (l' := #[.val (.ref q), .val (.int (0 : Int32)), .val (.ref x), .val (.ref z)]) rfl ?_
  refine own_aloadN X6 hx hby d10_27 (pc' := 28) rfl rfl rfl ?_
  refine own_getF X6 hx hZ hby hown (host := "") (Or.inl (wd_33 hw)) Via.refl e6 f_F_q_heap d10_28 (pc' := 31) rfl (fun T8 X8 e8 => ?_)
  refine own_aloadN X8 hx hby d10_31 (pc' := 32) rfl rfl rfl ?_
  refine own_getF X8 hx hZ hby hown (host := "") (Or.inl (wd_49 hw)) Via.refl e8 f_F_q_size d10_32 (pc' := 35) rfl (fun T9 X9 e9 => ?_)
  refine own_aconst_null X9 hx hby d10_35 (pc' := 36) rfl ?_
  have ne_x_w : x ≠ w := Exa.neArv f_O_x.1 f_V_w (wd_6 hw)
  have ne_y_w : y ≠ w := Exa.neArv f_O_y.1 f_V_w (wd_6 hw)
  have ne_z_w : z ≠ w := Exa.neArv f_O_z.1 f_V_w (wd_6 hw)
  obtain ⟨cl10, Ar10, q10, S10, M10, H10, G10⟩ := id f_V_w
  have hin10 : ¬ ((2 : Int32) < 0 ∨ cl10.slots.size ≤ ((2 : Int32)).toNatClampNeg) := inb_of S10 ⟨by decide, by decide⟩
  refine own_stR X9 hx hZ hby e9 Ar10 hin10 rfl (Or.inl rfl) d10_36 (pc' := 37) rfl (fun T11 h11 X11 e11 W11 => ?_)
  have f_V_w := Arv.set Ar10 q10 S10 M10 H10 G10 rfl W11 2 rfl (Nat.le_of_ble_eq_true rfl)
  have f_V_w : Arv Z h11 w kk (.object "com/example/earnest_reactor/earnestreactor/core/ScheduledTask") (16 : Int32) [(.ref x), (.ref y), .null] .null := f_V_w
  have f_O_x := f_O_x.other W11 ne_x_w
  have f_O_y := f_O_y.other W11 ne_y_w
  have f_O_z := f_O_z.other W11 ne_z_w
  have f_E_q := f_E_q.wr W11
  have f_F_q_heap := f_F_q_heap.other W11 (Or.inl (Ne.symm ne_w_q))
  have f_F_q_size := f_F_q_size.other W11 (Or.inl (Ne.symm ne_w_q))
  have Zn := Nat.le_trans Zn (Keep.of_wr W11).1
  have Kp := Kp.wr W11 (Or.inl (List.mem_of_getElem? (i := 1) rfl))
  have N11 := Fr.snoc X11 N4 ge_w
  refine own_aloadN X11 hx hby d10_37 (pc' := 38) rfl rfl rfl ?_
  refine own_iconst X11 hx hby d10_38 (pc' := 39) rfl (n := (-1 : Int32)) (by decide) ?_
  refine own_lk0 hw X11 hx hZ hby (by rw [hml]; rfl) hown d10_39 (pc' := 42) rfl e11 f_O_x.1 (W := 0) (Nat.le_of_eq rfl) (rmSQ l Z a0 hw [] x dx sx (0 : Int32) (-1 : Int32) h11 n0 Zn f_O_x ge_x) (by decide) (by decide) (by decide) (by decide) (fun v12 T12 L12 X12 hQ12 => ?_)
  obtain ⟨rfl, Nq12, K12, O12⟩ := hQ12
  have N12 := Fr.app N11 Nq12
  have f_V_w := f_V_w.keep K12 (ninS (Ne.symm ne_x_w) nin0)
  have f_O_y := f_O_y.keep K12 (ninS (Ne.symm ne_x_y) nin0)
  have f_O_z := f_O_z.keep K12 (ninS (Ne.symm ne_x_z) nin0)
  have f_E_q := f_E_q.keep K12
  have f_F_q_heap := f_F_q_heap.keep K12 (ninS (Ne.symm ne_x_q) nin0)
  have f_F_q_size := f_F_q_size.keep K12 (ninS (Ne.symm ne_x_q) nin0)
  have Zn := Nat.le_trans Zn K12.1
  have Kp := Kp.trans K12 (allS (Or.inl (List.mem_of_getElem? (i := 2) rfl)) all0)
  show own_End p e below _ (T12.setTop (mkF m 42 _ []))
  refine own_iloadN X12 hx hby d10_42 (pc' := 43) rfl rfl ?_
  refine own_aloadN X12 hx hby d10_43 (pc' := 44) rfl rfl rfl ?_
  refine own_getF X12 hx hZ hby hown (host := "") (Or.inl (wd_49 hw)) Via.refl rfl f_F_q_size d10_44 (pc' := 47) rfl (fun T13 X13 e13 => ?_)
  refine own_icN X13 hx hby d10_47 (pc' := 50) rfl (show (0 : Int32) < (2 : Int32) by decide) ?_
  refine own_aloadN X13 hx hby d10_50 (pc' := 51) rfl rfl rfl ?_
  refine own_iloadN X13 hx hby d10_51 (pc' := 52) rfl rfl ?_
  refine own_aloadN X13 hx hby d10_52 (pc' := 53) rfl rfl rfl ?_
  have f_O_q : own_TQ Z T12.heap q (.ref w) (2 : Int32) := ⟨f_E_q, f_F_q_heap, f_F_q_size⟩
  refine own_lk3 hw X13 hx hZ hby (by rw [hml]; rfl) hown d10_53 (pc' := 56) rfl e13 f_O_q.1 (W := 0) (Nat.le_of_eq rfl) (rmD2a l Z a0 hw [] q w kk z dz sz y dy sy (.ref x) rfl T12.heap n0 Zn f_O_q f_V_w ho f_O_z f_O_y ge_w ge_z (Ne.symm ne_y_z) hz) (by decide) (by decide) (by decide) (by decide) (fun v14 T14 L14 X14 hQ14 => ?_)
  obtain ⟨rfl, Nq14, K14, V14, Ot14⟩ := hQ14
  have N14 := Fr.app N12 Nq14
  have f_O_y := f_O_y.keep K14 (ninS ne_y_w (ninS ne_y_z nin0))
  have O12 := O12.keep K14 (ninS ne_x_w (ninS ne_x_z nin0))
  have f_O_q := f_O_q.keep K14 (ninS (Ne.symm ne_w_q) (ninS (Ne.symm ne_z_q) nin0))
  have Zn := Nat.le_trans Zn K14.1
  have Kp := Kp.trans K14 (allS (Or.inl (List.mem_of_getElem? (i := 1) rfl)) (allS (Or.inl (List.mem_of_getElem? (i := 3) rfl)) all0))
  show own_End p e below _ (T14.setTop (mkF m 56 _ []))
  refine own_aloadN X14 hx hby d10_56 (pc' := 57) rfl rfl rfl ?_
  obtain ⟨f_E_q, f_F_q_heap, f_F_q_size⟩ := f_O_q
  refine own_getF X14 hx hZ hby hown (host := "") (Or.inl (wd_33 hw)) Via.refl rfl f_F_q_heap d10_57 (pc' := 60) rfl (fun T15 X15 e15 => ?_)
  refine own_iloadN X15 hx hby d10_60 (pc' := 61) rfl rfl ?_
  obtain ⟨cl16, Ar16, q16, S16, M16, H16, G16⟩ := id V14
  have hin16 : ¬ ((0 : Int32) < 0 ∨ cl16.slots.size ≤ ((0 : Int32)).toNatClampNeg) := inb_of S16 ⟨by decide, by decide⟩
  have hat16 : cl16.slots[((0 : Int32)).toNatClampNeg]? = some (.ref z) := H16.at hin16 rfl
  refine own_aaload X15 hx hZ hby e15 Ar16 rfl hin16 hat16 d10_61 (pc' := 62) rfl ?_
  refine own_aloadN X15 hx hby d10_62 (pc' := 63) rfl rfl rfl ?_
  refine own_acmp X15 hx hby d10_63 rfl rfl (same := true) (decide_eq_true rfl) (by decide) (pc' := 66) (by decide) ?_
  refine own_aloadN X15 hx hby d10_66 (pc' := 67) rfl rfl rfl ?_
  refine own_iloadN X15 hx hby d10_67 (pc' := 68) rfl rfl ?_
  refine own_aloadN X15 hx hby d10_68 (pc' := 69) rfl rfl rfl ?_
  have f_O_q : own_TQ Z T14.heap q (.ref w) (2 : Int32) := ⟨f_E_q, f_F_q_heap, f_F_q_size⟩
  refine own_lk4 hw X15 hx hZ hby (by rw [hml]; rfl) hown d10_69 (pc' := 72) rfl e15 f_O_q.1 (W := 0) (Nat.le_of_eq rfl) (rmU0r2 l Z a0 hw [] q w kk z dz sz y dy sy T14.heap n0 Zn f_O_q V14 ho Ot14 f_O_y ge_w ge_z (Ne.symm ne_y_z)) (by decide) (by decide) (by decide) (by decide) (fun v17 T17 L17 X17 hQ17 => ?_)
  obtain ⟨rfl, Nq17, K17, V17, Ot17⟩ := hQ17
  have N17 := Fr.app N14 Nq17
  have f_O_y := f_O_y.keep K17 (ninS ne_y_w (ninS ne_y_z nin0))
  have O12 := O12.keep K17 (ninS ne_x_w (ninS ne_x_z nin0))
  have f_O_q := f_O_q.keep K17 (ninS (Ne.symm ne_w_q) (ninS (Ne.symm ne_z_q) nin0))
  have Zn := Nat.le_trans Zn K17.1
  have Kp := Kp.trans K17 (allS (Or.inl (List.mem_of_getElem? (i := 1) rfl)) (allS (Or.inl (List.mem_of_getElem? (i := 3) rfl)) all0))
  show own_End p e below _ (T17.setTop (mkF m 72 _ []))
  refine own_return X17 hx hlk hby hret d10_72 (own_lv ?_ (by decide) (by decide))
  show QR3a Z q w kk x dx sx y dy sy z dz sz  h0 n0 none T17.heap _
  exact ⟨rfl, N17, Kp, f_O_q, V17, O12, Ot17⟩
theorem own_ef_rmR3b (m : MethodId) (q : Addr)  : entryFrame m #[(.ref q), (.int (0 : Int32))] 4 = mkF m 0 #[.val (.ref q), .val (.int (0 : Int32)), .unset, .unset] [] := by first | (simp [entryFrame, mkF, argsToLocals, Value.category]; done) | rfl
def QR3b (Z : State) (q : Addr) (w : Addr) (kk : ClassId) (x : Addr) (dx : Int64) (sx : Int64) (y : Addr) (dy : Int64) (sy : Int64) (z : Addr) (dz : Int64) (sz : Int64) (h0 : Heap) (n0 : Nat) (v : Option Value) (h : Heap) (L : List Loc) : Prop := v = none ∧ Fr n0 L ∧ Keep h0 h [q, w, x, y, z] ∧ own_TQ Z h q (.ref w) (2 : Int32) ∧ Arv Z h w kk (.object "com/example/earnest_reactor/earnestreactor/core/ScheduledTask") (16 : Int32) [(.ref y), (.ref z), .null] .null ∧ own_TK Z h x .null dx sx .null (-1 : Int32) ∧ own_TK Z h y .null dy sy .null (0 : Int32) ∧ own_TK Z h z .null dz sz .null (1 : Int32)
set_option maxRecDepth 65536 in
set_option maxHeartbeats 40000000 in
theorem rmR3b (l : Launch) (Z : State) (a0 : Array Value) (hw : ∀ d ∈ tables_1, d.before a0 Z = true) (ws : List Jvm.Cond) (q : Addr) (w : Addr) (kk : ClassId) (x : Addr) (dx : Int64) (sx : Int64) (y : Addr) (dy : Int64) (sy : Int64) (z : Addr) (dz : Int64) (sz : Int64) (h0 : Heap) (n0 : Nat) (Z0 : n0 ≤ h0.size) (f_O_q : own_TQ Z h0 q (.ref w) (3 : Int32)) (f_V_w : Arv Z h0 w kk (.object "com/example/earnest_reactor/earnestreactor/core/ScheduledTask") (16 : Int32) [(.ref x), (.ref y), (.ref z)] .null) (ho : Ovr Z kk "com/example/earnest_reactor/earnestreactor/core/ScheduledTask") (f_O_x : own_TK Z h0 x .null dx sx .null (0 : Int32)) (f_O_y : own_TK Z h0 y .null dy sy .null (1 : Int32)) (f_O_z : own_TK Z h0 z .null dz sz .null (2 : Int32)) (ge_q : n0 ≤ q) (ge_w : n0 ≤ w) (ge_x : n0 ≤ x) (ge_y : n0 ≤ y) (ge_z : n0 ≤ z) (ne_x_y : x ≠ y) (ne_x_z : x ≠ z) (ne_y_z : y ≠ z) (hz : own_rb dy sy dz sz = (1 : Int32)) :
    MetFree l (⟨"com/example/earnest_reactor/earnestreactor/core/TimerQueue", "removeAt", "(I)V"⟩ : MethodName) (head1 (Jvm.Cond.code (⟨"com/example/earnest_reactor/earnestreactor/core/TimerQueue", "removeAt", "(I)V"⟩ : MethodName) prog_35_method_7_code 4 none :: ws) ({ frames := 3, cells := 0, slots := 0, locals := 44 } : Room)) (fun aa U => aa = #[(.ref q), (.int (0 : Int32))] ∧ Z.Warmed39 U.vm ∧ U.heap = h0) (fun _ _ _ _ _ => True) (fun _ U oc U' => ∃ v L, oc = .returned v ∧ QR3b Z q w kk x dx sx y dy sy z dz sz h0 n0 v U'.heap L ∧ FrameEnd U oc U' L ({ frames := 3, cells := 0, slots := 0, locals := 44 } : Room).cells ({ frames := 3, cells := 0, slots := 0, locals := 44 } : Room).slots) := by
  refine MetFree.of_bodySF (plainFor_of_name own_pn1) hisR ?_
  intro p e s m args below meth c s₁ Bd hml0 hP hK
  obtain ⟨rfl, hZ, hh⟩ := hP
  have hx := Bd.exec
  have hby := Bd.bytes
  have hlk := Bd.notSynchronized
  have hret := Bd.returns
  have hml : c.maxLocals = 4 := hml0
  have hown : s.vm.findClass "com/example/earnest_reactor/earnestreactor/core/TimerQueue" = some m.cls := findClass_of_methodNamed Bd.named
  have hnm := (name_of_methodNamed Bd.named Bd.method).1
  have X0 : Stand p l e ({ frames := 3, cells := 0, slots := 0, locals := 44 } : Room) s m #[(.ref q), (.int (0 : Int32))] below meth c s₁ [] 0 0 := Stand.of_body Bd
  have e0 : s₁.heap = h0 := by rw [← hh, Bd.state]; rfl
  have N0 := Fr.nil n0
  refine own_body (Q := QR3b Z q w kk x dx sx y dy sy z dz sz h0 n0) (KC := ({ frames := 3, cells := 0, slots := 0, locals := 44 } : Room).cells) (KS := ({ frames := 3, cells := 0, slots := 0, locals := 44 } : Room).slots) ?_
  rw [own_ef_rmR3b m q]
  have Kp : Keep h0 h0 [q, w, x, y, z] := Keep.refl h0 _
  refine own_aloadN X0 hx hby d10_0 (pc' := 1) rfl rfl rfl ?_
  obtain ⟨f_E_q, f_F_q_heap, f_F_q_size⟩ := f_O_q
  refine own_getF X0 hx hZ hby hown (host := "") (Or.inl (wd_33 hw)) Via.refl e0 f_F_q_heap d10_1 (pc' := 4) rfl (fun T1 X1 e1 => ?_)
  refine own_iloadN X1 hx hby d10_4 (pc' := 5) rfl rfl ?_
  obtain ⟨cl2, Ar2, q2, S2, M2, H2, G2⟩ := id f_V_w
  have hin2 : ¬ ((0 : Int32) < 0 ∨ cl2.slots.size ≤ ((0 : Int32)).toNatClampNeg) := inb_of S2 ⟨by decide, by decide⟩
  have hat2 : cl2.slots[((0 : Int32)).toNatClampNeg]? = some (.ref x) := H2.at hin2 rfl
  refine own_aaload X1 hx hZ hby e1 Ar2 rfl hin2 hat2 d10_5 (pc' := 6) rfl ?_
  refine own_astoreN X1 hx hby d10_6 (pc' := 7) rfl rfl (l' := #[.val (.ref q), .val (.int (0 : Int32)), .val (.ref x), .unset]) rfl ?_
  refine own_aloadN X1 hx hby d10_7 (pc' := 8) rfl rfl rfl ?_
  refine own_dup X1 hx hby d10_8 (pc' := 9) rfl rfl ?_
  refine own_getF X1 hx hZ hby hown (host := "") (Or.inl (wd_49 hw)) Via.refl e1 f_F_q_size d10_9 (pc' := 12) rfl (fun T3 X3 e3 => ?_)
  refine own_iconst X3 hx hby d10_12 (pc' := 13) rfl (n := (1 : Int32)) (by decide) ?_
  refine own_isub X3 hx hby d10_13 (pc' := 14) rfl ?_
  show own_End p e below _ (T3.setTop (mkF m 14 #[.val (.ref q), .val (.int (0 : Int32)), .val (.ref x), .unset] [(.int (2 : Int32)), (.ref q)]))
  have ne_w_q : w ≠ q := Ne.symm (Exa.neArv f_E_q f_V_w (wd_26 hw))
  have ne_x_q : x ≠ q := Exa.ne f_O_x.1 f_E_q (by decide)
  have ne_y_q : y ≠ q := Exa.ne f_O_y.1 f_E_q (by decide)
  have ne_z_q : z ≠ q := Exa.ne f_O_z.1 f_E_q (by decide)
  refine own_putF X3 hx hZ hby hown (host := "") (Or.inl (wd_49 hw)) Via.refl e3 f_F_q_size f_E_q (Or.inl (wd_50 hw)) (wd_26 hw) (ty := .int) (by decide) rfl rfl d10_14 (pc' := 17) rfl (fun T4 h4 X4 e4 W4 => ?_)
  have f_F_q_size := f_F_q_size.same W4
  have f_V_w := f_V_w.other W4 ne_w_q
  have f_O_x := f_O_x.other W4 ne_x_q
  have f_O_y := f_O_y.other W4 ne_y_q
  have f_O_z := f_O_z.other W4 ne_z_q
  have f_E_q := f_E_q.wr W4
  have f_F_q_heap := f_F_q_heap.other W4 (Or.inr (slot_ne (Or.inl (wd_34 hw)) (Or.inl (wd_50 hw)) (by decide) (t := (.array (.object "com/example/earnest_reactor/earnestreactor/core/ScheduledTask"))) (t' := .int) (by decide) (by decide)))
  have Zn := Nat.le_trans Z0 (Keep.of_wr W4).1
  have Kp := Kp.wr W4 (Or.inl (List.mem_of_getElem? (i := 0) rfl))
  have N4 := Fr.snoc X4 N0 ge_q
  refine own_aloadN X4 hx hby d10_17 (pc' := 18) rfl rfl rfl ?_
  refine own_getF X4 hx hZ hby hown (host := "") (Or.inl (wd_33 hw)) Via.refl e4 f_F_q_heap d10_18 (pc' := 21) rfl (fun T5 X5 e5 => ?_)
  refine own_aloadN X5 hx hby d10_21 (pc' := 22) rfl rfl rfl ?_
  refine own_getF X5 hx hZ hby hown (host := "") (Or.inl (wd_49 hw)) Via.refl e5 f_F_q_size d10_22 (pc' := 25) rfl (fun T6 X6 e6 => ?_)
  obtain ⟨cl7, Ar7, q7, S7, M7, H7, G7⟩ := id f_V_w
  have hin7 : ¬ ((2 : Int32) < 0 ∨ cl7.slots.size ≤ ((2 : Int32)).toNatClampNeg) := inb_of S7 ⟨by decide, by decide⟩
  have hat7 : cl7.slots[((2 : Int32)).toNatClampNeg]? = some (.ref z) := H7.at hin7 rfl
  refine own_aaload X6 hx hZ hby e6 Ar7 rfl hin7 hat7 d10_25 (pc' := 26) rfl ?_
  refine own_astoreN X6 hx hby d10_26 (pc' := 27) rfl rfl (l' := #[.val (.ref q), .val (.int (0 : Int32)), .val (.ref x), .val (.ref z)]) rfl ?_
  refine own_aloadN X6 hx hby d10_27 (pc' := 28) rfl rfl rfl ?_
  refine own_getF X6 hx hZ hby hown (host := "") (Or.inl (wd_33 hw)) Via.refl e6 f_F_q_heap d10_28 (pc' := 31) rfl (fun T8 X8 e8 => ?_)
  refine own_aloadN X8 hx hby d10_31 (pc' := 32) rfl rfl rfl ?_
  refine own_getF X8 hx hZ hby hown (host := "") (Or.inl (wd_49 hw)) Via.refl e8 f_F_q_size d10_32 (pc' := 35) rfl (fun T9 X9 e9 => ?_)
  refine own_aconst_null X9 hx hby d10_35 (pc' := 36) rfl ?_
  have ne_x_w : x ≠ w := Exa.neArv f_O_x.1 f_V_w (wd_6 hw)
  have ne_y_w : y ≠ w := Exa.neArv f_O_y.1 f_V_w (wd_6 hw)
  have ne_z_w : z ≠ w := Exa.neArv f_O_z.1 f_V_w (wd_6 hw)
  obtain ⟨cl10, Ar10, q10, S10, M10, H10, G10⟩ := id f_V_w
  have hin10 : ¬ ((2 : Int32) < 0 ∨ cl10.slots.size ≤ ((2 : Int32)).toNatClampNeg) := inb_of S10 ⟨by decide, by decide⟩
  refine own_stR X9 hx hZ hby e9 Ar10 hin10 rfl (Or.inl rfl) d10_36 (pc' := 37) rfl (fun T11 h11 X11 e11 W11 => ?_)
  have f_V_w := Arv.set Ar10 q10 S10 M10 H10 G10 rfl W11 2 rfl (Nat.le_of_ble_eq_true rfl)
  have f_V_w : Arv Z h11 w kk (.object "com/example/earnest_reactor/earnestreactor/core/ScheduledTask") (16 : Int32) [(.ref x), (.ref y), .null] .null := f_V_w
  have f_O_x := f_O_x.other W11 ne_x_w
  have f_O_y := f_O_y.other W11 ne_y_w
  have f_O_z := f_O_z.other W11 ne_z_w
  have f_E_q := f_E_q.wr W11
  have f_F_q_heap := f_F_q_heap.other W11 (Or.inl (Ne.symm ne_w_q))
  have f_F_q_size := f_F_q_size.other W11 (Or.inl (Ne.symm ne_w_q))
  have Zn := Nat.le_trans Zn (Keep.of_wr W11).1
  have Kp := Kp.wr W11 (Or.inl (List.mem_of_getElem? (i := 1) rfl))
  have N11 := Fr.snoc X11 N4 ge_w
  refine own_aloadN X11 hx hby d10_37 (pc' := 38) rfl rfl rfl ?_
  refine own_iconst X11 hx hby d10_38 (pc' := 39) rfl (n := (-1 : Int32)) (by decide) ?_
  refine own_lk0 hw X11 hx hZ hby (by rw [hml]; rfl) hown d10_39 (pc' := 42) rfl e11 f_O_x.1 (W := 0) (Nat.le_of_eq rfl) (rmSQ l Z a0 hw [] x dx sx (0 : Int32) (-1 : Int32) h11 n0 Zn f_O_x ge_x) (by decide) (by decide) (by decide) (by decide) (fun v12 T12 L12 X12 hQ12 => ?_)
  obtain ⟨rfl, Nq12, K12, O12⟩ := hQ12
  have N12 := Fr.app N11 Nq12
  have f_V_w := f_V_w.keep K12 (ninS (Ne.symm ne_x_w) nin0)
  have f_O_y := f_O_y.keep K12 (ninS (Ne.symm ne_x_y) nin0)
  have f_O_z := f_O_z.keep K12 (ninS (Ne.symm ne_x_z) nin0)
  have f_E_q := f_E_q.keep K12
  have f_F_q_heap := f_F_q_heap.keep K12 (ninS (Ne.symm ne_x_q) nin0)
  have f_F_q_size := f_F_q_size.keep K12 (ninS (Ne.symm ne_x_q) nin0)
  have Zn := Nat.le_trans Zn K12.1
  have Kp := Kp.trans K12 (allS (Or.inl (List.mem_of_getElem? (i := 2) rfl)) all0)
  show own_End p e below _ (T12.setTop (mkF m 42 _ []))
  refine own_iloadN X12 hx hby d10_42 (pc' := 43) rfl rfl ?_
  refine own_aloadN X12 hx hby d10_43 (pc' := 44) rfl rfl rfl ?_
  refine own_getF X12 hx hZ hby hown (host := "") (Or.inl (wd_49 hw)) Via.refl rfl f_F_q_size d10_44 (pc' := 47) rfl (fun T13 X13 e13 => ?_)
  refine own_icN X13 hx hby d10_47 (pc' := 50) rfl (show (0 : Int32) < (2 : Int32) by decide) ?_
  refine own_aloadN X13 hx hby d10_50 (pc' := 51) rfl rfl rfl ?_
  refine own_iloadN X13 hx hby d10_51 (pc' := 52) rfl rfl ?_
  refine own_aloadN X13 hx hby d10_52 (pc' := 53) rfl rfl rfl ?_
  have f_O_q : own_TQ Z T12.heap q (.ref w) (2 : Int32) := ⟨f_E_q, f_F_q_heap, f_F_q_size⟩
  refine own_lk3 hw X13 hx hZ hby (by rw [hml]; rfl) hown d10_53 (pc' := 56) rfl e13 f_O_q.1 (W := 0) (Nat.le_of_eq rfl) (rmD2b l Z a0 hw [] q w kk z dz sz y dy sy (.ref x) rfl T12.heap n0 Zn f_O_q f_V_w ho f_O_z f_O_y ge_w ge_z ge_y (Ne.symm ne_y_z) hz) (by decide) (by decide) (by decide) (by decide) (fun v14 T14 L14 X14 hQ14 => ?_)
  obtain ⟨rfl, Nq14, K14, V14, Ot14, Oy14⟩ := hQ14
  have N14 := Fr.app N12 Nq14
  have O12 := O12.keep K14 (ninS ne_x_w (ninS ne_x_z (ninS ne_x_y nin0)))
  have f_O_q := f_O_q.keep K14 (ninS (Ne.symm ne_w_q) (ninS (Ne.symm ne_z_q) (ninS (Ne.symm ne_y_q) nin0)))
  have Zn := Nat.le_trans Zn K14.1
  have Kp := Kp.trans K14 (allS (Or.inl (List.mem_of_getElem? (i := 1) rfl)) (allS (Or.inl (List.mem_of_getElem? (i := 4) rfl)) (allS (Or.inl (List.mem_of_getElem? (i := 3) rfl)) all0)))
  show own_End p e below _ (T14.setTop (mkF m 56 _ []))
  refine own_aloadN X14 hx hby d10_56 (pc' := 57) rfl rfl rfl ?_
  obtain ⟨f_E_q, f_F_q_heap, f_F_q_size⟩ := f_O_q
  refine own_getF X14 hx hZ hby hown (host := "") (Or.inl (wd_33 hw)) Via.refl rfl f_F_q_heap d10_57 (pc' := 60) rfl (fun T15 X15 e15 => ?_)
  refine own_iloadN X15 hx hby d10_60 (pc' := 61) rfl rfl ?_
  obtain ⟨cl16, Ar16, q16, S16, M16, H16, G16⟩ := id V14
  have hin16 : ¬ ((0 : Int32) < 0 ∨ cl16.slots.size ≤ ((0 : Int32)).toNatClampNeg) := inb_of S16 ⟨by decide, by decide⟩
  have hat16 : cl16.slots[((0 : Int32)).toNatClampNeg]? = some (.ref y) := H16.at hin16 rfl
  refine own_aaload X15 hx hZ hby e15 Ar16 rfl hin16 hat16 d10_61 (pc' := 62) rfl ?_
  refine own_aloadN X15 hx hby d10_62 (pc' := 63) rfl rfl rfl ?_
  refine own_acmp X15 hx hby d10_63 rfl rfl (same := false) (decide_eq_false fun q => ne_y_z (Value.ref.inj q)) (by decide) (pc' := 72) (by decide) ?_
  refine own_return X15 hx hlk hby hret d10_72 (own_lv ?_ (by decide) (by decide))
  show QR3b Z q w kk x dx sx y dy sy z dz sz  h0 n0 none T15.heap _
  rw [e15]
  exact ⟨rfl, N14, Kp, ⟨f_E_q, f_F_q_heap, f_F_q_size⟩, V14, O12, Oy14, Ot14⟩
theorem own_ef_rmP0 (m : MethodId) (q : Addr)  : entryFrame m #[(.ref q)] 2 = mkF m 0 #[.val (.ref q), .unset] [] := by first | (simp [entryFrame, mkF, argsToLocals, Value.category]; done) | rfl
def QP0 (Z : State) (q : Addr) (w : Addr) (kk : ClassId) (h0 : Heap) (n0 : Nat) (v : Option Value) (h : Heap) (L : List Loc) : Prop := v = some .null ∧ Fr n0 L ∧ h = h0
set_option maxRecDepth 65536 in
set_option maxHeartbeats 40000000 in
theorem rmP0 (l : Launch) (Z : State) (a0 : Array Value) (hw : ∀ d ∈ tables_1, d.before a0 Z = true) (ws : List Jvm.Cond) (q : Addr) (w : Addr) (kk : ClassId) (h0 : Heap) (n0 : Nat) (Z0 : n0 ≤ h0.size) (f_O_q : own_TQ Z h0 q (.ref w) (0 : Int32)) (f_V_w : Arv Z h0 w kk (.object "com/example/earnest_reactor/earnestreactor/core/ScheduledTask") (16 : Int32) [.null, .null, .null] .null) (ho : Ovr Z kk "com/example/earnest_reactor/earnestreactor/core/ScheduledTask") :
    MetFree l (⟨"com/example/earnest_reactor/earnestreactor/core/TimerQueue", "poll", "()Lcom/example/earnest_reactor/earnestreactor/core/ScheduledTask;"⟩ : MethodName) (head1 (Jvm.Cond.code (⟨"com/example/earnest_reactor/earnestreactor/core/TimerQueue", "poll", "()Lcom/example/earnest_reactor/earnestreactor/core/ScheduledTask;"⟩ : MethodName) prog_35_method_5_code 2 (some (.object "com/example/earnest_reactor/earnestreactor/core/ScheduledTask")) :: ws) ({ frames := 0, cells := 0, slots := 0, locals := 0 } : Room)) (fun aa U => aa = #[(.ref q)] ∧ Z.Warmed39 U.vm ∧ U.heap = h0) (fun _ _ _ _ _ => True) (fun _ U oc U' => ∃ v L, oc = .returned v ∧ QP0 Z q w kk h0 n0 v U'.heap L ∧ FrameEnd U oc U' L ({ frames := 0, cells := 0, slots := 0, locals := 0 } : Room).cells ({ frames := 0, cells := 0, slots := 0, locals := 0 } : Room).slots) := by
  refine MetFree.of_bodySF (plainFor_of_name own_pn1) hisR ?_
  intro p e s m args below meth c s₁ Bd hml0 hP hK
  obtain ⟨rfl, hZ, hh⟩ := hP
  have hx := Bd.exec
  have hby := Bd.bytes
  have hlk := Bd.notSynchronized
  have hret := Bd.returns
  have hml : c.maxLocals = 2 := hml0
  have hown : s.vm.findClass "com/example/earnest_reactor/earnestreactor/core/TimerQueue" = some m.cls := findClass_of_methodNamed Bd.named
  have hnm := (name_of_methodNamed Bd.named Bd.method).1
  have X0 : Stand p l e ({ frames := 0, cells := 0, slots := 0, locals := 0 } : Room) s m #[(.ref q)] below meth c s₁ [] 0 0 := Stand.of_body Bd
  have e0 : s₁.heap = h0 := by rw [← hh, Bd.state]; rfl
  have N0 := Fr.nil n0
  refine own_body (Q := QP0 Z q w kk h0 n0) (KC := ({ frames := 0, cells := 0, slots := 0, locals := 0 } : Room).cells) (KS := ({ frames := 0, cells := 0, slots := 0, locals := 0 } : Room).slots) ?_
  rw [own_ef_rmP0 m q]
  refine own_aloadN X0 hx hby d4_0 (pc' := 1) rfl rfl rfl ?_
  obtain ⟨f_E_q, f_F_q_heap, f_F_q_size⟩ := f_O_q
  refine own_getF X0 hx hZ hby hown (host := "") (Or.inl (wd_33 hw)) Via.refl e0 f_F_q_heap d4_1 (pc' := 4) rfl (fun T1 X1 e1 => ?_)
  refine own_iconst X1 hx hby d4_4 (pc' := 5) rfl (n := (0 : Int32)) (by decide) ?_
  obtain ⟨cl2, Ar2, q2, S2, M2, H2, G2⟩ := id f_V_w
  have hin2 : ¬ ((0 : Int32) < 0 ∨ cl2.slots.size ≤ ((0 : Int32)).toNatClampNeg) := inb_of S2 ⟨by decide, by decide⟩
  have hat2 : cl2.slots[((0 : Int32)).toNatClampNeg]? = some .null := H2.at hin2 rfl
  refine own_aaload X1 hx hZ hby e1 Ar2 rfl hin2 hat2 d4_5 (pc' := 6) rfl ?_
  refine own_astoreN X1 hx hby d4_6 (pc' := 7) rfl rfl (l' := #[.val (.ref q), .val .null]) rfl ?_
  refine own_aloadN X1 hx hby d4_7 (pc' := 8) rfl rfl rfl ?_
  refine own_ifnullY X1 hx hby d4_8 (pc' := 16) (by decide) (by decide) ?_
  refine own_aloadN X1 hx hby d4_16 (pc' := 17) rfl rfl rfl ?_
  refine own_areturn X1 hx hlk hby hret rfl rfl d4_17 (own_lv ?_ (by decide) (by decide))
  show QP0 Z q w kk  h0 n0 (some .null) T1.heap _
  rw [e1]
  exact ⟨rfl, N0, rfl⟩
theorem own_ef_rmP1 (m : MethodId) (q : Addr)  : entryFrame m #[(.ref q)] 2 = mkF m 0 #[.val (.ref q), .unset] [] := by first | (simp [entryFrame, mkF, argsToLocals, Value.category]; done) | rfl
def QP1 (Z : State) (q : Addr) (w : Addr) (kk : ClassId) (x : Addr) (dx : Int64) (sx : Int64) (h0 : Heap) (n0 : Nat) (v : Option Value) (h : Heap) (L : List Loc) : Prop := v = some (.ref x) ∧ Fr n0 L ∧ Keep h0 h [q, w, x] ∧ own_TQ Z h q (.ref w) (0 : Int32) ∧ Arv Z h w kk (.object "com/example/earnest_reactor/earnestreactor/core/ScheduledTask") (16 : Int32) [.null, .null, .null] .null ∧ own_TK Z h x .null dx sx .null (-1 : Int32)
set_option maxRecDepth 65536 in
set_option maxHeartbeats 40000000 in
theorem rmP1 (l : Launch) (Z : State) (a0 : Array Value) (hw : ∀ d ∈ tables_1, d.before a0 Z = true) (ws : List Jvm.Cond) (q : Addr) (w : Addr) (kk : ClassId) (x : Addr) (dx : Int64) (sx : Int64) (h0 : Heap) (n0 : Nat) (Z0 : n0 ≤ h0.size) (f_O_q : own_TQ Z h0 q (.ref w) (1 : Int32)) (f_V_w : Arv Z h0 w kk (.object "com/example/earnest_reactor/earnestreactor/core/ScheduledTask") (16 : Int32) [(.ref x), .null, .null] .null) (ho : Ovr Z kk "com/example/earnest_reactor/earnestreactor/core/ScheduledTask") (f_O_x : own_TK Z h0 x .null dx sx .null (0 : Int32)) (ge_q : n0 ≤ q) (ge_w : n0 ≤ w) (ge_x : n0 ≤ x) :
    MetFree l (⟨"com/example/earnest_reactor/earnestreactor/core/TimerQueue", "poll", "()Lcom/example/earnest_reactor/earnestreactor/core/ScheduledTask;"⟩ : MethodName) (head1 (Jvm.Cond.code (⟨"com/example/earnest_reactor/earnestreactor/core/TimerQueue", "poll", "()Lcom/example/earnest_reactor/earnestreactor/core/ScheduledTask;"⟩ : MethodName) prog_35_method_5_code 2 (some (.object "com/example/earnest_reactor/earnestreactor/core/ScheduledTask")) :: ws) ({ frames := 2, cells := 0, slots := 0, locals := 28 } : Room)) (fun aa U => aa = #[(.ref q)] ∧ Z.Warmed39 U.vm ∧ U.heap = h0) (fun _ _ _ _ _ => True) (fun _ U oc U' => ∃ v L, oc = .returned v ∧ QP1 Z q w kk x dx sx h0 n0 v U'.heap L ∧ FrameEnd U oc U' L ({ frames := 2, cells := 0, slots := 0, locals := 28 } : Room).cells ({ frames := 2, cells := 0, slots := 0, locals := 28 } : Room).slots) := by
  refine MetFree.of_bodySF (plainFor_of_name own_pn1) hisR ?_
  intro p e s m args below meth c s₁ Bd hml0 hP hK
  obtain ⟨rfl, hZ, hh⟩ := hP
  have hx := Bd.exec
  have hby := Bd.bytes
  have hlk := Bd.notSynchronized
  have hret := Bd.returns
  have hml : c.maxLocals = 2 := hml0
  have hown : s.vm.findClass "com/example/earnest_reactor/earnestreactor/core/TimerQueue" = some m.cls := findClass_of_methodNamed Bd.named
  have hnm := (name_of_methodNamed Bd.named Bd.method).1
  have X0 : Stand p l e ({ frames := 2, cells := 0, slots := 0, locals := 28 } : Room) s m #[(.ref q)] below meth c s₁ [] 0 0 := Stand.of_body Bd
  have e0 : s₁.heap = h0 := by rw [← hh, Bd.state]; rfl
  have N0 := Fr.nil n0
  refine own_body (Q := QP1 Z q w kk x dx sx h0 n0) (KC := ({ frames := 2, cells := 0, slots := 0, locals := 28 } : Room).cells) (KS := ({ frames := 2, cells := 0, slots := 0, locals := 28 } : Room).slots) ?_
  rw [own_ef_rmP1 m q]
  have Kp : Keep h0 h0 [q, w, x] := Keep.refl h0 _
  refine own_aloadN X0 hx hby d4_0 (pc' := 1) rfl rfl rfl ?_
  obtain ⟨f_E_q, f_F_q_heap, f_F_q_size⟩ := f_O_q
  refine own_getF X0 hx hZ hby hown (host := "") (Or.inl (wd_33 hw)) Via.refl e0 f_F_q_heap d4_1 (pc' := 4) rfl (fun T1 X1 e1 => ?_)
  refine own_iconst X1 hx hby d4_4 (pc' := 5) rfl (n := (0 : Int32)) (by decide) ?_
  obtain ⟨cl2, Ar2, q2, S2, M2, H2, G2⟩ := id f_V_w
  have hin2 : ¬ ((0 : Int32) < 0 ∨ cl2.slots.size ≤ ((0 : Int32)).toNatClampNeg) := inb_of S2 ⟨by decide, by decide⟩
  have hat2 : cl2.slots[((0 : Int32)).toNatClampNeg]? = some (.ref x) := H2.at hin2 rfl
  refine own_aaload X1 hx hZ hby e1 Ar2 rfl hin2 hat2 d4_5 (pc' := 6) rfl ?_
  refine own_astoreN X1 hx hby d4_6 (pc' := 7) rfl rfl (l' := #[.val (.ref q), .val (.ref x)]) rfl ?_
  refine own_aloadN X1 hx hby d4_7 (pc' := 8) rfl rfl rfl ?_
  refine own_ifnullN X1 hx hby d4_8 (pc' := 11) rfl ?_
  refine own_aloadN X1 hx hby d4_11 (pc' := 12) rfl rfl rfl ?_
  refine own_iconst X1 hx hby d4_12 (pc' := 13) rfl (n := (0 : Int32)) (by decide) ?_
  have f_O_q : own_TQ Z h0 q (.ref w) (1 : Int32) := ⟨f_E_q, f_F_q_heap, f_F_q_size⟩
  have ne_w_q : w ≠ q := Ne.symm (Exa.neArv f_O_q.1 f_V_w (wd_26 hw))
  have ne_w_x : w ≠ x := Ne.symm (Exa.neArv f_O_x.1 f_V_w (wd_6 hw))
  have ne_x_q : x ≠ q := Exa.ne f_O_x.1 f_O_q.1 (by decide)
  refine own_lk5 hw X1 hx hZ hby (by rw [hml]; rfl) hown d4_13 (pc' := 16) rfl e1 f_O_q.1 (W := 0) (Nat.le_of_eq rfl) (rmR1 l Z a0 hw [] q w kk x dx sx h0 n0 Z0 f_O_q f_V_w ho f_O_x ge_q ge_w ge_x) (by decide) (by decide) (by decide) (by decide) (fun v3 T3 L3 X3 hQ3 => ?_)
  obtain ⟨rfl, Nq3, K3, Oq3, V3, Ox3⟩ := hQ3
  have N3 := Fr.app N0 Nq3
  have Zn := Nat.le_trans Z0 K3.1
  have Kp := Kp.trans K3 (allS (Or.inl (List.mem_of_getElem? (i := 0) rfl)) (allS (Or.inl (List.mem_of_getElem? (i := 1) rfl)) (allS (Or.inl (List.mem_of_getElem? (i := 2) rfl)) all0)))
  show own_End p e below _ (T3.setTop (mkF m 16 _ []))
  refine own_aloadN X3 hx hby d4_16 (pc' := 17) rfl rfl rfl ?_
  refine own_areturn X3 hx hlk hby hret rfl rfl d4_17 (own_lv ?_ (by decide) (by decide))
  show QP1 Z q w kk x dx sx  h0 n0 (some (.ref x)) T3.heap _
  exact ⟨rfl, N3, Kp, Oq3, V3, Ox3⟩
theorem own_ef_rmP2 (m : MethodId) (q : Addr)  : entryFrame m #[(.ref q)] 2 = mkF m 0 #[.val (.ref q), .unset] [] := by first | (simp [entryFrame, mkF, argsToLocals, Value.category]; done) | rfl
def QP2 (Z : State) (q : Addr) (w : Addr) (kk : ClassId) (x : Addr) (dx : Int64) (sx : Int64) (y : Addr) (dy : Int64) (sy : Int64) (h0 : Heap) (n0 : Nat) (v : Option Value) (h : Heap) (L : List Loc) : Prop := v = some (.ref x) ∧ Fr n0 L ∧ Keep h0 h [q, w, x, y] ∧ own_TQ Z h q (.ref w) (1 : Int32) ∧ Arv Z h w kk (.object "com/example/earnest_reactor/earnestreactor/core/ScheduledTask") (16 : Int32) [(.ref y), .null, .null] .null ∧ own_TK Z h x .null dx sx .null (-1 : Int32) ∧ own_TK Z h y .null dy sy .null (0 : Int32)
set_option maxRecDepth 65536 in
set_option maxHeartbeats 40000000 in
theorem rmP2 (l : Launch) (Z : State) (a0 : Array Value) (hw : ∀ d ∈ tables_1, d.before a0 Z = true) (ws : List Jvm.Cond) (q : Addr) (w : Addr) (kk : ClassId) (x : Addr) (dx : Int64) (sx : Int64) (y : Addr) (dy : Int64) (sy : Int64) (h0 : Heap) (n0 : Nat) (Z0 : n0 ≤ h0.size) (f_O_q : own_TQ Z h0 q (.ref w) (2 : Int32)) (f_V_w : Arv Z h0 w kk (.object "com/example/earnest_reactor/earnestreactor/core/ScheduledTask") (16 : Int32) [(.ref x), (.ref y), .null] .null) (ho : Ovr Z kk "com/example/earnest_reactor/earnestreactor/core/ScheduledTask") (f_O_x : own_TK Z h0 x .null dx sx .null (0 : Int32)) (f_O_y : own_TK Z h0 y .null dy sy .null (1 : Int32)) (ge_q : n0 ≤ q) (ge_w : n0 ≤ w) (ge_x : n0 ≤ x) (ge_y : n0 ≤ y) (ne_x_y : x ≠ y) :
    MetFree l (⟨"com/example/earnest_reactor/earnestreactor/core/TimerQueue", "poll", "()Lcom/example/earnest_reactor/earnestreactor/core/ScheduledTask;"⟩ : MethodName) (head1 (Jvm.Cond.code (⟨"com/example/earnest_reactor/earnestreactor/core/TimerQueue", "poll", "()Lcom/example/earnest_reactor/earnestreactor/core/ScheduledTask;"⟩ : MethodName) prog_35_method_5_code 2 (some (.object "com/example/earnest_reactor/earnestreactor/core/ScheduledTask")) :: ws) ({ frames := 4, cells := 0, slots := 0, locals := 59 } : Room)) (fun aa U => aa = #[(.ref q)] ∧ Z.Warmed39 U.vm ∧ U.heap = h0) (fun _ _ _ _ _ => True) (fun _ U oc U' => ∃ v L, oc = .returned v ∧ QP2 Z q w kk x dx sx y dy sy h0 n0 v U'.heap L ∧ FrameEnd U oc U' L ({ frames := 4, cells := 0, slots := 0, locals := 59 } : Room).cells ({ frames := 4, cells := 0, slots := 0, locals := 59 } : Room).slots) := by
  refine MetFree.of_bodySF (plainFor_of_name own_pn1) hisR ?_
  intro p e s m args below meth c s₁ Bd hml0 hP hK
  obtain ⟨rfl, hZ, hh⟩ := hP
  have hx := Bd.exec
  have hby := Bd.bytes
  have hlk := Bd.notSynchronized
  have hret := Bd.returns
  have hml : c.maxLocals = 2 := hml0
  have hown : s.vm.findClass "com/example/earnest_reactor/earnestreactor/core/TimerQueue" = some m.cls := findClass_of_methodNamed Bd.named
  have hnm := (name_of_methodNamed Bd.named Bd.method).1
  have X0 : Stand p l e ({ frames := 4, cells := 0, slots := 0, locals := 59 } : Room) s m #[(.ref q)] below meth c s₁ [] 0 0 := Stand.of_body Bd
  have e0 : s₁.heap = h0 := by rw [← hh, Bd.state]; rfl
  have N0 := Fr.nil n0
  refine own_body (Q := QP2 Z q w kk x dx sx y dy sy h0 n0) (KC := ({ frames := 4, cells := 0, slots := 0, locals := 59 } : Room).cells) (KS := ({ frames := 4, cells := 0, slots := 0, locals := 59 } : Room).slots) ?_
  rw [own_ef_rmP2 m q]
  have Kp : Keep h0 h0 [q, w, x, y] := Keep.refl h0 _
  refine own_aloadN X0 hx hby d4_0 (pc' := 1) rfl rfl rfl ?_
  obtain ⟨f_E_q, f_F_q_heap, f_F_q_size⟩ := f_O_q
  refine own_getF X0 hx hZ hby hown (host := "") (Or.inl (wd_33 hw)) Via.refl e0 f_F_q_heap d4_1 (pc' := 4) rfl (fun T1 X1 e1 => ?_)
  refine own_iconst X1 hx hby d4_4 (pc' := 5) rfl (n := (0 : Int32)) (by decide) ?_
  obtain ⟨cl2, Ar2, q2, S2, M2, H2, G2⟩ := id f_V_w
  have hin2 : ¬ ((0 : Int32) < 0 ∨ cl2.slots.size ≤ ((0 : Int32)).toNatClampNeg) := inb_of S2 ⟨by decide, by decide⟩
  have hat2 : cl2.slots[((0 : Int32)).toNatClampNeg]? = some (.ref x) := H2.at hin2 rfl
  refine own_aaload X1 hx hZ hby e1 Ar2 rfl hin2 hat2 d4_5 (pc' := 6) rfl ?_
  refine own_astoreN X1 hx hby d4_6 (pc' := 7) rfl rfl (l' := #[.val (.ref q), .val (.ref x)]) rfl ?_
  refine own_aloadN X1 hx hby d4_7 (pc' := 8) rfl rfl rfl ?_
  refine own_ifnullN X1 hx hby d4_8 (pc' := 11) rfl ?_
  refine own_aloadN X1 hx hby d4_11 (pc' := 12) rfl rfl rfl ?_
  refine own_iconst X1 hx hby d4_12 (pc' := 13) rfl (n := (0 : Int32)) (by decide) ?_
  have f_O_q : own_TQ Z h0 q (.ref w) (2 : Int32) := ⟨f_E_q, f_F_q_heap, f_F_q_size⟩
  have ne_w_q : w ≠ q := Ne.symm (Exa.neArv f_O_q.1 f_V_w (wd_26 hw))
  have ne_w_x : w ≠ x := Ne.symm (Exa.neArv f_O_x.1 f_V_w (wd_6 hw))
  have ne_w_y : w ≠ y := Ne.symm (Exa.neArv f_O_y.1 f_V_w (wd_6 hw))
  have ne_x_q : x ≠ q := Exa.ne f_O_x.1 f_O_q.1 (by decide)
  have ne_y_q : y ≠ q := Exa.ne f_O_y.1 f_O_q.1 (by decide)
  refine own_lk5 hw X1 hx hZ hby (by rw [hml]; rfl) hown d4_13 (pc' := 16) rfl e1 f_O_q.1 (W := 0) (Nat.le_of_eq rfl) (rmR2 l Z a0 hw [] q w kk x dx sx y dy sy h0 n0 Z0 f_O_q f_V_w ho f_O_x f_O_y ge_q ge_w ge_x ge_y ne_x_y) (by decide) (by decide) (by decide) (by decide) (fun v3 T3 L3 X3 hQ3 => ?_)
  obtain ⟨rfl, Nq3, K3, Oq3, V3, Ox3, Oy3⟩ := hQ3
  have N3 := Fr.app N0 Nq3
  have Zn := Nat.le_trans Z0 K3.1
  have Kp := Kp.trans K3 (allS (Or.inl (List.mem_of_getElem? (i := 0) rfl)) (allS (Or.inl (List.mem_of_getElem? (i := 1) rfl)) (allS (Or.inl (List.mem_of_getElem? (i := 2) rfl)) (allS (Or.inl (List.mem_of_getElem? (i := 3) rfl)) all0))))
  show own_End p e below _ (T3.setTop (mkF m 16 _ []))
  refine own_aloadN X3 hx hby d4_16 (pc' := 17) rfl rfl rfl ?_
  refine own_areturn X3 hx hlk hby hret rfl rfl d4_17 (own_lv ?_ (by decide) (by decide))
  show QP2 Z q w kk x dx sx y dy sy  h0 n0 (some (.ref x)) T3.heap _
  exact ⟨rfl, N3, Kp, Oq3, V3, Ox3, Oy3⟩
theorem own_ef_rmP3a (m : MethodId) (q : Addr)  : entryFrame m #[(.ref q)] 2 = mkF m 0 #[.val (.ref q), .unset] [] := by first | (simp [entryFrame, mkF, argsToLocals, Value.category]; done) | rfl
def QP3a (Z : State) (q : Addr) (w : Addr) (kk : ClassId) (x : Addr) (dx : Int64) (sx : Int64) (y : Addr) (dy : Int64) (sy : Int64) (z : Addr) (dz : Int64) (sz : Int64) (h0 : Heap) (n0 : Nat) (v : Option Value) (h : Heap) (L : List Loc) : Prop := v = some (.ref x) ∧ Fr n0 L ∧ Keep h0 h [q, w, x, z] ∧ own_TQ Z h q (.ref w) (2 : Int32) ∧ Arv Z h w kk (.object "com/example/earnest_reactor/earnestreactor/core/ScheduledTask") (16 : Int32) [(.ref z), (.ref y), .null] .null ∧ own_TK Z h x .null dx sx .null (-1 : Int32) ∧ own_TK Z h z .null dz sz .null (0 : Int32)
set_option maxRecDepth 65536 in
set_option maxHeartbeats 40000000 in
theorem rmP3a (l : Launch) (Z : State) (a0 : Array Value) (hw : ∀ d ∈ tables_1, d.before a0 Z = true) (ws : List Jvm.Cond) (q : Addr) (w : Addr) (kk : ClassId) (x : Addr) (dx : Int64) (sx : Int64) (y : Addr) (dy : Int64) (sy : Int64) (z : Addr) (dz : Int64) (sz : Int64) (h0 : Heap) (n0 : Nat) (Z0 : n0 ≤ h0.size) (f_O_q : own_TQ Z h0 q (.ref w) (3 : Int32)) (f_V_w : Arv Z h0 w kk (.object "com/example/earnest_reactor/earnestreactor/core/ScheduledTask") (16 : Int32) [(.ref x), (.ref y), (.ref z)] .null) (ho : Ovr Z kk "com/example/earnest_reactor/earnestreactor/core/ScheduledTask") (f_O_x : own_TK Z h0 x .null dx sx .null (0 : Int32)) (f_O_y : own_TK Z h0 y .null dy sy .null (1 : Int32)) (f_O_z : own_TK Z h0 z .null dz sz .null (2 : Int32)) (ge_q : n0 ≤ q) (ge_w : n0 ≤ w) (ge_x : n0 ≤ x) (ge_z : n0 ≤ z) (ne_x_y : x ≠ y) (ne_x_z : x ≠ z) (ne_y_z : y ≠ z) (hz : own_rb dy sy dz sz = (0 : Int32)) :
    MetFree l (⟨"com/example/earnest_reactor/earnestreactor/core/TimerQueue", "poll", "()Lcom/example/earnest_reactor/earnestreactor/core/ScheduledTask;"⟩ : MethodName) (head1 (Jvm.Cond.code (⟨"com/example/earnest_reactor/earnestreactor/core/TimerQueue", "poll", "()Lcom/example/earnest_reactor/earnestreactor/core/ScheduledTask;"⟩ : MethodName) prog_35_method_5_code 2 (some (.object "com/example/earnest_reactor/earnestreactor/core/ScheduledTask")) :: ws) ({ frames := 4, cells := 0, slots := 0, locals := 59 } : Room)) (fun aa U => aa = #[(.ref q)] ∧ Z.Warmed39 U.vm ∧ U.heap = h0) (fun _ _ _ _ _ => True) (fun _ U oc U' => ∃ v L, oc = .returned v ∧ QP3a Z q w kk x dx sx y dy sy z dz sz h0 n0 v U'.heap L ∧ FrameEnd U oc U' L ({ frames := 4, cells := 0, slots := 0, locals := 59 } : Room).cells ({ frames := 4, cells := 0, slots := 0, locals := 59 } : Room).slots) := by
  refine MetFree.of_bodySF (plainFor_of_name own_pn1) hisR ?_
  intro p e s m args below meth c s₁ Bd hml0 hP hK
  obtain ⟨rfl, hZ, hh⟩ := hP
  have hx := Bd.exec
  have hby := Bd.bytes
  have hlk := Bd.notSynchronized
  have hret := Bd.returns
  have hml : c.maxLocals = 2 := hml0
  have hown : s.vm.findClass "com/example/earnest_reactor/earnestreactor/core/TimerQueue" = some m.cls := findClass_of_methodNamed Bd.named
  have hnm := (name_of_methodNamed Bd.named Bd.method).1
  have X0 : Stand p l e ({ frames := 4, cells := 0, slots := 0, locals := 59 } : Room) s m #[(.ref q)] below meth c s₁ [] 0 0 := Stand.of_body Bd
  have e0 : s₁.heap = h0 := by rw [← hh, Bd.state]; rfl
  have N0 := Fr.nil n0
  refine own_body (Q := QP3a Z q w kk x dx sx y dy sy z dz sz h0 n0) (KC := ({ frames := 4, cells := 0, slots := 0, locals := 59 } : Room).cells) (KS := ({ frames := 4, cells := 0, slots := 0, locals := 59 } : Room).slots) ?_
  rw [own_ef_rmP3a m q]
  have Kp : Keep h0 h0 [q, w, x, z] := Keep.refl h0 _
  refine own_aloadN X0 hx hby d4_0 (pc' := 1) rfl rfl rfl ?_
  obtain ⟨f_E_q, f_F_q_heap, f_F_q_size⟩ := f_O_q
  refine own_getF X0 hx hZ hby hown (host := "") (Or.inl (wd_33 hw)) Via.refl e0 f_F_q_heap d4_1 (pc' := 4) rfl (fun T1 X1 e1 => ?_)
  refine own_iconst X1 hx hby d4_4 (pc' := 5) rfl (n := (0 : Int32)) (by decide) ?_
  obtain ⟨cl2, Ar2, q2, S2, M2, H2, G2⟩ := id f_V_w
  have hin2 : ¬ ((0 : Int32) < 0 ∨ cl2.slots.size ≤ ((0 : Int32)).toNatClampNeg) := inb_of S2 ⟨by decide, by decide⟩
  have hat2 : cl2.slots[((0 : Int32)).toNatClampNeg]? = some (.ref x) := H2.at hin2 rfl
  refine own_aaload X1 hx hZ hby e1 Ar2 rfl hin2 hat2 d4_5 (pc' := 6) rfl ?_
  refine own_astoreN X1 hx hby d4_6 (pc' := 7) rfl rfl (l' := #[.val (.ref q), .val (.ref x)]) rfl ?_
  refine own_aloadN X1 hx hby d4_7 (pc' := 8) rfl rfl rfl ?_
  refine own_ifnullN X1 hx hby d4_8 (pc' := 11) rfl ?_
  refine own_aloadN X1 hx hby d4_11 (pc' := 12) rfl rfl rfl ?_
  refine own_iconst X1 hx hby d4_12 (pc' := 13) rfl (n := (0 : Int32)) (by decide) ?_
  have f_O_q : own_TQ Z h0 q (.ref w) (3 : Int32) := ⟨f_E_q, f_F_q_heap, f_F_q_size⟩
  have ne_w_q : w ≠ q := Ne.symm (Exa.neArv f_O_q.1 f_V_w (wd_26 hw))
  have ne_w_x : w ≠ x := Ne.symm (Exa.neArv f_O_x.1 f_V_w (wd_6 hw))
  have ne_w_z : w ≠ z := Ne.symm (Exa.neArv f_O_z.1 f_V_w (wd_6 hw))
  have ne_x_q : x ≠ q := Exa.ne f_O_x.1 f_O_q.1 (by decide)
  have ne_y_q : y ≠ q := Exa.ne f_O_y.1 f_O_q.1 (by decide)
  have ne_y_w : y ≠ w := Exa.neArv f_O_y.1 f_V_w (wd_6 hw)
  have ne_z_q : z ≠ q := Exa.ne f_O_z.1 f_O_q.1 (by decide)
  refine own_lk5 hw X1 hx hZ hby (by rw [hml]; rfl) hown d4_13 (pc' := 16) rfl e1 f_O_q.1 (W := 0) (Nat.le_of_eq rfl) (rmR3a l Z a0 hw [] q w kk x dx sx y dy sy z dz sz h0 n0 Z0 f_O_q f_V_w ho f_O_x f_O_y f_O_z ge_q ge_w ge_x ge_z ne_x_y ne_x_z ne_y_z hz) (by decide) (by decide) (by decide) (by decide) (fun v3 T3 L3 X3 hQ3 => ?_)
  obtain ⟨rfl, Nq3, K3, Oq3, V3, Ox3, Oz3⟩ := hQ3
  have N3 := Fr.app N0 Nq3
  have f_O_y := f_O_y.keep K3 (ninS ne_y_q (ninS ne_y_w (ninS (Ne.symm ne_x_y) (ninS ne_y_z nin0))))
  have Zn := Nat.le_trans Z0 K3.1
  have Kp := Kp.trans K3 (allS (Or.inl (List.mem_of_getElem? (i := 0) rfl)) (allS (Or.inl (List.mem_of_getElem? (i := 1) rfl)) (allS (Or.inl (List.mem_of_getElem? (i := 2) rfl)) (allS (Or.inl (List.mem_of_getElem? (i := 3) rfl)) all0))))
  show own_End p e below _ (T3.setTop (mkF m 16 _ []))
  refine own_aloadN X3 hx hby d4_16 (pc' := 17) rfl rfl rfl ?_
  refine own_areturn X3 hx hlk hby hret rfl rfl d4_17 (own_lv ?_ (by decide) (by decide))
  show QP3a Z q w kk x dx sx y dy sy z dz sz  h0 n0 (some (.ref x)) T3.heap _
  exact ⟨rfl, N3, Kp, Oq3, V3, Ox3, Oz3⟩
theorem own_ef_rmP3b (m : MethodId) (q : Addr)  : entryFrame m #[(.ref q)] 2 = mkF m 0 #[.val (.ref q), .unset] [] := by first | (simp [entryFrame, mkF, argsToLocals, Value.category]; done) | rfl
def QP3b (Z : State) (q : Addr) (w : Addr) (kk : ClassId) (x : Addr) (dx : Int64) (sx : Int64) (y : Addr) (dy : Int64) (sy : Int64) (z : Addr) (dz : Int64) (sz : Int64) (h0 : Heap) (n0 : Nat) (v : Option Value) (h : Heap) (L : List Loc) : Prop := v = some (.ref x) ∧ Fr n0 L ∧ Keep h0 h [q, w, x, y, z] ∧ own_TQ Z h q (.ref w) (2 : Int32) ∧ Arv Z h w kk (.object "com/example/earnest_reactor/earnestreactor/core/ScheduledTask") (16 : Int32) [(.ref y), (.ref z), .null] .null ∧ own_TK Z h x .null dx sx .null (-1 : Int32) ∧ own_TK Z h y .null dy sy .null (0 : Int32) ∧ own_TK Z h z .null dz sz .null (1 : Int32)
set_option maxRecDepth 65536 in
set_option maxHeartbeats 40000000 in
theorem rmP3b (l : Launch) (Z : State) (a0 : Array Value) (hw : ∀ d ∈ tables_1, d.before a0 Z = true) (ws : List Jvm.Cond) (q : Addr) (w : Addr) (kk : ClassId) (x : Addr) (dx : Int64) (sx : Int64) (y : Addr) (dy : Int64) (sy : Int64) (z : Addr) (dz : Int64) (sz : Int64) (h0 : Heap) (n0 : Nat) (Z0 : n0 ≤ h0.size) (f_O_q : own_TQ Z h0 q (.ref w) (3 : Int32)) (f_V_w : Arv Z h0 w kk (.object "com/example/earnest_reactor/earnestreactor/core/ScheduledTask") (16 : Int32) [(.ref x), (.ref y), (.ref z)] .null) (ho : Ovr Z kk "com/example/earnest_reactor/earnestreactor/core/ScheduledTask") (f_O_x : own_TK Z h0 x .null dx sx .null (0 : Int32)) (f_O_y : own_TK Z h0 y .null dy sy .null (1 : Int32)) (f_O_z : own_TK Z h0 z .null dz sz .null (2 : Int32)) (ge_q : n0 ≤ q) (ge_w : n0 ≤ w) (ge_x : n0 ≤ x) (ge_y : n0 ≤ y) (ge_z : n0 ≤ z) (ne_x_y : x ≠ y) (ne_x_z : x ≠ z) (ne_y_z : y ≠ z) (hz : own_rb dy sy dz sz = (1 : Int32)) :
    MetFree l (⟨"com/example/earnest_reactor/earnestreactor/core/TimerQueue", "poll", "()Lcom/example/earnest_reactor/earnestreactor/core/ScheduledTask;"⟩ : MethodName) (head1 (Jvm.Cond.code (⟨"com/example/earnest_reactor/earnestreactor/core/TimerQueue", "poll", "()Lcom/example/earnest_reactor/earnestreactor/core/ScheduledTask;"⟩ : MethodName) prog_35_method_5_code 2 (some (.object "com/example/earnest_reactor/earnestreactor/core/ScheduledTask")) :: ws) ({ frames := 4, cells := 0, slots := 0, locals := 59 } : Room)) (fun aa U => aa = #[(.ref q)] ∧ Z.Warmed39 U.vm ∧ U.heap = h0) (fun _ _ _ _ _ => True) (fun _ U oc U' => ∃ v L, oc = .returned v ∧ QP3b Z q w kk x dx sx y dy sy z dz sz h0 n0 v U'.heap L ∧ FrameEnd U oc U' L ({ frames := 4, cells := 0, slots := 0, locals := 59 } : Room).cells ({ frames := 4, cells := 0, slots := 0, locals := 59 } : Room).slots) := by
  refine MetFree.of_bodySF (plainFor_of_name own_pn1) hisR ?_
  intro p e s m args below meth c s₁ Bd hml0 hP hK
  obtain ⟨rfl, hZ, hh⟩ := hP
  have hx := Bd.exec
  have hby := Bd.bytes
  have hlk := Bd.notSynchronized
  have hret := Bd.returns
  have hml : c.maxLocals = 2 := hml0
  have hown : s.vm.findClass "com/example/earnest_reactor/earnestreactor/core/TimerQueue" = some m.cls := findClass_of_methodNamed Bd.named
  have hnm := (name_of_methodNamed Bd.named Bd.method).1
  have X0 : Stand p l e ({ frames := 4, cells := 0, slots := 0, locals := 59 } : Room) s m #[(.ref q)] below meth c s₁ [] 0 0 := Stand.of_body Bd
  have e0 : s₁.heap = h0 := by rw [← hh, Bd.state]; rfl
  have N0 := Fr.nil n0
  refine own_body (Q := QP3b Z q w kk x dx sx y dy sy z dz sz h0 n0) (KC := ({ frames := 4, cells := 0, slots := 0, locals := 59 } : Room).cells) (KS := ({ frames := 4, cells := 0, slots := 0, locals := 59 } : Room).slots) ?_
  rw [own_ef_rmP3b m q]
  have Kp : Keep h0 h0 [q, w, x, y, z] := Keep.refl h0 _
  refine own_aloadN X0 hx hby d4_0 (pc' := 1) rfl rfl rfl ?_
  obtain ⟨f_E_q, f_F_q_heap, f_F_q_size⟩ := f_O_q
  refine own_getF X0 hx hZ hby hown (host := "") (Or.inl (wd_33 hw)) Via.refl e0 f_F_q_heap d4_1 (pc' := 4) rfl (fun T1 X1 e1 => ?_)
  refine own_iconst X1 hx hby d4_4 (pc' := 5) rfl (n := (0 : Int32)) (by decide) ?_
  obtain ⟨cl2, Ar2, q2, S2, M2, H2, G2⟩ := id f_V_w
  have hin2 : ¬ ((0 : Int32) < 0 ∨ cl2.slots.size ≤ ((0 : Int32)).toNatClampNeg) := inb_of S2 ⟨by decide, by decide⟩
  have hat2 : cl2.slots[((0 : Int32)).toNatClampNeg]? = some (.ref x) := H2.at hin2 rfl
  refine own_aaload X1 hx hZ hby e1 Ar2 rfl hin2 hat2 d4_5 (pc' := 6) rfl ?_
  refine own_astoreN X1 hx hby d4_6 (pc' := 7) rfl rfl (l' := #[.val (.ref q), .val (.ref x)]) rfl ?_
  refine own_aloadN X1 hx hby d4_7 (pc' := 8) rfl rfl rfl ?_
  refine own_ifnullN X1 hx hby d4_8 (pc' := 11) rfl ?_
  refine own_aloadN X1 hx hby d4_11 (pc' := 12) rfl rfl rfl ?_
  refine own_iconst X1 hx hby d4_12 (pc' := 13) rfl (n := (0 : Int32)) (by decide) ?_
  have f_O_q : own_TQ Z h0 q (.ref w) (3 : Int32) := ⟨f_E_q, f_F_q_heap, f_F_q_size⟩
  have ne_w_q : w ≠ q := Ne.symm (Exa.neArv f_O_q.1 f_V_w (wd_26 hw))
  have ne_w_x : w ≠ x := Ne.symm (Exa.neArv f_O_x.1 f_V_w (wd_6 hw))
  have ne_w_y : w ≠ y := Ne.symm (Exa.neArv f_O_y.1 f_V_w (wd_6 hw))
  have ne_w_z : w ≠ z := Ne.symm (Exa.neArv f_O_z.1 f_V_w (wd_6 hw))
  have ne_x_q : x ≠ q := Exa.ne f_O_x.1 f_O_q.1 (by decide)
  have ne_y_q : y ≠ q := Exa.ne f_O_y.1 f_O_q.1 (by decide)
  have ne_z_q : z ≠ q := Exa.ne f_O_z.1 f_O_q.1 (by decide)
  refine own_lk5 hw X1 hx hZ hby (by rw [hml]; rfl) hown d4_13 (pc' := 16) rfl e1 f_O_q.1 (W := 0) (Nat.le_of_eq rfl) (rmR3b l Z a0 hw [] q w kk x dx sx y dy sy z dz sz h0 n0 Z0 f_O_q f_V_w ho f_O_x f_O_y f_O_z ge_q ge_w ge_x ge_y ge_z ne_x_y ne_x_z ne_y_z hz) (by decide) (by decide) (by decide) (by decide) (fun v3 T3 L3 X3 hQ3 => ?_)
  obtain ⟨rfl, Nq3, K3, Oq3, V3, Ox3, Oy3, Oz3⟩ := hQ3
  have N3 := Fr.app N0 Nq3
  have Zn := Nat.le_trans Z0 K3.1
  have Kp := Kp.trans K3 (allS (Or.inl (List.mem_of_getElem? (i := 0) rfl)) (allS (Or.inl (List.mem_of_getElem? (i := 1) rfl)) (allS (Or.inl (List.mem_of_getElem? (i := 2) rfl)) (allS (Or.inl (List.mem_of_getElem? (i := 3) rfl)) (allS (Or.inl (List.mem_of_getElem? (i := 4) rfl)) all0)))))
  show own_End p e below _ (T3.setTop (mkF m 16 _ []))
  refine own_aloadN X3 hx hby d4_16 (pc' := 17) rfl rfl rfl ?_
  refine own_areturn X3 hx hlk hby hret rfl rfl d4_17 (own_lv ?_ (by decide) (by decide))
  show QP3b Z q w kk x dx sx y dy sy z dz sz  h0 n0 (some (.ref x)) T3.heap _
  exact ⟨rfl, N3, Kp, Oq3, V3, Ox3, Oy3, Oz3⟩
theorem own_ef_rmA0 (m : MethodId) (q : Addr) (t : Addr)  : entryFrame m #[(.ref q), (.ref t)] 2 = mkF m 0 #[.val (.ref q), .val (.ref t)] [] := by first | (simp [entryFrame, mkF, argsToLocals, Value.category]; done) | rfl
def QA0 (Z : State) (q : Addr) (w : Addr) (kk : ClassId) (t : Addr) (dt : Int64) (st : Int64) (h0 : Heap) (n0 : Nat) (v : Option Value) (h : Heap) (L : List Loc) : Prop := v = none ∧ Fr n0 L ∧ Keep h0 h [q, w, t] ∧ own_TQ Z h q (.ref w) (1 : Int32) ∧ Arv Z h w kk (.object "com/example/earnest_reactor/earnestreactor/core/ScheduledTask") (16 : Int32) [(.ref t), .null, .null] .null ∧ own_TK Z h t .null dt st .null (0 : Int32)
set_option maxRecDepth 65536 in
set_option maxHeartbeats 40000000 in
theorem rmA0 (l : Launch) (Z : State) (a0 : Array Value) (hw : ∀ d ∈ tables_1, d.before a0 Z = true) (ws : List Jvm.Cond) (q : Addr) (w : Addr) (kk : ClassId) (t : Addr) (dt : Int64) (st : Int64) (h0 : Heap) (n0 : Nat) (Z0 : n0 ≤ h0.size) (f_O_q : own_TQ Z h0 q (.ref w) (0 : Int32)) (f_V_w : Arv Z h0 w kk (.object "com/example/earnest_reactor/earnestreactor/core/ScheduledTask") (16 : Int32) [.null, .null, .null] .null) (ho : Ovr Z kk "com/example/earnest_reactor/earnestreactor/core/ScheduledTask") (f_O_t : own_TK Z h0 t .null dt st .null (-1 : Int32)) (ge_q : n0 ≤ q) (ge_w : n0 ≤ w) (ge_t : n0 ≤ t) :
    MetFree l (⟨"com/example/earnest_reactor/earnestreactor/core/TimerQueue", "add", "(Lcom/example/earnest_reactor/earnestreactor/core/ScheduledTask;)V"⟩ : MethodName) (head1 (Jvm.Cond.code (⟨"com/example/earnest_reactor/earnestreactor/core/TimerQueue", "add", "(Lcom/example/earnest_reactor/earnestreactor/core/ScheduledTask;)V"⟩ : MethodName) prog_35_method_4_code 2 none :: ws) ({ frames := 3, cells := 0, slots := 0, locals := 43 } : Room)) (fun aa U => aa = #[(.ref q), (.ref t)] ∧ Z.Warmed39 U.vm ∧ U.heap = h0) (fun _ _ _ _ _ => True) (fun _ U oc U' => ∃ v L, oc = .returned v ∧ QA0 Z q w kk t dt st h0 n0 v U'.heap L ∧ FrameEnd U oc U' L ({ frames := 3, cells := 0, slots := 0, locals := 43 } : Room).cells ({ frames := 3, cells := 0, slots := 0, locals := 43 } : Room).slots) := by
  refine MetFree.of_bodySF (plainFor_of_name own_pn1) hisR ?_
  intro p e s m args below meth c s₁ Bd hml0 hP hK
  obtain ⟨rfl, hZ, hh⟩ := hP
  have hx := Bd.exec
  have hby := Bd.bytes
  have hlk := Bd.notSynchronized
  have hret := Bd.returns
  have hml : c.maxLocals = 2 := hml0
  have hown : s.vm.findClass "com/example/earnest_reactor/earnestreactor/core/TimerQueue" = some m.cls := findClass_of_methodNamed Bd.named
  have hnm := (name_of_methodNamed Bd.named Bd.method).1
  have X0 : Stand p l e ({ frames := 3, cells := 0, slots := 0, locals := 43 } : Room) s m #[(.ref q), (.ref t)] below meth c s₁ [] 0 0 := Stand.of_body Bd
  have e0 : s₁.heap = h0 := by rw [← hh, Bd.state]; rfl
  have N0 := Fr.nil n0
  refine own_body (Q := QA0 Z q w kk t dt st h0 n0) (KC := ({ frames := 3, cells := 0, slots := 0, locals := 43 } : Room).cells) (KS := ({ frames := 3, cells := 0, slots := 0, locals := 43 } : Room).slots) ?_
  rw [own_ef_rmA0 m q t]
  have Kp : Keep h0 h0 [q, w, t] := Keep.refl h0 _
  refine own_aloadN X0 hx hby d6_0 (pc' := 1) rfl rfl rfl ?_
  obtain ⟨f_E_q, f_F_q_heap, f_F_q_size⟩ := f_O_q
  refine own_getF X0 hx hZ hby hown (host := "") (Or.inl (wd_49 hw)) Via.refl e0 f_F_q_size d6_1 (pc' := 4) rfl (fun T1 X1 e1 => ?_)
  refine own_aloadN X1 hx hby d6_4 (pc' := 5) rfl rfl rfl ?_
  refine own_getF X1 hx hZ hby hown (host := "") (Or.inl (wd_33 hw)) Via.refl e1 f_F_q_heap d6_5 (pc' := 8) rfl (fun T2 X2 e2 => ?_)
  obtain ⟨cl3, Ar3, q3, S3, M3, H3, G3⟩ := id f_V_w
  refine own_alen X2 hx hZ hby e2 Ar3 S3 M3 d6_8 (pc' := 9) rfl ?_
  refine own_icY X2 hx hby d6_9 (pc' := 32) (by decide) (by decide) (show ¬ (0 : Int32) = (16 : Int32) by decide) ?_
  refine own_aloadN X2 hx hby d6_32 (pc' := 33) rfl rfl rfl ?_
  refine own_dup X2 hx hby d6_33 (pc' := 34) rfl rfl ?_
  refine own_getF X2 hx hZ hby hown (host := "") (Or.inl (wd_49 hw)) Via.refl e2 f_F_q_size d6_34 (pc' := 37) rfl (fun T4 X4 e4 => ?_)
  refine own_iconst X4 hx hby d6_37 (pc' := 38) rfl (n := (1 : Int32)) (by decide) ?_
  refine own_iadd X4 hx hby d6_38 (pc' := 39) rfl ?_
  show own_End p e below _ (T4.setTop (mkF m 39 #[.val (.ref q), .val (.ref t)] [(.int (1 : Int32)), (.ref q)]))
  have ne_w_q : w ≠ q := Ne.symm (Exa.neArv f_E_q f_V_w (wd_26 hw))
  have ne_t_q : t ≠ q := Exa.ne f_O_t.1 f_E_q (by decide)
  refine own_putF X4 hx hZ hby hown (host := "") (Or.inl (wd_49 hw)) Via.refl e4 f_F_q_size f_E_q (Or.inl (wd_50 hw)) (wd_26 hw) (ty := .int) (by decide) rfl rfl d6_39 (pc' := 42) rfl (fun T5 h5 X5 e5 W5 => ?_)
  have f_F_q_size := f_F_q_size.same W5
  have f_V_w := f_V_w.other W5 ne_w_q
  have f_O_t := f_O_t.other W5 ne_t_q
  have f_E_q := f_E_q.wr W5
  have f_F_q_heap := f_F_q_heap.other W5 (Or.inr (slot_ne (Or.inl (wd_34 hw)) (Or.inl (wd_50 hw)) (by decide) (t := (.array (.object "com/example/earnest_reactor/earnestreactor/core/ScheduledTask"))) (t' := .int) (by decide) (by decide)))
  have Zn := Nat.le_trans Z0 (Keep.of_wr W5).1
  have Kp := Kp.wr W5 (Or.inl (List.mem_of_getElem? (i := 0) rfl))
  have N5 := Fr.snoc X5 N0 ge_q
  refine own_aloadN X5 hx hby d6_42 (pc' := 43) rfl rfl rfl ?_
  refine own_aloadN X5 hx hby d6_43 (pc' := 44) rfl rfl rfl ?_
  refine own_getF X5 hx hZ hby hown (host := "") (Or.inl (wd_49 hw)) Via.refl e5 f_F_q_size d6_44 (pc' := 47) rfl (fun T6 X6 e6 => ?_)
  refine own_iconst X6 hx hby d6_47 (pc' := 48) rfl (n := (1 : Int32)) (by decide) ?_
  refine own_isub X6 hx hby d6_48 (pc' := 49) rfl ?_
  show own_End p e below _ (T6.setTop (mkF m 49 #[.val (.ref q), .val (.ref t)] [(.int (0 : Int32)), (.ref q)]))
  refine own_aloadN X6 hx hby d6_49 (pc' := 50) rfl rfl rfl ?_
  have f_O_q : own_TQ Z h5 q (.ref w) (1 : Int32) := ⟨f_E_q, f_F_q_heap, f_F_q_size⟩
  have ne_w_t : w ≠ t := Ne.symm (Exa.neArv f_O_t.1 f_V_w (wd_6 hw))
  refine own_lk4 hw X6 hx hZ hby (by rw [hml]; rfl) hown d6_50 (pc' := 53) rfl e6 f_O_q.1 (W := 0) (Nat.le_of_eq rfl) (rmU0 l Z a0 hw [] q w kk t dt st h5 n0 Zn f_O_q f_V_w ho f_O_t ge_w ge_t) (by decide) (by decide) (by decide) (by decide) (fun v7 T7 L7 X7 hQ7 => ?_)
  obtain ⟨rfl, Nq7, K7, V7, Ot7⟩ := hQ7
  have N7 := Fr.app N5 Nq7
  have f_O_q := f_O_q.keep K7 (ninS (Ne.symm ne_w_q) (ninS (Ne.symm ne_t_q) nin0))
  have Zn := Nat.le_trans Zn K7.1
  have Kp := Kp.trans K7 (allS (Or.inl (List.mem_of_getElem? (i := 1) rfl)) (allS (Or.inl (List.mem_of_getElem? (i := 2) rfl)) all0))
  show own_End p e below _ (T7.setTop (mkF m 53 _ []))
  refine own_return X7 hx hlk hby hret d6_53 (own_lv ?_ (by decide) (by decide))
  show QA0 Z q w kk t dt st  h0 n0 none T7.heap _
  exact ⟨rfl, N7, Kp, f_O_q, V7, Ot7⟩
theorem own_ef_rmA1a (m : MethodId) (q : Addr) (t : Addr)  : entryFrame m #[(.ref q), (.ref t)] 2 = mkF m 0 #[.val (.ref q), .val (.ref t)] [] := by first | (simp [entryFrame, mkF, argsToLocals, Value.category]; done) | rfl
def QA1a (Z : State) (q : Addr) (w : Addr) (kk : ClassId) (x : Addr) (dx : Int64) (sx : Int64) (t : Addr) (dt : Int64) (st : Int64) (h0 : Heap) (n0 : Nat) (v : Option Value) (h : Heap) (L : List Loc) : Prop := v = none ∧ Fr n0 L ∧ Keep h0 h [q, w, t] ∧ own_TQ Z h q (.ref w) (2 : Int32) ∧ Arv Z h w kk (.object "com/example/earnest_reactor/earnestreactor/core/ScheduledTask") (16 : Int32) [(.ref x), (.ref t), .null] .null ∧ own_TK Z h t .null dt st .null (1 : Int32)
set_option maxRecDepth 65536 in
set_option maxHeartbeats 40000000 in
theorem rmA1a (l : Launch) (Z : State) (a0 : Array Value) (hw : ∀ d ∈ tables_1, d.before a0 Z = true) (ws : List Jvm.Cond) (q : Addr) (w : Addr) (kk : ClassId) (x : Addr) (dx : Int64) (sx : Int64) (t : Addr) (dt : Int64) (st : Int64) (h0 : Heap) (n0 : Nat) (Z0 : n0 ≤ h0.size) (f_O_q : own_TQ Z h0 q (.ref w) (1 : Int32)) (f_V_w : Arv Z h0 w kk (.object "com/example/earnest_reactor/earnestreactor/core/ScheduledTask") (16 : Int32) [(.ref x), .null, .null] .null) (ho : Ovr Z kk "com/example/earnest_reactor/earnestreactor/core/ScheduledTask") (f_O_x : own_TK Z h0 x .null dx sx .null (0 : Int32)) (f_O_t : own_TK Z h0 t .null dt st .null (-1 : Int32)) (ge_q : n0 ≤ q) (ge_w : n0 ≤ w) (ge_t : n0 ≤ t) (ne_x_t : x ≠ t) (hz : own_rb dt st dx sx = (0 : Int32)) :
    MetFree l (⟨"com/example/earnest_reactor/earnestreactor/core/TimerQueue", "add", "(Lcom/example/earnest_reactor/earnestreactor/core/ScheduledTask;)V"⟩ : MethodName) (head1 (Jvm.Cond.code (⟨"com/example/earnest_reactor/earnestreactor/core/TimerQueue", "add", "(Lcom/example/earnest_reactor/earnestreactor/core/ScheduledTask;)V"⟩ : MethodName) prog_35_method_4_code 2 none :: ws) ({ frames := 3, cells := 0, slots := 0, locals := 43 } : Room)) (fun aa U => aa = #[(.ref q), (.ref t)] ∧ Z.Warmed39 U.vm ∧ U.heap = h0) (fun _ _ _ _ _ => True) (fun _ U oc U' => ∃ v L, oc = .returned v ∧ QA1a Z q w kk x dx sx t dt st h0 n0 v U'.heap L ∧ FrameEnd U oc U' L ({ frames := 3, cells := 0, slots := 0, locals := 43 } : Room).cells ({ frames := 3, cells := 0, slots := 0, locals := 43 } : Room).slots) := by
  refine MetFree.of_bodySF (plainFor_of_name own_pn1) hisR ?_
  intro p e s m args below meth c s₁ Bd hml0 hP hK
  obtain ⟨rfl, hZ, hh⟩ := hP
  have hx := Bd.exec
  have hby := Bd.bytes
  have hlk := Bd.notSynchronized
  have hret := Bd.returns
  have hml : c.maxLocals = 2 := hml0
  have hown : s.vm.findClass "com/example/earnest_reactor/earnestreactor/core/TimerQueue" = some m.cls := findClass_of_methodNamed Bd.named
  have hnm := (name_of_methodNamed Bd.named Bd.method).1
  have X0 : Stand p l e ({ frames := 3, cells := 0, slots := 0, locals := 43 } : Room) s m #[(.ref q), (.ref t)] below meth c s₁ [] 0 0 := Stand.of_body Bd
  have e0 : s₁.heap = h0 := by rw [← hh, Bd.state]; rfl
  have N0 := Fr.nil n0
  refine own_body (Q := QA1a Z q w kk x dx sx t dt st h0 n0) (KC := ({ frames := 3, cells := 0, slots := 0, locals := 43 } : Room).cells) (KS := ({ frames := 3, cells := 0, slots := 0, locals := 43 } : Room).slots) ?_
  rw [own_ef_rmA1a m q t]
  have Kp : Keep h0 h0 [q, w, t] := Keep.refl h0 _
  refine own_aloadN X0 hx hby d6_0 (pc' := 1) rfl rfl rfl ?_
  obtain ⟨f_E_q, f_F_q_heap, f_F_q_size⟩ := f_O_q
  refine own_getF X0 hx hZ hby hown (host := "") (Or.inl (wd_49 hw)) Via.refl e0 f_F_q_size d6_1 (pc' := 4) rfl (fun T1 X1 e1 => ?_)
  refine own_aloadN X1 hx hby d6_4 (pc' := 5) rfl rfl rfl ?_
  refine own_getF X1 hx hZ hby hown (host := "") (Or.inl (wd_33 hw)) Via.refl e1 f_F_q_heap d6_5 (pc' := 8) rfl (fun T2 X2 e2 => ?_)
  obtain ⟨cl3, Ar3, q3, S3, M3, H3, G3⟩ := id f_V_w
  refine own_alen X2 hx hZ hby e2 Ar3 S3 M3 d6_8 (pc' := 9) rfl ?_
  refine own_icY X2 hx hby d6_9 (pc' := 32) (by decide) (by decide) (show ¬ (1 : Int32) = (16 : Int32) by decide) ?_
  refine own_aloadN X2 hx hby d6_32 (pc' := 33) rfl rfl rfl ?_
  refine own_dup X2 hx hby d6_33 (pc' := 34) rfl rfl ?_
  refine own_getF X2 hx hZ hby hown (host := "") (Or.inl (wd_49 hw)) Via.refl e2 f_F_q_size d6_34 (pc' := 37) rfl (fun T4 X4 e4 => ?_)
  refine own_iconst X4 hx hby d6_37 (pc' := 38) rfl (n := (1 : Int32)) (by decide) ?_
  refine own_iadd X4 hx hby d6_38 (pc' := 39) rfl ?_
  show own_End p e below _ (T4.setTop (mkF m 39 #[.val (.ref q), .val (.ref t)] [(.int (2 : Int32)), (.ref q)]))
  have ne_w_q : w ≠ q := Ne.symm (Exa.neArv f_E_q f_V_w (wd_26 hw))
  have ne_x_q : x ≠ q := Exa.ne f_O_x.1 f_E_q (by decide)
  have ne_t_q : t ≠ q := Exa.ne f_O_t.1 f_E_q (by decide)
  refine own_putF X4 hx hZ hby hown (host := "") (Or.inl (wd_49 hw)) Via.refl e4 f_F_q_size f_E_q (Or.inl (wd_50 hw)) (wd_26 hw) (ty := .int) (by decide) rfl rfl d6_39 (pc' := 42) rfl (fun T5 h5 X5 e5 W5 => ?_)
  have f_F_q_size := f_F_q_size.same W5
  have f_V_w := f_V_w.other W5 ne_w_q
  have f_O_x := f_O_x.other W5 ne_x_q
  have f_O_t := f_O_t.other W5 ne_t_q
  have f_E_q := f_E_q.wr W5
  have f_F_q_heap := f_F_q_heap.other W5 (Or.inr (slot_ne (Or.inl (wd_34 hw)) (Or.inl (wd_50 hw)) (by decide) (t := (.array (.object "com/example/earnest_reactor/earnestreactor/core/ScheduledTask"))) (t' := .int) (by decide) (by decide)))
  have Zn := Nat.le_trans Z0 (Keep.of_wr W5).1
  have Kp := Kp.wr W5 (Or.inl (List.mem_of_getElem? (i := 0) rfl))
  have N5 := Fr.snoc X5 N0 ge_q
  refine own_aloadN X5 hx hby d6_42 (pc' := 43) rfl rfl rfl ?_
  refine own_aloadN X5 hx hby d6_43 (pc' := 44) rfl rfl rfl ?_
  refine own_getF X5 hx hZ hby hown (host := "") (Or.inl (wd_49 hw)) Via.refl e5 f_F_q_size d6_44 (pc' := 47) rfl (fun T6 X6 e6 => ?_)
  refine own_iconst X6 hx hby d6_47 (pc' := 48) rfl (n := (1 : Int32)) (by decide) ?_
  refine own_isub X6 hx hby d6_48 (pc' := 49) rfl ?_
  show own_End p e below _ (T6.setTop (mkF m 49 #[.val (.ref q), .val (.ref t)] [(.int (1 : Int32)), (.ref q)]))
  refine own_aloadN X6 hx hby d6_49 (pc' := 50) rfl rfl rfl ?_
  have f_O_q : own_TQ Z h5 q (.ref w) (2 : Int32) := ⟨f_E_q, f_F_q_heap, f_F_q_size⟩
  have ne_w_t : w ≠ t := Ne.symm (Exa.neArv f_O_t.1 f_V_w (wd_6 hw))
  have ne_x_w : x ≠ w := Exa.neArv f_O_x.1 f_V_w (wd_6 hw)
  refine own_lk4 hw X6 hx hZ hby (by rw [hml]; rfl) hown d6_50 (pc' := 53) rfl e6 f_O_q.1 (W := 0) (Nat.le_of_eq rfl) (rmU1a l Z a0 hw [] q w kk x dx sx t dt st h5 n0 Zn f_O_q f_V_w ho f_O_x f_O_t ge_w ge_t ne_x_t hz) (by decide) (by decide) (by decide) (by decide) (fun v7 T7 L7 X7 hQ7 => ?_)
  obtain ⟨rfl, Nq7, K7, V7, Ot7⟩ := hQ7
  have N7 := Fr.app N5 Nq7
  have f_O_x := f_O_x.keep K7 (ninS ne_x_w (ninS ne_x_t nin0))
  have f_O_q := f_O_q.keep K7 (ninS (Ne.symm ne_w_q) (ninS (Ne.symm ne_t_q) nin0))
  have Zn := Nat.le_trans Zn K7.1
  have Kp := Kp.trans K7 (allS (Or.inl (List.mem_of_getElem? (i := 1) rfl)) (allS (Or.inl (List.mem_of_getElem? (i := 2) rfl)) all0))
  show own_End p e below _ (T7.setTop (mkF m 53 _ []))
  refine own_return X7 hx hlk hby hret d6_53 (own_lv ?_ (by decide) (by decide))
  show QA1a Z q w kk x dx sx t dt st  h0 n0 none T7.heap _
  exact ⟨rfl, N7, Kp, f_O_q, V7, Ot7⟩
theorem own_ef_rmA1b (m : MethodId) (q : Addr) (t : Addr)  : entryFrame m #[(.ref q), (.ref t)] 2 = mkF m 0 #[.val (.ref q), .val (.ref t)] [] := by first | (simp [entryFrame, mkF, argsToLocals, Value.category]; done) | rfl
def QA1b (Z : State) (q : Addr) (w : Addr) (kk : ClassId) (x : Addr) (dx : Int64) (sx : Int64) (t : Addr) (dt : Int64) (st : Int64) (h0 : Heap) (n0 : Nat) (v : Option Value) (h : Heap) (L : List Loc) : Prop := v = none ∧ Fr n0 L ∧ Keep h0 h [q, w, x, t] ∧ own_TQ Z h q (.ref w) (2 : Int32) ∧ Arv Z h w kk (.object "com/example/earnest_reactor/earnestreactor/core/ScheduledTask") (16 : Int32) [(.ref t), (.ref x), .null] .null ∧ own_TK Z h x .null dx sx .null (1 : Int32) ∧ own_TK Z h t .null dt st .null (0 : Int32)
set_option maxRecDepth 65536 in
set_option maxHeartbeats 40000000 in
theorem rmA1b (l : Launch) (Z : State) (a0 : Array Value) (hw : ∀ d ∈ tables_1, d.before a0 Z = true) (ws : List Jvm.Cond) (q : Addr) (w : Addr) (kk : ClassId) (x : Addr) (dx : Int64) (sx : Int64) (t : Addr) (dt : Int64) (st : Int64) (h0 : Heap) (n0 : Nat) (Z0 : n0 ≤ h0.size) (f_O_q : own_TQ Z h0 q (.ref w) (1 : Int32)) (f_V_w : Arv Z h0 w kk (.object "com/example/earnest_reactor/earnestreactor/core/ScheduledTask") (16 : Int32) [(.ref x), .null, .null] .null) (ho : Ovr Z kk "com/example/earnest_reactor/earnestreactor/core/ScheduledTask") (f_O_x : own_TK Z h0 x .null dx sx .null (0 : Int32)) (f_O_t : own_TK Z h0 t .null dt st .null (-1 : Int32)) (ge_q : n0 ≤ q) (ge_w : n0 ≤ w) (ge_x : n0 ≤ x) (ge_t : n0 ≤ t) (ne_x_t : x ≠ t) (hz : own_rb dt st dx sx = (1 : Int32)) :
    MetFree l (⟨"com/example/earnest_reactor/earnestreactor/core/TimerQueue", "add", "(Lcom/example/earnest_reactor/earnestreactor/core/ScheduledTask;)V"⟩ : MethodName) (head1 (Jvm.Cond.code (⟨"com/example/earnest_reactor/earnestreactor/core/TimerQueue", "add", "(Lcom/example/earnest_reactor/earnestreactor/core/ScheduledTask;)V"⟩ : MethodName) prog_35_method_4_code 2 none :: ws) ({ frames := 3, cells := 0, slots := 0, locals := 43 } : Room)) (fun aa U => aa = #[(.ref q), (.ref t)] ∧ Z.Warmed39 U.vm ∧ U.heap = h0) (fun _ _ _ _ _ => True) (fun _ U oc U' => ∃ v L, oc = .returned v ∧ QA1b Z q w kk x dx sx t dt st h0 n0 v U'.heap L ∧ FrameEnd U oc U' L ({ frames := 3, cells := 0, slots := 0, locals := 43 } : Room).cells ({ frames := 3, cells := 0, slots := 0, locals := 43 } : Room).slots) := by
  refine MetFree.of_bodySF (plainFor_of_name own_pn1) hisR ?_
  intro p e s m args below meth c s₁ Bd hml0 hP hK
  obtain ⟨rfl, hZ, hh⟩ := hP
  have hx := Bd.exec
  have hby := Bd.bytes
  have hlk := Bd.notSynchronized
  have hret := Bd.returns
  have hml : c.maxLocals = 2 := hml0
  have hown : s.vm.findClass "com/example/earnest_reactor/earnestreactor/core/TimerQueue" = some m.cls := findClass_of_methodNamed Bd.named
  have hnm := (name_of_methodNamed Bd.named Bd.method).1
  have X0 : Stand p l e ({ frames := 3, cells := 0, slots := 0, locals := 43 } : Room) s m #[(.ref q), (.ref t)] below meth c s₁ [] 0 0 := Stand.of_body Bd
  have e0 : s₁.heap = h0 := by rw [← hh, Bd.state]; rfl
  have N0 := Fr.nil n0
  refine own_body (Q := QA1b Z q w kk x dx sx t dt st h0 n0) (KC := ({ frames := 3, cells := 0, slots := 0, locals := 43 } : Room).cells) (KS := ({ frames := 3, cells := 0, slots := 0, locals := 43 } : Room).slots) ?_
  rw [own_ef_rmA1b m q t]
  have Kp : Keep h0 h0 [q, w, x, t] := Keep.refl h0 _
  refine own_aloadN X0 hx hby d6_0 (pc' := 1) rfl rfl rfl ?_
  obtain ⟨f_E_q, f_F_q_heap, f_F_q_size⟩ := f_O_q
  refine own_getF X0 hx hZ hby hown (host := "") (Or.inl (wd_49 hw)) Via.refl e0 f_F_q_size d6_1 (pc' := 4) rfl (fun T1 X1 e1 => ?_)
  refine own_aloadN X1 hx hby d6_4 (pc' := 5) rfl rfl rfl ?_
  refine own_getF X1 hx hZ hby hown (host := "") (Or.inl (wd_33 hw)) Via.refl e1 f_F_q_heap d6_5 (pc' := 8) rfl (fun T2 X2 e2 => ?_)
  obtain ⟨cl3, Ar3, q3, S3, M3, H3, G3⟩ := id f_V_w
  refine own_alen X2 hx hZ hby e2 Ar3 S3 M3 d6_8 (pc' := 9) rfl ?_
  refine own_icY X2 hx hby d6_9 (pc' := 32) (by decide) (by decide) (show ¬ (1 : Int32) = (16 : Int32) by decide) ?_
  refine own_aloadN X2 hx hby d6_32 (pc' := 33) rfl rfl rfl ?_
  refine own_dup X2 hx hby d6_33 (pc' := 34) rfl rfl ?_
  refine own_getF X2 hx hZ hby hown (host := "") (Or.inl (wd_49 hw)) Via.refl e2 f_F_q_size d6_34 (pc' := 37) rfl (fun T4 X4 e4 => ?_)
  refine own_iconst X4 hx hby d6_37 (pc' := 38) rfl (n := (1 : Int32)) (by decide) ?_
  refine own_iadd X4 hx hby d6_38 (pc' := 39) rfl ?_
  show own_End p e below _ (T4.setTop (mkF m 39 #[.val (.ref q), .val (.ref t)] [(.int (2 : Int32)), (.ref q)]))
  have ne_w_q : w ≠ q := Ne.symm (Exa.neArv f_E_q f_V_w (wd_26 hw))
  have ne_x_q : x ≠ q := Exa.ne f_O_x.1 f_E_q (by decide)
  have ne_t_q : t ≠ q := Exa.ne f_O_t.1 f_E_q (by decide)
  refine own_putF X4 hx hZ hby hown (host := "") (Or.inl (wd_49 hw)) Via.refl e4 f_F_q_size f_E_q (Or.inl (wd_50 hw)) (wd_26 hw) (ty := .int) (by decide) rfl rfl d6_39 (pc' := 42) rfl (fun T5 h5 X5 e5 W5 => ?_)
  have f_F_q_size := f_F_q_size.same W5
  have f_V_w := f_V_w.other W5 ne_w_q
  have f_O_x := f_O_x.other W5 ne_x_q
  have f_O_t := f_O_t.other W5 ne_t_q
  have f_E_q := f_E_q.wr W5
  have f_F_q_heap := f_F_q_heap.other W5 (Or.inr (slot_ne (Or.inl (wd_34 hw)) (Or.inl (wd_50 hw)) (by decide) (t := (.array (.object "com/example/earnest_reactor/earnestreactor/core/ScheduledTask"))) (t' := .int) (by decide) (by decide)))
  have Zn := Nat.le_trans Z0 (Keep.of_wr W5).1
  have Kp := Kp.wr W5 (Or.inl (List.mem_of_getElem? (i := 0) rfl))
  have N5 := Fr.snoc X5 N0 ge_q
  refine own_aloadN X5 hx hby d6_42 (pc' := 43) rfl rfl rfl ?_
  refine own_aloadN X5 hx hby d6_43 (pc' := 44) rfl rfl rfl ?_
  refine own_getF X5 hx hZ hby hown (host := "") (Or.inl (wd_49 hw)) Via.refl e5 f_F_q_size d6_44 (pc' := 47) rfl (fun T6 X6 e6 => ?_)
  refine own_iconst X6 hx hby d6_47 (pc' := 48) rfl (n := (1 : Int32)) (by decide) ?_
  refine own_isub X6 hx hby d6_48 (pc' := 49) rfl ?_
  show own_End p e below _ (T6.setTop (mkF m 49 #[.val (.ref q), .val (.ref t)] [(.int (1 : Int32)), (.ref q)]))
  refine own_aloadN X6 hx hby d6_49 (pc' := 50) rfl rfl rfl ?_
  have f_O_q : own_TQ Z h5 q (.ref w) (2 : Int32) := ⟨f_E_q, f_F_q_heap, f_F_q_size⟩
  have ne_w_x : w ≠ x := Ne.symm (Exa.neArv f_O_x.1 f_V_w (wd_6 hw))
  have ne_w_t : w ≠ t := Ne.symm (Exa.neArv f_O_t.1 f_V_w (wd_6 hw))
  refine own_lk4 hw X6 hx hZ hby (by rw [hml]; rfl) hown d6_50 (pc' := 53) rfl e6 f_O_q.1 (W := 0) (Nat.le_of_eq rfl) (rmU1b l Z a0 hw [] q w kk x dx sx t dt st h5 n0 Zn f_O_q f_V_w ho f_O_x f_O_t ge_w ge_x ge_t ne_x_t hz) (by decide) (by decide) (by decide) (by decide) (fun v7 T7 L7 X7 hQ7 => ?_)
  obtain ⟨rfl, Nq7, K7, V7, Ox7, Ot7⟩ := hQ7
  have N7 := Fr.app N5 Nq7
  have f_O_q := f_O_q.keep K7 (ninS (Ne.symm ne_w_q) (ninS (Ne.symm ne_x_q) (ninS (Ne.symm ne_t_q) nin0)))
  have Zn := Nat.le_trans Zn K7.1
  have Kp := Kp.trans K7 (allS (Or.inl (List.mem_of_getElem? (i := 1) rfl)) (allS (Or.inl (List.mem_of_getElem? (i := 2) rfl)) (allS (Or.inl (List.mem_of_getElem? (i := 3) rfl)) all0)))
  show own_End p e below _ (T7.setTop (mkF m 53 _ []))
  refine own_return X7 hx hlk hby hret d6_53 (own_lv ?_ (by decide) (by decide))
  show QA1b Z q w kk x dx sx t dt st  h0 n0 none T7.heap _
  exact ⟨rfl, N7, Kp, f_O_q, V7, Ox7, Ot7⟩
theorem own_ef_rmA2a (m : MethodId) (q : Addr) (t : Addr)  : entryFrame m #[(.ref q), (.ref t)] 2 = mkF m 0 #[.val (.ref q), .val (.ref t)] [] := by first | (simp [entryFrame, mkF, argsToLocals, Value.category]; done) | rfl
def QA2a (Z : State) (q : Addr) (w : Addr) (kk : ClassId) (x : Addr) (dx : Int64) (sx : Int64) (y : Addr) (dy : Int64) (sy : Int64) (t : Addr) (dt : Int64) (st : Int64) (h0 : Heap) (n0 : Nat) (v : Option Value) (h : Heap) (L : List Loc) : Prop := v = none ∧ Fr n0 L ∧ Keep h0 h [q, w, t] ∧ own_TQ Z h q (.ref w) (3 : Int32) ∧ Arv Z h w kk (.object "com/example/earnest_reactor/earnestreactor/core/ScheduledTask") (16 : Int32) [(.ref x), (.ref y), (.ref t)] .null ∧ own_TK Z h t .null dt st .null (2 : Int32)
set_option maxRecDepth 65536 in
set_option maxHeartbeats 40000000 in
theorem rmA2a (l : Launch) (Z : State) (a0 : Array Value) (hw : ∀ d ∈ tables_1, d.before a0 Z = true) (ws : List Jvm.Cond) (q : Addr) (w : Addr) (kk : ClassId) (x : Addr) (dx : Int64) (sx : Int64) (y : Addr) (dy : Int64) (sy : Int64) (t : Addr) (dt : Int64) (st : Int64) (h0 : Heap) (n0 : Nat) (Z0 : n0 ≤ h0.size) (f_O_q : own_TQ Z h0 q (.ref w) (2 : Int32)) (f_V_w : Arv Z h0 w kk (.object "com/example/earnest_reactor/earnestreactor/core/ScheduledTask") (16 : Int32) [(.ref x), (.ref y), .null] .null) (ho : Ovr Z kk "com/example/earnest_reactor/earnestreactor/core/ScheduledTask") (f_O_x : own_TK Z h0 x .null dx sx .null (0 : Int32)) (f_O_y : own_TK Z h0 y .null dy sy .null (1 : Int32)) (f_O_t : own_TK Z h0 t .null dt st .null (-1 : Int32)) (ge_q : n0 ≤ q) (ge_w : n0 ≤ w) (ge_t : n0 ≤ t) (ne_x_y : x ≠ y) (ne_x_t : x ≠ t) (ne_y_t : y ≠ t) (hz : own_rb dt st dx sx = (0 : Int32)) :
    MetFree l (⟨"com/example/earnest_reactor/earnestreactor/core/TimerQueue", "add", "(Lcom/example/earnest_reactor/earnestreactor/core/ScheduledTask;)V"⟩ : MethodName) (head1 (Jvm.Cond.code (⟨"com/example/earnest_reactor/earnestreactor/core/TimerQueue", "add", "(Lcom/example/earnest_reactor/earnestreactor/core/ScheduledTask;)V"⟩ : MethodName) prog_35_method_4_code 2 none :: ws) ({ frames := 3, cells := 0, slots := 0, locals := 43 } : Room)) (fun aa U => aa = #[(.ref q), (.ref t)] ∧ Z.Warmed39 U.vm ∧ U.heap = h0) (fun _ _ _ _ _ => True) (fun _ U oc U' => ∃ v L, oc = .returned v ∧ QA2a Z q w kk x dx sx y dy sy t dt st h0 n0 v U'.heap L ∧ FrameEnd U oc U' L ({ frames := 3, cells := 0, slots := 0, locals := 43 } : Room).cells ({ frames := 3, cells := 0, slots := 0, locals := 43 } : Room).slots) := by
  refine MetFree.of_bodySF (plainFor_of_name own_pn1) hisR ?_
  intro p e s m args below meth c s₁ Bd hml0 hP hK
  obtain ⟨rfl, hZ, hh⟩ := hP
  have hx := Bd.exec
  have hby := Bd.bytes
  have hlk := Bd.notSynchronized
  have hret := Bd.returns
  have hml : c.maxLocals = 2 := hml0
  have hown : s.vm.findClass "com/example/earnest_reactor/earnestreactor/core/TimerQueue" = some m.cls := findClass_of_methodNamed Bd.named
  have hnm := (name_of_methodNamed Bd.named Bd.method).1
  have X0 : Stand p l e ({ frames := 3, cells := 0, slots := 0, locals := 43 } : Room) s m #[(.ref q), (.ref t)] below meth c s₁ [] 0 0 := Stand.of_body Bd
  have e0 : s₁.heap = h0 := by rw [← hh, Bd.state]; rfl
  have N0 := Fr.nil n0
  refine own_body (Q := QA2a Z q w kk x dx sx y dy sy t dt st h0 n0) (KC := ({ frames := 3, cells := 0, slots := 0, locals := 43 } : Room).cells) (KS := ({ frames := 3, cells := 0, slots := 0, locals := 43 } : Room).slots) ?_
  rw [own_ef_rmA2a m q t]
  have Kp : Keep h0 h0 [q, w, t] := Keep.refl h0 _
  refine own_aloadN X0 hx hby d6_0 (pc' := 1) rfl rfl rfl ?_
  obtain ⟨f_E_q, f_F_q_heap, f_F_q_size⟩ := f_O_q
  refine own_getF X0 hx hZ hby hown (host := "") (Or.inl (wd_49 hw)) Via.refl e0 f_F_q_size d6_1 (pc' := 4) rfl (fun T1 X1 e1 => ?_)
  refine own_aloadN X1 hx hby d6_4 (pc' := 5) rfl rfl rfl ?_
  refine own_getF X1 hx hZ hby hown (host := "") (Or.inl (wd_33 hw)) Via.refl e1 f_F_q_heap d6_5 (pc' := 8) rfl (fun T2 X2 e2 => ?_)
  obtain ⟨cl3, Ar3, q3, S3, M3, H3, G3⟩ := id f_V_w
  refine own_alen X2 hx hZ hby e2 Ar3 S3 M3 d6_8 (pc' := 9) rfl ?_
  refine own_icY X2 hx hby d6_9 (pc' := 32) (by decide) (by decide) (show ¬ (2 : Int32) = (16 : Int32) by decide) ?_
  refine own_aloadN X2 hx hby d6_32 (pc' := 33) rfl rfl rfl ?_
  refine own_dup X2 hx hby d6_33 (pc' := 34) rfl rfl ?_
  refine own_getF X2 hx hZ hby hown (host := "") (Or.inl (wd_49 hw)) Via.refl e2 f_F_q_size d6_34 (pc' := 37) rfl (fun T4 X4 e4 => ?_)
  refine own_iconst X4 hx hby d6_37 (pc' := 38) rfl (n := (1 : Int32)) (by decide) ?_
  refine own_iadd X4 hx hby d6_38 (pc' := 39) rfl ?_
  show own_End p e below _ (T4.setTop (mkF m 39 #[.val (.ref q), .val (.ref t)] [(.int (3 : Int32)), (.ref q)]))
  have ne_w_q : w ≠ q := Ne.symm (Exa.neArv f_E_q f_V_w (wd_26 hw))
  have ne_x_q : x ≠ q := Exa.ne f_O_x.1 f_E_q (by decide)
  have ne_y_q : y ≠ q := Exa.ne f_O_y.1 f_E_q (by decide)
  have ne_t_q : t ≠ q := Exa.ne f_O_t.1 f_E_q (by decide)
  refine own_putF X4 hx hZ hby hown (host := "") (Or.inl (wd_49 hw)) Via.refl e4 f_F_q_size f_E_q (Or.inl (wd_50 hw)) (wd_26 hw) (ty := .int) (by decide) rfl rfl d6_39 (pc' := 42) rfl (fun T5 h5 X5 e5 W5 => ?_)
  have f_F_q_size := f_F_q_size.same W5
  have f_V_w := f_V_w.other W5 ne_w_q
  have f_O_x := f_O_x.other W5 ne_x_q
  have f_O_y := f_O_y.other W5 ne_y_q
  have f_O_t := f_O_t.other W5 ne_t_q
  have f_E_q := f_E_q.wr W5
  have f_F_q_heap := f_F_q_heap.other W5 (Or.inr (slot_ne (Or.inl (wd_34 hw)) (Or.inl (wd_50 hw)) (by decide) (t := (.array (.object "com/example/earnest_reactor/earnestreactor/core/ScheduledTask"))) (t' := .int) (by decide) (by decide)))
  have Zn := Nat.le_trans Z0 (Keep.of_wr W5).1
  have Kp := Kp.wr W5 (Or.inl (List.mem_of_getElem? (i := 0) rfl))
  have N5 := Fr.snoc X5 N0 ge_q
  refine own_aloadN X5 hx hby d6_42 (pc' := 43) rfl rfl rfl ?_
  refine own_aloadN X5 hx hby d6_43 (pc' := 44) rfl rfl rfl ?_
  refine own_getF X5 hx hZ hby hown (host := "") (Or.inl (wd_49 hw)) Via.refl e5 f_F_q_size d6_44 (pc' := 47) rfl (fun T6 X6 e6 => ?_)
  refine own_iconst X6 hx hby d6_47 (pc' := 48) rfl (n := (1 : Int32)) (by decide) ?_
  refine own_isub X6 hx hby d6_48 (pc' := 49) rfl ?_
  show own_End p e below _ (T6.setTop (mkF m 49 #[.val (.ref q), .val (.ref t)] [(.int (2 : Int32)), (.ref q)]))
  refine own_aloadN X6 hx hby d6_49 (pc' := 50) rfl rfl rfl ?_
  have f_O_q : own_TQ Z h5 q (.ref w) (3 : Int32) := ⟨f_E_q, f_F_q_heap, f_F_q_size⟩
  have ne_w_t : w ≠ t := Ne.symm (Exa.neArv f_O_t.1 f_V_w (wd_6 hw))
  have ne_x_w : x ≠ w := Exa.neArv f_O_x.1 f_V_w (wd_6 hw)
  have ne_y_w : y ≠ w := Exa.neArv f_O_y.1 f_V_w (wd_6 hw)
  refine own_lk4 hw X6 hx hZ hby (by rw [hml]; rfl) hown d6_50 (pc' := 53) rfl e6 f_O_q.1 (W := 0) (Nat.le_of_eq rfl) (rmU2a l Z a0 hw [] q w kk x dx sx y dy sy t dt st h5 n0 Zn f_O_q f_V_w ho f_O_x f_O_y f_O_t ge_w ge_t ne_x_y ne_x_t ne_y_t hz) (by decide) (by decide) (by decide) (by decide) (fun v7 T7 L7 X7 hQ7 => ?_)
  obtain ⟨rfl, Nq7, K7, V7, Ot7⟩ := hQ7
  have N7 := Fr.app N5 Nq7
  have f_O_x := f_O_x.keep K7 (ninS ne_x_w (ninS ne_x_t nin0))
  have f_O_y := f_O_y.keep K7 (ninS ne_y_w (ninS ne_y_t nin0))
  have f_O_q := f_O_q.keep K7 (ninS (Ne.symm ne_w_q) (ninS (Ne.symm ne_t_q) nin0))
  have Zn := Nat.le_trans Zn K7.1
  have Kp := Kp.trans K7 (allS (Or.inl (List.mem_of_getElem? (i := 1) rfl)) (allS (Or.inl (List.mem_of_getElem? (i := 2) rfl)) all0))
  show own_End p e below _ (T7.setTop (mkF m 53 _ []))
  refine own_return X7 hx hlk hby hret d6_53 (own_lv ?_ (by decide) (by decide))
  show QA2a Z q w kk x dx sx y dy sy t dt st  h0 n0 none T7.heap _
  exact ⟨rfl, N7, Kp, f_O_q, V7, Ot7⟩
theorem own_ef_rmA2b (m : MethodId) (q : Addr) (t : Addr)  : entryFrame m #[(.ref q), (.ref t)] 2 = mkF m 0 #[.val (.ref q), .val (.ref t)] [] := by first | (simp [entryFrame, mkF, argsToLocals, Value.category]; done) | rfl
def QA2b (Z : State) (q : Addr) (w : Addr) (kk : ClassId) (x : Addr) (dx : Int64) (sx : Int64) (y : Addr) (dy : Int64) (sy : Int64) (t : Addr) (dt : Int64) (st : Int64) (h0 : Heap) (n0 : Nat) (v : Option Value) (h : Heap) (L : List Loc) : Prop := v = none ∧ Fr n0 L ∧ Keep h0 h [q, w, x, t] ∧ own_TQ Z h q (.ref w) (3 : Int32) ∧ Arv Z h w kk (.object "com/example/earnest_reactor/earnestreactor/core/ScheduledTask") (16 : Int32) [(.ref t), (.ref y), (.ref x)] .null ∧ own_TK Z h x .null dx sx .null (2 : Int32) ∧ own_TK Z h t .null dt st .null (0 : Int32)
set_option maxRecDepth 65536 in
set_option maxHeartbeats 40000000 in
theorem rmA2b (l : Launch) (Z : State) (a0 : Array Value) (hw : ∀ d ∈ tables_1, d.before a0 Z = true) (ws : List Jvm.Cond) (q : Addr) (w : Addr) (kk : ClassId) (x : Addr) (dx : Int64) (sx : Int64) (y : Addr) (dy : Int64) (sy : Int64) (t : Addr) (dt : Int64) (st : Int64) (h0 : Heap) (n0 : Nat) (Z0 : n0 ≤ h0.size) (f_O_q : own_TQ Z h0 q (.ref w) (2 : Int32)) (f_V_w : Arv Z h0 w kk (.object "com/example/earnest_reactor/earnestreactor/core/ScheduledTask") (16 : Int32) [(.ref x), (.ref y), .null] .null) (ho : Ovr Z kk "com/example/earnest_reactor/earnestreactor/core/ScheduledTask") (f_O_x : own_TK Z h0 x .null dx sx .null (0 : Int32)) (f_O_y : own_TK Z h0 y .null dy sy .null (1 : Int32)) (f_O_t : own_TK Z h0 t .null dt st .null (-1 : Int32)) (ge_q : n0 ≤ q) (ge_w : n0 ≤ w) (ge_x : n0 ≤ x) (ge_t : n0 ≤ t) (ne_x_y : x ≠ y) (ne_x_t : x ≠ t) (ne_y_t : y ≠ t) (hz : own_rb dt st dx sx = (1 : Int32)) :
    MetFree l (⟨"com/example/earnest_reactor/earnestreactor/core/TimerQueue", "add", "(Lcom/example/earnest_reactor/earnestreactor/core/ScheduledTask;)V"⟩ : MethodName) (head1 (Jvm.Cond.code (⟨"com/example/earnest_reactor/earnestreactor/core/TimerQueue", "add", "(Lcom/example/earnest_reactor/earnestreactor/core/ScheduledTask;)V"⟩ : MethodName) prog_35_method_4_code 2 none :: ws) ({ frames := 3, cells := 0, slots := 0, locals := 43 } : Room)) (fun aa U => aa = #[(.ref q), (.ref t)] ∧ Z.Warmed39 U.vm ∧ U.heap = h0) (fun _ _ _ _ _ => True) (fun _ U oc U' => ∃ v L, oc = .returned v ∧ QA2b Z q w kk x dx sx y dy sy t dt st h0 n0 v U'.heap L ∧ FrameEnd U oc U' L ({ frames := 3, cells := 0, slots := 0, locals := 43 } : Room).cells ({ frames := 3, cells := 0, slots := 0, locals := 43 } : Room).slots) := by
  refine MetFree.of_bodySF (plainFor_of_name own_pn1) hisR ?_
  intro p e s m args below meth c s₁ Bd hml0 hP hK
  obtain ⟨rfl, hZ, hh⟩ := hP
  have hx := Bd.exec
  have hby := Bd.bytes
  have hlk := Bd.notSynchronized
  have hret := Bd.returns
  have hml : c.maxLocals = 2 := hml0
  have hown : s.vm.findClass "com/example/earnest_reactor/earnestreactor/core/TimerQueue" = some m.cls := findClass_of_methodNamed Bd.named
  have hnm := (name_of_methodNamed Bd.named Bd.method).1
  have X0 : Stand p l e ({ frames := 3, cells := 0, slots := 0, locals := 43 } : Room) s m #[(.ref q), (.ref t)] below meth c s₁ [] 0 0 := Stand.of_body Bd
  have e0 : s₁.heap = h0 := by rw [← hh, Bd.state]; rfl
  have N0 := Fr.nil n0
  refine own_body (Q := QA2b Z q w kk x dx sx y dy sy t dt st h0 n0) (KC := ({ frames := 3, cells := 0, slots := 0, locals := 43 } : Room).cells) (KS := ({ frames := 3, cells := 0, slots := 0, locals := 43 } : Room).slots) ?_
  rw [own_ef_rmA2b m q t]
  have Kp : Keep h0 h0 [q, w, x, t] := Keep.refl h0 _
  refine own_aloadN X0 hx hby d6_0 (pc' := 1) rfl rfl rfl ?_
  obtain ⟨f_E_q, f_F_q_heap, f_F_q_size⟩ := f_O_q
  refine own_getF X0 hx hZ hby hown (host := "") (Or.inl (wd_49 hw)) Via.refl e0 f_F_q_size d6_1 (pc' := 4) rfl (fun T1 X1 e1 => ?_)
  refine own_aloadN X1 hx hby d6_4 (pc' := 5) rfl rfl rfl ?_
  refine own_getF X1 hx hZ hby hown (host := "") (Or.inl (wd_33 hw)) Via.refl e1 f_F_q_heap d6_5 (pc' := 8) rfl (fun T2 X2 e2 => ?_)
  obtain ⟨cl3, Ar3, q3, S3, M3, H3, G3⟩ := id f_V_w
  refine own_alen X2 hx hZ hby e2 Ar3 S3 M3 d6_8 (pc' := 9) rfl ?_
  refine own_icY X2 hx hby d6_9 (pc' := 32) (by decide) (by decide) (show ¬ (2 : Int32) = (16 : Int32) by decide) ?_
  refine own_aloadN X2 hx hby d6_32 (pc' := 33) rfl rfl rfl ?_
  refine own_dup X2 hx hby d6_33 (pc' := 34) rfl rfl ?_
  refine own_getF X2 hx hZ hby hown (host := "") (Or.inl (wd_49 hw)) Via.refl e2 f_F_q_size d6_34 (pc' := 37) rfl (fun T4 X4 e4 => ?_)
  refine own_iconst X4 hx hby d6_37 (pc' := 38) rfl (n := (1 : Int32)) (by decide) ?_
  refine own_iadd X4 hx hby d6_38 (pc' := 39) rfl ?_
  show own_End p e below _ (T4.setTop (mkF m 39 #[.val (.ref q), .val (.ref t)] [(.int (3 : Int32)), (.ref q)]))
  have ne_w_q : w ≠ q := Ne.symm (Exa.neArv f_E_q f_V_w (wd_26 hw))
  have ne_x_q : x ≠ q := Exa.ne f_O_x.1 f_E_q (by decide)
  have ne_y_q : y ≠ q := Exa.ne f_O_y.1 f_E_q (by decide)
  have ne_t_q : t ≠ q := Exa.ne f_O_t.1 f_E_q (by decide)
  refine own_putF X4 hx hZ hby hown (host := "") (Or.inl (wd_49 hw)) Via.refl e4 f_F_q_size f_E_q (Or.inl (wd_50 hw)) (wd_26 hw) (ty := .int) (by decide) rfl rfl d6_39 (pc' := 42) rfl (fun T5 h5 X5 e5 W5 => ?_)
  have f_F_q_size := f_F_q_size.same W5
  have f_V_w := f_V_w.other W5 ne_w_q
  have f_O_x := f_O_x.other W5 ne_x_q
  have f_O_y := f_O_y.other W5 ne_y_q
  have f_O_t := f_O_t.other W5 ne_t_q
  have f_E_q := f_E_q.wr W5
  have f_F_q_heap := f_F_q_heap.other W5 (Or.inr (slot_ne (Or.inl (wd_34 hw)) (Or.inl (wd_50 hw)) (by decide) (t := (.array (.object "com/example/earnest_reactor/earnestreactor/core/ScheduledTask"))) (t' := .int) (by decide) (by decide)))
  have Zn := Nat.le_trans Z0 (Keep.of_wr W5).1
  have Kp := Kp.wr W5 (Or.inl (List.mem_of_getElem? (i := 0) rfl))
  have N5 := Fr.snoc X5 N0 ge_q
  refine own_aloadN X5 hx hby d6_42 (pc' := 43) rfl rfl rfl ?_
  refine own_aloadN X5 hx hby d6_43 (pc' := 44) rfl rfl rfl ?_
  refine own_getF X5 hx hZ hby hown (host := "") (Or.inl (wd_49 hw)) Via.refl e5 f_F_q_size d6_44 (pc' := 47) rfl (fun T6 X6 e6 => ?_)
  refine own_iconst X6 hx hby d6_47 (pc' := 48) rfl (n := (1 : Int32)) (by decide) ?_
  refine own_isub X6 hx hby d6_48 (pc' := 49) rfl ?_
  show own_End p e below _ (T6.setTop (mkF m 49 #[.val (.ref q), .val (.ref t)] [(.int (2 : Int32)), (.ref q)]))
  refine own_aloadN X6 hx hby d6_49 (pc' := 50) rfl rfl rfl ?_
  have f_O_q : own_TQ Z h5 q (.ref w) (3 : Int32) := ⟨f_E_q, f_F_q_heap, f_F_q_size⟩
  have ne_w_x : w ≠ x := Ne.symm (Exa.neArv f_O_x.1 f_V_w (wd_6 hw))
  have ne_w_t : w ≠ t := Ne.symm (Exa.neArv f_O_t.1 f_V_w (wd_6 hw))
  have ne_y_w : y ≠ w := Exa.neArv f_O_y.1 f_V_w (wd_6 hw)
  refine own_lk4 hw X6 hx hZ hby (by rw [hml]; rfl) hown d6_50 (pc' := 53) rfl e6 f_O_q.1 (W := 0) (Nat.le_of_eq rfl) (rmU2b l Z a0 hw [] q w kk x dx sx y dy sy t dt st h5 n0 Zn f_O_q f_V_w ho f_O_x f_O_y f_O_t ge_w ge_x ge_t ne_x_y ne_x_t ne_y_t hz) (by decide) (by decide) (by decide) (by decide) (fun v7 T7 L7 X7 hQ7 => ?_)
  obtain ⟨rfl, Nq7, K7, V7, Ox7, Ot7⟩ := hQ7
  have N7 := Fr.app N5 Nq7
  have f_O_y := f_O_y.keep K7 (ninS ne_y_w (ninS (Ne.symm ne_x_y) (ninS ne_y_t nin0)))
  have f_O_q := f_O_q.keep K7 (ninS (Ne.symm ne_w_q) (ninS (Ne.symm ne_x_q) (ninS (Ne.symm ne_t_q) nin0)))
  have Zn := Nat.le_trans Zn K7.1
  have Kp := Kp.trans K7 (allS (Or.inl (List.mem_of_getElem? (i := 1) rfl)) (allS (Or.inl (List.mem_of_getElem? (i := 2) rfl)) (allS (Or.inl (List.mem_of_getElem? (i := 3) rfl)) all0)))
  show own_End p e below _ (T7.setTop (mkF m 53 _ []))
  refine own_return X7 hx hlk hby hret d6_53 (own_lv ?_ (by decide) (by decide))
  show QA2b Z q w kk x dx sx y dy sy t dt st  h0 n0 none T7.heap _
  exact ⟨rfl, N7, Kp, f_O_q, V7, Ox7, Ot7⟩
theorem own_and3 (x : Int32) : x &&& 3 = 0 ∨ x &&& 3 = 1 ∨ x &&& 3 = 2 ∨ x &&& 3 = 3 := by
  have h := c_mask x 3 2 (by decide) (by decide)
  have e : ∀ k : Int32, (x &&& 3).toInt = k.toInt → x &&& 3 = k := fun k q => Int32.toInt_inj.mp q
  have h0 : (0 : Int32).toInt = 0 := rfl
  have h1 : (1 : Int32).toInt = 1 := rfl
  have h2 : (2 : Int32).toInt = 2 := rfl
  have h3 : (3 : Int32).toInt = 3 := rfl
  have : (x &&& 3).toInt = 0 ∨ (x &&& 3).toInt = 1 ∨ (x &&& 3).toInt = 2 ∨ (x &&& 3).toInt = 3 := by omega
  rcases this with q | q | q | q
  · exact Or.inl (e 0 q)
  · exact Or.inr (Or.inl (e 1 q))
  · exact Or.inr (Or.inr (Or.inl (e 2 q)))
  · exact Or.inr (Or.inr (Or.inr (e 3 q)))

def own_bf (oi si oj sj : Int64) : Int32 := if oi < oj then 1 else if oi = oj then (if si < sj then 1 else 0) else 0
def own_n1 (z : Int32) : Int32 := if z = 0 then 0 else 1
def own_sel1 (r0 k : Int32) (a : Value) : Value := if r0 = k then a else .null
def own_sel2 (r0 r1 k : Int32) (a b : Value) : Value := if r0 = k then a else if r1 = k then b else .null
def own_sel3 (r0 r1 r2 k : Int32) (a b c : Value) : Value := if r0 = k then a else if r1 = k then b else if r2 = k then c else .null
theorem own_lt64 (x y : Int64) : x < y ↔ x.toInt < y.toInt := Int64.lt_iff_toInt_lt
theorem own_eq64 (x y : Int64) : x = y ↔ x.toInt = y.toInt := Int64.toInt_inj.symm
theorem own_bf1 (oi si oj sj : Int64) : own_bf oi si oj sj = 1 ↔ (oi.toInt < oj.toInt ∨ (oi.toInt = oj.toInt ∧ si.toInt < sj.toInt)) := by
  unfold own_bf
  simp only [own_lt64, own_eq64]
  split
  · simp_all
  · split
    · split <;> simp_all
    · simp_all
theorem own_bf0 (oi si oj sj : Int64) : own_bf oi si oj sj = 0 ↔ ¬ (oi.toInt < oj.toInt ∨ (oi.toInt = oj.toInt ∧ si.toInt < sj.toInt)) := by
  unfold own_bf
  simp only [own_lt64, own_eq64]
  split
  · simp_all
  · split
    · split <;> simp_all
    · simp_all
theorem own_bfor {oi si oj sj : Int64} (hs : ¬ si = sj) : (own_bf oi si oj sj = 1 ∧ own_bf oj sj oi si = 0) ∨ (own_bf oi si oj sj = 0 ∧ own_bf oj sj oi si = 1) := by
  rw [own_eq64] at hs
  simp only [own_bf1, own_bf0]
  omega
theorem own_bftr {a b c d e f : Int64} (h1 : own_bf a b c d = 1) (h2 : own_bf c d e f = 1) (h3 : own_bf e f a b = 1) : False := by
  rw [own_bf1] at h1 h2 h3
  omega
theorem own_rb1 (dx sx dy sy : Int64) : own_rb dx sx dy sy = (if (dx - dy).toInt < 0 then 1 else if (dx - dy).toInt = 0 then (if sx.toInt < sy.toInt then 1 else 0) else 0) := by
  unfold own_rb
  simp only [own_lt64, own_eq64]
  rfl
theorem own_rbbf (p oi si oj sj : Int64) (h1 : 0 ≤ oi.toInt ∧ oi.toInt < 4611686018427387904) (h2 : 0 ≤ oj.toInt ∧ oj.toInt < 4611686018427387904) : own_rb (p + oi) si (p + oj) sj = own_bf oi si oj sj := by
  have e : ((p + oi) - (p + oj)).toInt = oi.toInt - oj.toInt := by
    have a1 := c_ladd p oi
    have a2 := c_ladd p oj
    have a3 := c_lsub (p + oi) (p + oj)
    have r3 := rng64 ((p + oi) - (p + oj))
    omega
  rw [own_rb1, e]
  unfold own_bf
  simp only [own_lt64, own_eq64]
  by_cases q : oi.toInt < oj.toInt
  · rw [if_pos (by omega), if_pos q]
  · rw [if_neg (by omega), if_neg q]
    by_cases q2 : oi.toInt = oj.toInt
    · rw [if_pos (by omega), if_pos q2]
    · rw [if_neg (by omega), if_neg q2]
theorem own_off (x : Int64) : 0 ≤ (x &&& (4611686018427387903 : Int64)).toInt ∧ (x &&& (4611686018427387903 : Int64)).toInt < 4611686018427387904 := by
  have h := c_maskL x 4611686018427387903 62 (by decide) (by decide)
  omega
theorem own_r6 (x : Int32) : (x &&& (2147483647 : Int32)) % (6 : Int32) = 0 ∨ (x &&& (2147483647 : Int32)) % (6 : Int32) = 1 ∨ (x &&& (2147483647 : Int32)) % (6 : Int32) = 2 ∨ (x &&& (2147483647 : Int32)) % (6 : Int32) = 3 ∨ (x &&& (2147483647 : Int32)) % (6 : Int32) = 4 ∨ (x &&& (2147483647 : Int32)) % (6 : Int32) = 5 := by
  have h1 := c_mask x 2147483647 31 (by decide) (by decide)
  have h2 := (c_irem (x &&& 2147483647) 6 6 rfl).1 (by omega)
  have e : ∀ k : Int32, ((x &&& 2147483647) % 6).toInt = k.toInt → (x &&& 2147483647) % 6 = k := fun k q => Int32.toInt_inj.mp q
  have : ((x &&& 2147483647) % 6).toInt = 0 ∨ ((x &&& 2147483647) % 6).toInt = 1 ∨ ((x &&& 2147483647) % 6).toInt = 2 ∨ ((x &&& 2147483647) % 6).toInt = 3 ∨ ((x &&& 2147483647) % 6).toInt = 4 ∨ ((x &&& 2147483647) % 6).toInt = 5 := by omega
  rcases this with q | q | q | q | q | q
  · exact Or.inl (e 0 q)
  · exact Or.inr (Or.inl (e 1 q))
  · exact Or.inr (Or.inr (Or.inl (e 2 q)))
  · exact Or.inr (Or.inr (Or.inr (Or.inl (e 3 q))))
  · exact Or.inr (Or.inr (Or.inr (Or.inr (Or.inl (e 4 q)))))
  · exact Or.inr (Or.inr (Or.inr (Or.inr (Or.inr (e 5 q)))))
theorem own_ef_rmBF01 (m : MethodId) (oa : Addr) (sa : Addr)  : entryFrame m #[(.ref oa), (.ref sa), (.int (0 : Int32)), (.int (1 : Int32))] 4 = mkF m 0 #[.val (.ref oa), .val (.ref sa), .val (.int (0 : Int32)), .val (.int (1 : Int32))] [] := by first | (simp [entryFrame, mkF, argsToLocals, Value.category]; done) | rfl
def QBF01 (Z : State) (oa : Addr) (sa : Addr) (ko : ClassId) (ks : ClassId) (o0 : Int64) (o1 : Int64) (o2 : Int64) (s0 : Int64) (s1 : Int64) (s2 : Int64) (z01 : Int32) (h0 : Heap) (n0 : Nat) (v : Option Value) (h : Heap) (L : List Loc) : Prop := v = some (.int z01) ∧ Fr n0 L ∧ h = h0
set_option maxRecDepth 65536 in
set_option maxHeartbeats 40000000 in
theorem rmBF01 (l : Launch) (Z : State) (a0 : Array Value) (hw : ∀ d ∈ tables_1, d.before a0 Z = true) (ws : List Jvm.Cond) (oa : Addr) (sa : Addr) (ko : ClassId) (ks : ClassId) (o0 : Int64) (o1 : Int64) (o2 : Int64) (s0 : Int64) (s1 : Int64) (s2 : Int64) (z01 : Int32) (h0 : Heap) (n0 : Nat) (Z0 : n0 ≤ h0.size) (f_V_oa : Arv Z h0 oa ko .long (3 : Int32) [(.long o0), (.long o1), (.long o2)] (.long (0 : Int64))) (f_V_sa : Arv Z h0 sa ks .long (3 : Int32) [(.long s0), (.long s1), (.long s2)] (.long (0 : Int64))) (hz01 : own_bf o0 s0 o1 s1 = z01) :
    MetFree l (⟨"com/example/earnest_reactor/earnestreactor/core/TimerQueuePollPinLaw", "before", "([J[JII)Z"⟩ : MethodName) (head1 (Jvm.Cond.code (⟨"com/example/earnest_reactor/earnestreactor/core/TimerQueuePollPinLaw", "before", "([J[JII)Z"⟩ : MethodName) method_3_code 4 (some .boolean) :: ws) ({ frames := 0, cells := 0, slots := 0, locals := 0 } : Room)) (fun aa U => aa = #[(.ref oa), (.ref sa), (.int (0 : Int32)), (.int (1 : Int32))] ∧ Z.Warmed39 U.vm ∧ U.heap = h0) (fun _ _ _ _ _ => True) (fun _ U oc U' => ∃ v L, oc = .returned v ∧ QBF01 Z oa sa ko ks o0 o1 o2 s0 s1 s2 z01 h0 n0 v U'.heap L ∧ FrameEnd U oc U' L ({ frames := 0, cells := 0, slots := 0, locals := 0 } : Room).cells ({ frames := 0, cells := 0, slots := 0, locals := 0 } : Room).slots) := by
  refine MetFree.of_bodySF (plainFor_of_name own_pn5) hisR ?_
  intro p e s m args below meth c s₁ Bd hml0 hP hK
  obtain ⟨rfl, hZ, hh⟩ := hP
  have hx := Bd.exec
  have hby := Bd.bytes
  have hlk := Bd.notSynchronized
  have hret := Bd.returns
  have hml : c.maxLocals = 4 := hml0
  have hown : s.vm.findClass "com/example/earnest_reactor/earnestreactor/core/TimerQueuePollPinLaw" = some m.cls := findClass_of_methodNamed Bd.named
  have hnm := (name_of_methodNamed Bd.named Bd.method).1
  have X0 : Stand p l e ({ frames := 0, cells := 0, slots := 0, locals := 0 } : Room) s m #[(.ref oa), (.ref sa), (.int (0 : Int32)), (.int (1 : Int32))] below meth c s₁ [] 0 0 := Stand.of_body Bd
  have e0 : s₁.heap = h0 := by rw [← hh, Bd.state]; rfl
  have N0 := Fr.nil n0
  refine own_body (Q := QBF01 Z oa sa ko ks o0 o1 o2 s0 s1 s2 z01 h0 n0) (KC := ({ frames := 0, cells := 0, slots := 0, locals := 0 } : Room).cells) (KS := ({ frames := 0, cells := 0, slots := 0, locals := 0 } : Room).slots) ?_
  rw [own_ef_rmBF01 m oa sa]
  refine own_aloadN X0 hx hby d15_0 (pc' := 1) rfl rfl rfl ?_
  refine own_iloadN X0 hx hby d15_1 (pc' := 2) rfl rfl ?_
  obtain ⟨cl1, Ar1, q1, S1, M1, H1, G1⟩ := id f_V_oa
  have hin1 : ¬ ((0 : Int32) < 0 ∨ cl1.slots.size ≤ ((0 : Int32)).toNatClampNeg) := inb_of S1 ⟨by decide, by decide⟩
  have hat1 : cl1.slots[((0 : Int32)).toNatClampNeg]? = some (.long o0) := H1.at hin1 rfl
  refine own_laload X0 hx hZ hby e0 Ar1 hin1 hat1 d15_2 (pc' := 3) rfl ?_
  refine own_aloadN X0 hx hby d15_3 (pc' := 4) rfl rfl rfl ?_
  refine own_iloadN X0 hx hby d15_4 (pc' := 5) rfl rfl ?_
  obtain ⟨cl2, Ar2, q2, S2, M2, H2, G2⟩ := id f_V_oa
  have hin2 : ¬ ((1 : Int32) < 0 ∨ cl2.slots.size ≤ ((1 : Int32)).toNatClampNeg) := inb_of S2 ⟨by decide, by decide⟩
  have hat2 : cl2.slots[((1 : Int32)).toNatClampNeg]? = some (.long o1) := H2.at hin2 rfl
  refine own_laload X0 hx hZ hby e0 Ar2 hin2 hat2 d15_5 (pc' := 6) rfl ?_
  refine own_lcmp X0 hx hby d15_6 (pc' := 7) rfl ?_
  refine own_ifL2 X0 hx hby d15_7 (pc1 := 30) (by decide) (by decide) (pc2 := 10) rfl (fun (hc7 : o0 < o1) => ?_) (fun (hc7 : ¬ o0 < o1) => ?_)
  · refine own_iconst X0 hx hby d15_30 (pc' := 31) rfl (n := (1 : Int32)) (by decide) ?_
    refine own_goto X0 hx hby d15_31 (pc' := 35) (by decide) (by decide) ?_
    refine own_zreturn X0 hx hlk hby hret (Or.inr rfl) d15_35 (own_lv ?_ (by decide) (by decide))
    show QBF01 Z oa sa ko ks o0 o1 o2 s0 s1 s2 z01  h0 n0 (some (.int (1 : Int32))) s₁.heap _
    rw [e0]
    exact ⟨by rw [← hz01]; simp [own_bf, hc7], N0, rfl⟩
  · refine own_aloadN X0 hx hby d15_10 (pc' := 11) rfl rfl rfl ?_
    refine own_iloadN X0 hx hby d15_11 (pc' := 12) rfl rfl ?_
    obtain ⟨cl3, Ar3, q3, S3, M3, H3, G3⟩ := id f_V_oa
    have hin3 : ¬ ((0 : Int32) < 0 ∨ cl3.slots.size ≤ ((0 : Int32)).toNatClampNeg) := inb_of S3 ⟨by decide, by decide⟩
    have hat3 : cl3.slots[((0 : Int32)).toNatClampNeg]? = some (.long o0) := H3.at hin3 rfl
    refine own_laload X0 hx hZ hby e0 Ar3 hin3 hat3 d15_12 (pc' := 13) rfl ?_
    refine own_aloadN X0 hx hby d15_13 (pc' := 14) rfl rfl rfl ?_
    refine own_iloadN X0 hx hby d15_14 (pc' := 15) rfl rfl ?_
    obtain ⟨cl4, Ar4, q4, S4, M4, H4, G4⟩ := id f_V_oa
    have hin4 : ¬ ((1 : Int32) < 0 ∨ cl4.slots.size ≤ ((1 : Int32)).toNatClampNeg) := inb_of S4 ⟨by decide, by decide⟩
    have hat4 : cl4.slots[((1 : Int32)).toNatClampNeg]? = some (.long o1) := H4.at hin4 rfl
    refine own_laload X0 hx hZ hby e0 Ar4 hin4 hat4 d15_15 (pc' := 16) rfl ?_
    refine own_lcmp X0 hx hby d15_16 (pc' := 17) rfl ?_
    refine own_ifL2 X0 hx hby d15_17 (pc1 := 34) (by decide) (by decide) (pc2 := 20) rfl (fun (hc17 : ¬ o0 = o1) => ?_) (fun (hc17 : o0 = o1) => ?_)
    · refine own_iconst X0 hx hby d15_34 (pc' := 35) rfl (n := (0 : Int32)) (by decide) ?_
      refine own_zreturn X0 hx hlk hby hret (Or.inl rfl) d15_35 (own_lv ?_ (by decide) (by decide))
      show QBF01 Z oa sa ko ks o0 o1 o2 s0 s1 s2 z01  h0 n0 (some (.int (0 : Int32))) s₁.heap _
      rw [e0]
      exact ⟨by rw [← hz01]; simp [own_bf, hc7, hc17], N0, rfl⟩
    · refine own_aloadN X0 hx hby d15_20 (pc' := 21) rfl rfl rfl ?_
      refine own_iloadN X0 hx hby d15_21 (pc' := 22) rfl rfl ?_
      obtain ⟨cl5, Ar5, q5, S5, M5, H5, G5⟩ := id f_V_sa
      have hin5 : ¬ ((0 : Int32) < 0 ∨ cl5.slots.size ≤ ((0 : Int32)).toNatClampNeg) := inb_of S5 ⟨by decide, by decide⟩
      have hat5 : cl5.slots[((0 : Int32)).toNatClampNeg]? = some (.long s0) := H5.at hin5 rfl
      refine own_laload X0 hx hZ hby e0 Ar5 hin5 hat5 d15_22 (pc' := 23) rfl ?_
      refine own_aloadN X0 hx hby d15_23 (pc' := 24) rfl rfl rfl ?_
      refine own_iloadN X0 hx hby d15_24 (pc' := 25) rfl rfl ?_
      obtain ⟨cl6, Ar6, q6, S6, M6, H6, G6⟩ := id f_V_sa
      have hin6 : ¬ ((1 : Int32) < 0 ∨ cl6.slots.size ≤ ((1 : Int32)).toNatClampNeg) := inb_of S6 ⟨by decide, by decide⟩
      have hat6 : cl6.slots[((1 : Int32)).toNatClampNeg]? = some (.long s1) := H6.at hin6 rfl
      refine own_laload X0 hx hZ hby e0 Ar6 hin6 hat6 d15_25 (pc' := 26) rfl ?_
      refine own_lcmp X0 hx hby d15_26 (pc' := 27) rfl ?_
      refine own_ifL2 X0 hx hby d15_27 (pc1 := 34) (by decide) (by decide) (pc2 := 30) rfl (fun (hc27 : ¬ s0 < s1) => ?_) (fun (hc27 : s0 < s1) => ?_)
      · refine own_iconst X0 hx hby d15_34 (pc' := 35) rfl (n := (0 : Int32)) (by decide) ?_
        refine own_zreturn X0 hx hlk hby hret (Or.inl rfl) d15_35 (own_lv ?_ (by decide) (by decide))
        show QBF01 Z oa sa ko ks o0 o1 o2 s0 s1 s2 z01  h0 n0 (some (.int (0 : Int32))) s₁.heap _
        rw [e0]
        exact ⟨by rw [← hz01]; simp [own_bf, hc7, hc17, hc27], N0, rfl⟩
      · refine own_iconst X0 hx hby d15_30 (pc' := 31) rfl (n := (1 : Int32)) (by decide) ?_
        refine own_goto X0 hx hby d15_31 (pc' := 35) (by decide) (by decide) ?_
        refine own_zreturn X0 hx hlk hby hret (Or.inr rfl) d15_35 (own_lv ?_ (by decide) (by decide))
        show QBF01 Z oa sa ko ks o0 o1 o2 s0 s1 s2 z01  h0 n0 (some (.int (1 : Int32))) s₁.heap _
        rw [e0]
        exact ⟨by rw [← hz01]; simp [own_bf, hc7, hc17, hc27], N0, rfl⟩
theorem own_ef_rmBF02 (m : MethodId) (oa : Addr) (sa : Addr)  : entryFrame m #[(.ref oa), (.ref sa), (.int (0 : Int32)), (.int (2 : Int32))] 4 = mkF m 0 #[.val (.ref oa), .val (.ref sa), .val (.int (0 : Int32)), .val (.int (2 : Int32))] [] := by first | (simp [entryFrame, mkF, argsToLocals, Value.category]; done) | rfl
def QBF02 (Z : State) (oa : Addr) (sa : Addr) (ko : ClassId) (ks : ClassId) (o0 : Int64) (o1 : Int64) (o2 : Int64) (s0 : Int64) (s1 : Int64) (s2 : Int64) (z02 : Int32) (h0 : Heap) (n0 : Nat) (v : Option Value) (h : Heap) (L : List Loc) : Prop := v = some (.int z02) ∧ Fr n0 L ∧ h = h0
set_option maxRecDepth 65536 in
set_option maxHeartbeats 40000000 in
theorem rmBF02 (l : Launch) (Z : State) (a0 : Array Value) (hw : ∀ d ∈ tables_1, d.before a0 Z = true) (ws : List Jvm.Cond) (oa : Addr) (sa : Addr) (ko : ClassId) (ks : ClassId) (o0 : Int64) (o1 : Int64) (o2 : Int64) (s0 : Int64) (s1 : Int64) (s2 : Int64) (z02 : Int32) (h0 : Heap) (n0 : Nat) (Z0 : n0 ≤ h0.size) (f_V_oa : Arv Z h0 oa ko .long (3 : Int32) [(.long o0), (.long o1), (.long o2)] (.long (0 : Int64))) (f_V_sa : Arv Z h0 sa ks .long (3 : Int32) [(.long s0), (.long s1), (.long s2)] (.long (0 : Int64))) (hz02 : own_bf o0 s0 o2 s2 = z02) :
    MetFree l (⟨"com/example/earnest_reactor/earnestreactor/core/TimerQueuePollPinLaw", "before", "([J[JII)Z"⟩ : MethodName) (head1 (Jvm.Cond.code (⟨"com/example/earnest_reactor/earnestreactor/core/TimerQueuePollPinLaw", "before", "([J[JII)Z"⟩ : MethodName) method_3_code 4 (some .boolean) :: ws) ({ frames := 0, cells := 0, slots := 0, locals := 0 } : Room)) (fun aa U => aa = #[(.ref oa), (.ref sa), (.int (0 : Int32)), (.int (2 : Int32))] ∧ Z.Warmed39 U.vm ∧ U.heap = h0) (fun _ _ _ _ _ => True) (fun _ U oc U' => ∃ v L, oc = .returned v ∧ QBF02 Z oa sa ko ks o0 o1 o2 s0 s1 s2 z02 h0 n0 v U'.heap L ∧ FrameEnd U oc U' L ({ frames := 0, cells := 0, slots := 0, locals := 0 } : Room).cells ({ frames := 0, cells := 0, slots := 0, locals := 0 } : Room).slots) := by
  refine MetFree.of_bodySF (plainFor_of_name own_pn5) hisR ?_
  intro p e s m args below meth c s₁ Bd hml0 hP hK
  obtain ⟨rfl, hZ, hh⟩ := hP
  have hx := Bd.exec
  have hby := Bd.bytes
  have hlk := Bd.notSynchronized
  have hret := Bd.returns
  have hml : c.maxLocals = 4 := hml0
  have hown : s.vm.findClass "com/example/earnest_reactor/earnestreactor/core/TimerQueuePollPinLaw" = some m.cls := findClass_of_methodNamed Bd.named
  have hnm := (name_of_methodNamed Bd.named Bd.method).1
  have X0 : Stand p l e ({ frames := 0, cells := 0, slots := 0, locals := 0 } : Room) s m #[(.ref oa), (.ref sa), (.int (0 : Int32)), (.int (2 : Int32))] below meth c s₁ [] 0 0 := Stand.of_body Bd
  have e0 : s₁.heap = h0 := by rw [← hh, Bd.state]; rfl
  have N0 := Fr.nil n0
  refine own_body (Q := QBF02 Z oa sa ko ks o0 o1 o2 s0 s1 s2 z02 h0 n0) (KC := ({ frames := 0, cells := 0, slots := 0, locals := 0 } : Room).cells) (KS := ({ frames := 0, cells := 0, slots := 0, locals := 0 } : Room).slots) ?_
  rw [own_ef_rmBF02 m oa sa]
  refine own_aloadN X0 hx hby d15_0 (pc' := 1) rfl rfl rfl ?_
  refine own_iloadN X0 hx hby d15_1 (pc' := 2) rfl rfl ?_
  obtain ⟨cl1, Ar1, q1, S1, M1, H1, G1⟩ := id f_V_oa
  have hin1 : ¬ ((0 : Int32) < 0 ∨ cl1.slots.size ≤ ((0 : Int32)).toNatClampNeg) := inb_of S1 ⟨by decide, by decide⟩
  have hat1 : cl1.slots[((0 : Int32)).toNatClampNeg]? = some (.long o0) := H1.at hin1 rfl
  refine own_laload X0 hx hZ hby e0 Ar1 hin1 hat1 d15_2 (pc' := 3) rfl ?_
  refine own_aloadN X0 hx hby d15_3 (pc' := 4) rfl rfl rfl ?_
  refine own_iloadN X0 hx hby d15_4 (pc' := 5) rfl rfl ?_
  obtain ⟨cl2, Ar2, q2, S2, M2, H2, G2⟩ := id f_V_oa
  have hin2 : ¬ ((2 : Int32) < 0 ∨ cl2.slots.size ≤ ((2 : Int32)).toNatClampNeg) := inb_of S2 ⟨by decide, by decide⟩
  have hat2 : cl2.slots[((2 : Int32)).toNatClampNeg]? = some (.long o2) := H2.at hin2 rfl
  refine own_laload X0 hx hZ hby e0 Ar2 hin2 hat2 d15_5 (pc' := 6) rfl ?_
  refine own_lcmp X0 hx hby d15_6 (pc' := 7) rfl ?_
  refine own_ifL2 X0 hx hby d15_7 (pc1 := 30) (by decide) (by decide) (pc2 := 10) rfl (fun (hc7 : o0 < o2) => ?_) (fun (hc7 : ¬ o0 < o2) => ?_)
  · refine own_iconst X0 hx hby d15_30 (pc' := 31) rfl (n := (1 : Int32)) (by decide) ?_
    refine own_goto X0 hx hby d15_31 (pc' := 35) (by decide) (by decide) ?_
    refine own_zreturn X0 hx hlk hby hret (Or.inr rfl) d15_35 (own_lv ?_ (by decide) (by decide))
    show QBF02 Z oa sa ko ks o0 o1 o2 s0 s1 s2 z02  h0 n0 (some (.int (1 : Int32))) s₁.heap _
    rw [e0]
    exact ⟨by rw [← hz02]; simp [own_bf, hc7], N0, rfl⟩
  · refine own_aloadN X0 hx hby d15_10 (pc' := 11) rfl rfl rfl ?_
    refine own_iloadN X0 hx hby d15_11 (pc' := 12) rfl rfl ?_
    obtain ⟨cl3, Ar3, q3, S3, M3, H3, G3⟩ := id f_V_oa
    have hin3 : ¬ ((0 : Int32) < 0 ∨ cl3.slots.size ≤ ((0 : Int32)).toNatClampNeg) := inb_of S3 ⟨by decide, by decide⟩
    have hat3 : cl3.slots[((0 : Int32)).toNatClampNeg]? = some (.long o0) := H3.at hin3 rfl
    refine own_laload X0 hx hZ hby e0 Ar3 hin3 hat3 d15_12 (pc' := 13) rfl ?_
    refine own_aloadN X0 hx hby d15_13 (pc' := 14) rfl rfl rfl ?_
    refine own_iloadN X0 hx hby d15_14 (pc' := 15) rfl rfl ?_
    obtain ⟨cl4, Ar4, q4, S4, M4, H4, G4⟩ := id f_V_oa
    have hin4 : ¬ ((2 : Int32) < 0 ∨ cl4.slots.size ≤ ((2 : Int32)).toNatClampNeg) := inb_of S4 ⟨by decide, by decide⟩
    have hat4 : cl4.slots[((2 : Int32)).toNatClampNeg]? = some (.long o2) := H4.at hin4 rfl
    refine own_laload X0 hx hZ hby e0 Ar4 hin4 hat4 d15_15 (pc' := 16) rfl ?_
    refine own_lcmp X0 hx hby d15_16 (pc' := 17) rfl ?_
    refine own_ifL2 X0 hx hby d15_17 (pc1 := 34) (by decide) (by decide) (pc2 := 20) rfl (fun (hc17 : ¬ o0 = o2) => ?_) (fun (hc17 : o0 = o2) => ?_)
    · refine own_iconst X0 hx hby d15_34 (pc' := 35) rfl (n := (0 : Int32)) (by decide) ?_
      refine own_zreturn X0 hx hlk hby hret (Or.inl rfl) d15_35 (own_lv ?_ (by decide) (by decide))
      show QBF02 Z oa sa ko ks o0 o1 o2 s0 s1 s2 z02  h0 n0 (some (.int (0 : Int32))) s₁.heap _
      rw [e0]
      exact ⟨by rw [← hz02]; simp [own_bf, hc7, hc17], N0, rfl⟩
    · refine own_aloadN X0 hx hby d15_20 (pc' := 21) rfl rfl rfl ?_
      refine own_iloadN X0 hx hby d15_21 (pc' := 22) rfl rfl ?_
      obtain ⟨cl5, Ar5, q5, S5, M5, H5, G5⟩ := id f_V_sa
      have hin5 : ¬ ((0 : Int32) < 0 ∨ cl5.slots.size ≤ ((0 : Int32)).toNatClampNeg) := inb_of S5 ⟨by decide, by decide⟩
      have hat5 : cl5.slots[((0 : Int32)).toNatClampNeg]? = some (.long s0) := H5.at hin5 rfl
      refine own_laload X0 hx hZ hby e0 Ar5 hin5 hat5 d15_22 (pc' := 23) rfl ?_
      refine own_aloadN X0 hx hby d15_23 (pc' := 24) rfl rfl rfl ?_
      refine own_iloadN X0 hx hby d15_24 (pc' := 25) rfl rfl ?_
      obtain ⟨cl6, Ar6, q6, S6, M6, H6, G6⟩ := id f_V_sa
      have hin6 : ¬ ((2 : Int32) < 0 ∨ cl6.slots.size ≤ ((2 : Int32)).toNatClampNeg) := inb_of S6 ⟨by decide, by decide⟩
      have hat6 : cl6.slots[((2 : Int32)).toNatClampNeg]? = some (.long s2) := H6.at hin6 rfl
      refine own_laload X0 hx hZ hby e0 Ar6 hin6 hat6 d15_25 (pc' := 26) rfl ?_
      refine own_lcmp X0 hx hby d15_26 (pc' := 27) rfl ?_
      refine own_ifL2 X0 hx hby d15_27 (pc1 := 34) (by decide) (by decide) (pc2 := 30) rfl (fun (hc27 : ¬ s0 < s2) => ?_) (fun (hc27 : s0 < s2) => ?_)
      · refine own_iconst X0 hx hby d15_34 (pc' := 35) rfl (n := (0 : Int32)) (by decide) ?_
        refine own_zreturn X0 hx hlk hby hret (Or.inl rfl) d15_35 (own_lv ?_ (by decide) (by decide))
        show QBF02 Z oa sa ko ks o0 o1 o2 s0 s1 s2 z02  h0 n0 (some (.int (0 : Int32))) s₁.heap _
        rw [e0]
        exact ⟨by rw [← hz02]; simp [own_bf, hc7, hc17, hc27], N0, rfl⟩
      · refine own_iconst X0 hx hby d15_30 (pc' := 31) rfl (n := (1 : Int32)) (by decide) ?_
        refine own_goto X0 hx hby d15_31 (pc' := 35) (by decide) (by decide) ?_
        refine own_zreturn X0 hx hlk hby hret (Or.inr rfl) d15_35 (own_lv ?_ (by decide) (by decide))
        show QBF02 Z oa sa ko ks o0 o1 o2 s0 s1 s2 z02  h0 n0 (some (.int (1 : Int32))) s₁.heap _
        rw [e0]
        exact ⟨by rw [← hz02]; simp [own_bf, hc7, hc17, hc27], N0, rfl⟩
theorem own_ef_rmBF10 (m : MethodId) (oa : Addr) (sa : Addr)  : entryFrame m #[(.ref oa), (.ref sa), (.int (1 : Int32)), (.int (0 : Int32))] 4 = mkF m 0 #[.val (.ref oa), .val (.ref sa), .val (.int (1 : Int32)), .val (.int (0 : Int32))] [] := by first | (simp [entryFrame, mkF, argsToLocals, Value.category]; done) | rfl
def QBF10 (Z : State) (oa : Addr) (sa : Addr) (ko : ClassId) (ks : ClassId) (o0 : Int64) (o1 : Int64) (o2 : Int64) (s0 : Int64) (s1 : Int64) (s2 : Int64) (z10 : Int32) (h0 : Heap) (n0 : Nat) (v : Option Value) (h : Heap) (L : List Loc) : Prop := v = some (.int z10) ∧ Fr n0 L ∧ h = h0
set_option maxRecDepth 65536 in
set_option maxHeartbeats 40000000 in
theorem rmBF10 (l : Launch) (Z : State) (a0 : Array Value) (hw : ∀ d ∈ tables_1, d.before a0 Z = true) (ws : List Jvm.Cond) (oa : Addr) (sa : Addr) (ko : ClassId) (ks : ClassId) (o0 : Int64) (o1 : Int64) (o2 : Int64) (s0 : Int64) (s1 : Int64) (s2 : Int64) (z10 : Int32) (h0 : Heap) (n0 : Nat) (Z0 : n0 ≤ h0.size) (f_V_oa : Arv Z h0 oa ko .long (3 : Int32) [(.long o0), (.long o1), (.long o2)] (.long (0 : Int64))) (f_V_sa : Arv Z h0 sa ks .long (3 : Int32) [(.long s0), (.long s1), (.long s2)] (.long (0 : Int64))) (hz10 : own_bf o1 s1 o0 s0 = z10) :
    MetFree l (⟨"com/example/earnest_reactor/earnestreactor/core/TimerQueuePollPinLaw", "before", "([J[JII)Z"⟩ : MethodName) (head1 (Jvm.Cond.code (⟨"com/example/earnest_reactor/earnestreactor/core/TimerQueuePollPinLaw", "before", "([J[JII)Z"⟩ : MethodName) method_3_code 4 (some .boolean) :: ws) ({ frames := 0, cells := 0, slots := 0, locals := 0 } : Room)) (fun aa U => aa = #[(.ref oa), (.ref sa), (.int (1 : Int32)), (.int (0 : Int32))] ∧ Z.Warmed39 U.vm ∧ U.heap = h0) (fun _ _ _ _ _ => True) (fun _ U oc U' => ∃ v L, oc = .returned v ∧ QBF10 Z oa sa ko ks o0 o1 o2 s0 s1 s2 z10 h0 n0 v U'.heap L ∧ FrameEnd U oc U' L ({ frames := 0, cells := 0, slots := 0, locals := 0 } : Room).cells ({ frames := 0, cells := 0, slots := 0, locals := 0 } : Room).slots) := by
  refine MetFree.of_bodySF (plainFor_of_name own_pn5) hisR ?_
  intro p e s m args below meth c s₁ Bd hml0 hP hK
  obtain ⟨rfl, hZ, hh⟩ := hP
  have hx := Bd.exec
  have hby := Bd.bytes
  have hlk := Bd.notSynchronized
  have hret := Bd.returns
  have hml : c.maxLocals = 4 := hml0
  have hown : s.vm.findClass "com/example/earnest_reactor/earnestreactor/core/TimerQueuePollPinLaw" = some m.cls := findClass_of_methodNamed Bd.named
  have hnm := (name_of_methodNamed Bd.named Bd.method).1
  have X0 : Stand p l e ({ frames := 0, cells := 0, slots := 0, locals := 0 } : Room) s m #[(.ref oa), (.ref sa), (.int (1 : Int32)), (.int (0 : Int32))] below meth c s₁ [] 0 0 := Stand.of_body Bd
  have e0 : s₁.heap = h0 := by rw [← hh, Bd.state]; rfl
  have N0 := Fr.nil n0
  refine own_body (Q := QBF10 Z oa sa ko ks o0 o1 o2 s0 s1 s2 z10 h0 n0) (KC := ({ frames := 0, cells := 0, slots := 0, locals := 0 } : Room).cells) (KS := ({ frames := 0, cells := 0, slots := 0, locals := 0 } : Room).slots) ?_
  rw [own_ef_rmBF10 m oa sa]
  refine own_aloadN X0 hx hby d15_0 (pc' := 1) rfl rfl rfl ?_
  refine own_iloadN X0 hx hby d15_1 (pc' := 2) rfl rfl ?_
  obtain ⟨cl1, Ar1, q1, S1, M1, H1, G1⟩ := id f_V_oa
  have hin1 : ¬ ((1 : Int32) < 0 ∨ cl1.slots.size ≤ ((1 : Int32)).toNatClampNeg) := inb_of S1 ⟨by decide, by decide⟩
  have hat1 : cl1.slots[((1 : Int32)).toNatClampNeg]? = some (.long o1) := H1.at hin1 rfl
  refine own_laload X0 hx hZ hby e0 Ar1 hin1 hat1 d15_2 (pc' := 3) rfl ?_
  refine own_aloadN X0 hx hby d15_3 (pc' := 4) rfl rfl rfl ?_
  refine own_iloadN X0 hx hby d15_4 (pc' := 5) rfl rfl ?_
  obtain ⟨cl2, Ar2, q2, S2, M2, H2, G2⟩ := id f_V_oa
  have hin2 : ¬ ((0 : Int32) < 0 ∨ cl2.slots.size ≤ ((0 : Int32)).toNatClampNeg) := inb_of S2 ⟨by decide, by decide⟩
  have hat2 : cl2.slots[((0 : Int32)).toNatClampNeg]? = some (.long o0) := H2.at hin2 rfl
  refine own_laload X0 hx hZ hby e0 Ar2 hin2 hat2 d15_5 (pc' := 6) rfl ?_
  refine own_lcmp X0 hx hby d15_6 (pc' := 7) rfl ?_
  refine own_ifL2 X0 hx hby d15_7 (pc1 := 30) (by decide) (by decide) (pc2 := 10) rfl (fun (hc7 : o1 < o0) => ?_) (fun (hc7 : ¬ o1 < o0) => ?_)
  · refine own_iconst X0 hx hby d15_30 (pc' := 31) rfl (n := (1 : Int32)) (by decide) ?_
    refine own_goto X0 hx hby d15_31 (pc' := 35) (by decide) (by decide) ?_
    refine own_zreturn X0 hx hlk hby hret (Or.inr rfl) d15_35 (own_lv ?_ (by decide) (by decide))
    show QBF10 Z oa sa ko ks o0 o1 o2 s0 s1 s2 z10  h0 n0 (some (.int (1 : Int32))) s₁.heap _
    rw [e0]
    exact ⟨by rw [← hz10]; simp [own_bf, hc7], N0, rfl⟩
  · refine own_aloadN X0 hx hby d15_10 (pc' := 11) rfl rfl rfl ?_
    refine own_iloadN X0 hx hby d15_11 (pc' := 12) rfl rfl ?_
    obtain ⟨cl3, Ar3, q3, S3, M3, H3, G3⟩ := id f_V_oa
    have hin3 : ¬ ((1 : Int32) < 0 ∨ cl3.slots.size ≤ ((1 : Int32)).toNatClampNeg) := inb_of S3 ⟨by decide, by decide⟩
    have hat3 : cl3.slots[((1 : Int32)).toNatClampNeg]? = some (.long o1) := H3.at hin3 rfl
    refine own_laload X0 hx hZ hby e0 Ar3 hin3 hat3 d15_12 (pc' := 13) rfl ?_
    refine own_aloadN X0 hx hby d15_13 (pc' := 14) rfl rfl rfl ?_
    refine own_iloadN X0 hx hby d15_14 (pc' := 15) rfl rfl ?_
    obtain ⟨cl4, Ar4, q4, S4, M4, H4, G4⟩ := id f_V_oa
    have hin4 : ¬ ((0 : Int32) < 0 ∨ cl4.slots.size ≤ ((0 : Int32)).toNatClampNeg) := inb_of S4 ⟨by decide, by decide⟩
    have hat4 : cl4.slots[((0 : Int32)).toNatClampNeg]? = some (.long o0) := H4.at hin4 rfl
    refine own_laload X0 hx hZ hby e0 Ar4 hin4 hat4 d15_15 (pc' := 16) rfl ?_
    refine own_lcmp X0 hx hby d15_16 (pc' := 17) rfl ?_
    refine own_ifL2 X0 hx hby d15_17 (pc1 := 34) (by decide) (by decide) (pc2 := 20) rfl (fun (hc17 : ¬ o1 = o0) => ?_) (fun (hc17 : o1 = o0) => ?_)
    · refine own_iconst X0 hx hby d15_34 (pc' := 35) rfl (n := (0 : Int32)) (by decide) ?_
      refine own_zreturn X0 hx hlk hby hret (Or.inl rfl) d15_35 (own_lv ?_ (by decide) (by decide))
      show QBF10 Z oa sa ko ks o0 o1 o2 s0 s1 s2 z10  h0 n0 (some (.int (0 : Int32))) s₁.heap _
      rw [e0]
      exact ⟨by rw [← hz10]; simp [own_bf, hc7, hc17], N0, rfl⟩
    · refine own_aloadN X0 hx hby d15_20 (pc' := 21) rfl rfl rfl ?_
      refine own_iloadN X0 hx hby d15_21 (pc' := 22) rfl rfl ?_
      obtain ⟨cl5, Ar5, q5, S5, M5, H5, G5⟩ := id f_V_sa
      have hin5 : ¬ ((1 : Int32) < 0 ∨ cl5.slots.size ≤ ((1 : Int32)).toNatClampNeg) := inb_of S5 ⟨by decide, by decide⟩
      have hat5 : cl5.slots[((1 : Int32)).toNatClampNeg]? = some (.long s1) := H5.at hin5 rfl
      refine own_laload X0 hx hZ hby e0 Ar5 hin5 hat5 d15_22 (pc' := 23) rfl ?_
      refine own_aloadN X0 hx hby d15_23 (pc' := 24) rfl rfl rfl ?_
      refine own_iloadN X0 hx hby d15_24 (pc' := 25) rfl rfl ?_
      obtain ⟨cl6, Ar6, q6, S6, M6, H6, G6⟩ := id f_V_sa
      have hin6 : ¬ ((0 : Int32) < 0 ∨ cl6.slots.size ≤ ((0 : Int32)).toNatClampNeg) := inb_of S6 ⟨by decide, by decide⟩
      have hat6 : cl6.slots[((0 : Int32)).toNatClampNeg]? = some (.long s0) := H6.at hin6 rfl
      refine own_laload X0 hx hZ hby e0 Ar6 hin6 hat6 d15_25 (pc' := 26) rfl ?_
      refine own_lcmp X0 hx hby d15_26 (pc' := 27) rfl ?_
      refine own_ifL2 X0 hx hby d15_27 (pc1 := 34) (by decide) (by decide) (pc2 := 30) rfl (fun (hc27 : ¬ s1 < s0) => ?_) (fun (hc27 : s1 < s0) => ?_)
      · refine own_iconst X0 hx hby d15_34 (pc' := 35) rfl (n := (0 : Int32)) (by decide) ?_
        refine own_zreturn X0 hx hlk hby hret (Or.inl rfl) d15_35 (own_lv ?_ (by decide) (by decide))
        show QBF10 Z oa sa ko ks o0 o1 o2 s0 s1 s2 z10  h0 n0 (some (.int (0 : Int32))) s₁.heap _
        rw [e0]
        exact ⟨by rw [← hz10]; simp [own_bf, hc7, hc17, hc27], N0, rfl⟩
      · refine own_iconst X0 hx hby d15_30 (pc' := 31) rfl (n := (1 : Int32)) (by decide) ?_
        refine own_goto X0 hx hby d15_31 (pc' := 35) (by decide) (by decide) ?_
        refine own_zreturn X0 hx hlk hby hret (Or.inr rfl) d15_35 (own_lv ?_ (by decide) (by decide))
        show QBF10 Z oa sa ko ks o0 o1 o2 s0 s1 s2 z10  h0 n0 (some (.int (1 : Int32))) s₁.heap _
        rw [e0]
        exact ⟨by rw [← hz10]; simp [own_bf, hc7, hc17, hc27], N0, rfl⟩
theorem own_ef_rmBF12 (m : MethodId) (oa : Addr) (sa : Addr)  : entryFrame m #[(.ref oa), (.ref sa), (.int (1 : Int32)), (.int (2 : Int32))] 4 = mkF m 0 #[.val (.ref oa), .val (.ref sa), .val (.int (1 : Int32)), .val (.int (2 : Int32))] [] := by first | (simp [entryFrame, mkF, argsToLocals, Value.category]; done) | rfl
def QBF12 (Z : State) (oa : Addr) (sa : Addr) (ko : ClassId) (ks : ClassId) (o0 : Int64) (o1 : Int64) (o2 : Int64) (s0 : Int64) (s1 : Int64) (s2 : Int64) (z12 : Int32) (h0 : Heap) (n0 : Nat) (v : Option Value) (h : Heap) (L : List Loc) : Prop := v = some (.int z12) ∧ Fr n0 L ∧ h = h0
set_option maxRecDepth 65536 in
set_option maxHeartbeats 40000000 in
theorem rmBF12 (l : Launch) (Z : State) (a0 : Array Value) (hw : ∀ d ∈ tables_1, d.before a0 Z = true) (ws : List Jvm.Cond) (oa : Addr) (sa : Addr) (ko : ClassId) (ks : ClassId) (o0 : Int64) (o1 : Int64) (o2 : Int64) (s0 : Int64) (s1 : Int64) (s2 : Int64) (z12 : Int32) (h0 : Heap) (n0 : Nat) (Z0 : n0 ≤ h0.size) (f_V_oa : Arv Z h0 oa ko .long (3 : Int32) [(.long o0), (.long o1), (.long o2)] (.long (0 : Int64))) (f_V_sa : Arv Z h0 sa ks .long (3 : Int32) [(.long s0), (.long s1), (.long s2)] (.long (0 : Int64))) (hz12 : own_bf o1 s1 o2 s2 = z12) :
    MetFree l (⟨"com/example/earnest_reactor/earnestreactor/core/TimerQueuePollPinLaw", "before", "([J[JII)Z"⟩ : MethodName) (head1 (Jvm.Cond.code (⟨"com/example/earnest_reactor/earnestreactor/core/TimerQueuePollPinLaw", "before", "([J[JII)Z"⟩ : MethodName) method_3_code 4 (some .boolean) :: ws) ({ frames := 0, cells := 0, slots := 0, locals := 0 } : Room)) (fun aa U => aa = #[(.ref oa), (.ref sa), (.int (1 : Int32)), (.int (2 : Int32))] ∧ Z.Warmed39 U.vm ∧ U.heap = h0) (fun _ _ _ _ _ => True) (fun _ U oc U' => ∃ v L, oc = .returned v ∧ QBF12 Z oa sa ko ks o0 o1 o2 s0 s1 s2 z12 h0 n0 v U'.heap L ∧ FrameEnd U oc U' L ({ frames := 0, cells := 0, slots := 0, locals := 0 } : Room).cells ({ frames := 0, cells := 0, slots := 0, locals := 0 } : Room).slots) := by
  refine MetFree.of_bodySF (plainFor_of_name own_pn5) hisR ?_
  intro p e s m args below meth c s₁ Bd hml0 hP hK
  obtain ⟨rfl, hZ, hh⟩ := hP
  have hx := Bd.exec
  have hby := Bd.bytes
  have hlk := Bd.notSynchronized
  have hret := Bd.returns
  have hml : c.maxLocals = 4 := hml0
  have hown : s.vm.findClass "com/example/earnest_reactor/earnestreactor/core/TimerQueuePollPinLaw" = some m.cls := findClass_of_methodNamed Bd.named
  have hnm := (name_of_methodNamed Bd.named Bd.method).1
  have X0 : Stand p l e ({ frames := 0, cells := 0, slots := 0, locals := 0 } : Room) s m #[(.ref oa), (.ref sa), (.int (1 : Int32)), (.int (2 : Int32))] below meth c s₁ [] 0 0 := Stand.of_body Bd
  have e0 : s₁.heap = h0 := by rw [← hh, Bd.state]; rfl
  have N0 := Fr.nil n0
  refine own_body (Q := QBF12 Z oa sa ko ks o0 o1 o2 s0 s1 s2 z12 h0 n0) (KC := ({ frames := 0, cells := 0, slots := 0, locals := 0 } : Room).cells) (KS := ({ frames := 0, cells := 0, slots := 0, locals := 0 } : Room).slots) ?_
  rw [own_ef_rmBF12 m oa sa]
  refine own_aloadN X0 hx hby d15_0 (pc' := 1) rfl rfl rfl ?_
  refine own_iloadN X0 hx hby d15_1 (pc' := 2) rfl rfl ?_
  obtain ⟨cl1, Ar1, q1, S1, M1, H1, G1⟩ := id f_V_oa
  have hin1 : ¬ ((1 : Int32) < 0 ∨ cl1.slots.size ≤ ((1 : Int32)).toNatClampNeg) := inb_of S1 ⟨by decide, by decide⟩
  have hat1 : cl1.slots[((1 : Int32)).toNatClampNeg]? = some (.long o1) := H1.at hin1 rfl
  refine own_laload X0 hx hZ hby e0 Ar1 hin1 hat1 d15_2 (pc' := 3) rfl ?_
  refine own_aloadN X0 hx hby d15_3 (pc' := 4) rfl rfl rfl ?_
  refine own_iloadN X0 hx hby d15_4 (pc' := 5) rfl rfl ?_
  obtain ⟨cl2, Ar2, q2, S2, M2, H2, G2⟩ := id f_V_oa
  have hin2 : ¬ ((2 : Int32) < 0 ∨ cl2.slots.size ≤ ((2 : Int32)).toNatClampNeg) := inb_of S2 ⟨by decide, by decide⟩
  have hat2 : cl2.slots[((2 : Int32)).toNatClampNeg]? = some (.long o2) := H2.at hin2 rfl
  refine own_laload X0 hx hZ hby e0 Ar2 hin2 hat2 d15_5 (pc' := 6) rfl ?_
  refine own_lcmp X0 hx hby d15_6 (pc' := 7) rfl ?_
  refine own_ifL2 X0 hx hby d15_7 (pc1 := 30) (by decide) (by decide) (pc2 := 10) rfl (fun (hc7 : o1 < o2) => ?_) (fun (hc7 : ¬ o1 < o2) => ?_)
  · refine own_iconst X0 hx hby d15_30 (pc' := 31) rfl (n := (1 : Int32)) (by decide) ?_
    refine own_goto X0 hx hby d15_31 (pc' := 35) (by decide) (by decide) ?_
    refine own_zreturn X0 hx hlk hby hret (Or.inr rfl) d15_35 (own_lv ?_ (by decide) (by decide))
    show QBF12 Z oa sa ko ks o0 o1 o2 s0 s1 s2 z12  h0 n0 (some (.int (1 : Int32))) s₁.heap _
    rw [e0]
    exact ⟨by rw [← hz12]; simp [own_bf, hc7], N0, rfl⟩
  · refine own_aloadN X0 hx hby d15_10 (pc' := 11) rfl rfl rfl ?_
    refine own_iloadN X0 hx hby d15_11 (pc' := 12) rfl rfl ?_
    obtain ⟨cl3, Ar3, q3, S3, M3, H3, G3⟩ := id f_V_oa
    have hin3 : ¬ ((1 : Int32) < 0 ∨ cl3.slots.size ≤ ((1 : Int32)).toNatClampNeg) := inb_of S3 ⟨by decide, by decide⟩
    have hat3 : cl3.slots[((1 : Int32)).toNatClampNeg]? = some (.long o1) := H3.at hin3 rfl
    refine own_laload X0 hx hZ hby e0 Ar3 hin3 hat3 d15_12 (pc' := 13) rfl ?_
    refine own_aloadN X0 hx hby d15_13 (pc' := 14) rfl rfl rfl ?_
    refine own_iloadN X0 hx hby d15_14 (pc' := 15) rfl rfl ?_
    obtain ⟨cl4, Ar4, q4, S4, M4, H4, G4⟩ := id f_V_oa
    have hin4 : ¬ ((2 : Int32) < 0 ∨ cl4.slots.size ≤ ((2 : Int32)).toNatClampNeg) := inb_of S4 ⟨by decide, by decide⟩
    have hat4 : cl4.slots[((2 : Int32)).toNatClampNeg]? = some (.long o2) := H4.at hin4 rfl
    refine own_laload X0 hx hZ hby e0 Ar4 hin4 hat4 d15_15 (pc' := 16) rfl ?_
    refine own_lcmp X0 hx hby d15_16 (pc' := 17) rfl ?_
    refine own_ifL2 X0 hx hby d15_17 (pc1 := 34) (by decide) (by decide) (pc2 := 20) rfl (fun (hc17 : ¬ o1 = o2) => ?_) (fun (hc17 : o1 = o2) => ?_)
    · refine own_iconst X0 hx hby d15_34 (pc' := 35) rfl (n := (0 : Int32)) (by decide) ?_
      refine own_zreturn X0 hx hlk hby hret (Or.inl rfl) d15_35 (own_lv ?_ (by decide) (by decide))
      show QBF12 Z oa sa ko ks o0 o1 o2 s0 s1 s2 z12  h0 n0 (some (.int (0 : Int32))) s₁.heap _
      rw [e0]
      exact ⟨by rw [← hz12]; simp [own_bf, hc7, hc17], N0, rfl⟩
    · refine own_aloadN X0 hx hby d15_20 (pc' := 21) rfl rfl rfl ?_
      refine own_iloadN X0 hx hby d15_21 (pc' := 22) rfl rfl ?_
      obtain ⟨cl5, Ar5, q5, S5, M5, H5, G5⟩ := id f_V_sa
      have hin5 : ¬ ((1 : Int32) < 0 ∨ cl5.slots.size ≤ ((1 : Int32)).toNatClampNeg) := inb_of S5 ⟨by decide, by decide⟩
      have hat5 : cl5.slots[((1 : Int32)).toNatClampNeg]? = some (.long s1) := H5.at hin5 rfl
      refine own_laload X0 hx hZ hby e0 Ar5 hin5 hat5 d15_22 (pc' := 23) rfl ?_
      refine own_aloadN X0 hx hby d15_23 (pc' := 24) rfl rfl rfl ?_
      refine own_iloadN X0 hx hby d15_24 (pc' := 25) rfl rfl ?_
      obtain ⟨cl6, Ar6, q6, S6, M6, H6, G6⟩ := id f_V_sa
      have hin6 : ¬ ((2 : Int32) < 0 ∨ cl6.slots.size ≤ ((2 : Int32)).toNatClampNeg) := inb_of S6 ⟨by decide, by decide⟩
      have hat6 : cl6.slots[((2 : Int32)).toNatClampNeg]? = some (.long s2) := H6.at hin6 rfl
      refine own_laload X0 hx hZ hby e0 Ar6 hin6 hat6 d15_25 (pc' := 26) rfl ?_
      refine own_lcmp X0 hx hby d15_26 (pc' := 27) rfl ?_
      refine own_ifL2 X0 hx hby d15_27 (pc1 := 34) (by decide) (by decide) (pc2 := 30) rfl (fun (hc27 : ¬ s1 < s2) => ?_) (fun (hc27 : s1 < s2) => ?_)
      · refine own_iconst X0 hx hby d15_34 (pc' := 35) rfl (n := (0 : Int32)) (by decide) ?_
        refine own_zreturn X0 hx hlk hby hret (Or.inl rfl) d15_35 (own_lv ?_ (by decide) (by decide))
        show QBF12 Z oa sa ko ks o0 o1 o2 s0 s1 s2 z12  h0 n0 (some (.int (0 : Int32))) s₁.heap _
        rw [e0]
        exact ⟨by rw [← hz12]; simp [own_bf, hc7, hc17, hc27], N0, rfl⟩
      · refine own_iconst X0 hx hby d15_30 (pc' := 31) rfl (n := (1 : Int32)) (by decide) ?_
        refine own_goto X0 hx hby d15_31 (pc' := 35) (by decide) (by decide) ?_
        refine own_zreturn X0 hx hlk hby hret (Or.inr rfl) d15_35 (own_lv ?_ (by decide) (by decide))
        show QBF12 Z oa sa ko ks o0 o1 o2 s0 s1 s2 z12  h0 n0 (some (.int (1 : Int32))) s₁.heap _
        rw [e0]
        exact ⟨by rw [← hz12]; simp [own_bf, hc7, hc17, hc27], N0, rfl⟩
theorem own_ef_rmBF20 (m : MethodId) (oa : Addr) (sa : Addr)  : entryFrame m #[(.ref oa), (.ref sa), (.int (2 : Int32)), (.int (0 : Int32))] 4 = mkF m 0 #[.val (.ref oa), .val (.ref sa), .val (.int (2 : Int32)), .val (.int (0 : Int32))] [] := by first | (simp [entryFrame, mkF, argsToLocals, Value.category]; done) | rfl
def QBF20 (Z : State) (oa : Addr) (sa : Addr) (ko : ClassId) (ks : ClassId) (o0 : Int64) (o1 : Int64) (o2 : Int64) (s0 : Int64) (s1 : Int64) (s2 : Int64) (z20 : Int32) (h0 : Heap) (n0 : Nat) (v : Option Value) (h : Heap) (L : List Loc) : Prop := v = some (.int z20) ∧ Fr n0 L ∧ h = h0
set_option maxRecDepth 65536 in
set_option maxHeartbeats 40000000 in
theorem rmBF20 (l : Launch) (Z : State) (a0 : Array Value) (hw : ∀ d ∈ tables_1, d.before a0 Z = true) (ws : List Jvm.Cond) (oa : Addr) (sa : Addr) (ko : ClassId) (ks : ClassId) (o0 : Int64) (o1 : Int64) (o2 : Int64) (s0 : Int64) (s1 : Int64) (s2 : Int64) (z20 : Int32) (h0 : Heap) (n0 : Nat) (Z0 : n0 ≤ h0.size) (f_V_oa : Arv Z h0 oa ko .long (3 : Int32) [(.long o0), (.long o1), (.long o2)] (.long (0 : Int64))) (f_V_sa : Arv Z h0 sa ks .long (3 : Int32) [(.long s0), (.long s1), (.long s2)] (.long (0 : Int64))) (hz20 : own_bf o2 s2 o0 s0 = z20) :
    MetFree l (⟨"com/example/earnest_reactor/earnestreactor/core/TimerQueuePollPinLaw", "before", "([J[JII)Z"⟩ : MethodName) (head1 (Jvm.Cond.code (⟨"com/example/earnest_reactor/earnestreactor/core/TimerQueuePollPinLaw", "before", "([J[JII)Z"⟩ : MethodName) method_3_code 4 (some .boolean) :: ws) ({ frames := 0, cells := 0, slots := 0, locals := 0 } : Room)) (fun aa U => aa = #[(.ref oa), (.ref sa), (.int (2 : Int32)), (.int (0 : Int32))] ∧ Z.Warmed39 U.vm ∧ U.heap = h0) (fun _ _ _ _ _ => True) (fun _ U oc U' => ∃ v L, oc = .returned v ∧ QBF20 Z oa sa ko ks o0 o1 o2 s0 s1 s2 z20 h0 n0 v U'.heap L ∧ FrameEnd U oc U' L ({ frames := 0, cells := 0, slots := 0, locals := 0 } : Room).cells ({ frames := 0, cells := 0, slots := 0, locals := 0 } : Room).slots) := by
  refine MetFree.of_bodySF (plainFor_of_name own_pn5) hisR ?_
  intro p e s m args below meth c s₁ Bd hml0 hP hK
  obtain ⟨rfl, hZ, hh⟩ := hP
  have hx := Bd.exec
  have hby := Bd.bytes
  have hlk := Bd.notSynchronized
  have hret := Bd.returns
  have hml : c.maxLocals = 4 := hml0
  have hown : s.vm.findClass "com/example/earnest_reactor/earnestreactor/core/TimerQueuePollPinLaw" = some m.cls := findClass_of_methodNamed Bd.named
  have hnm := (name_of_methodNamed Bd.named Bd.method).1
  have X0 : Stand p l e ({ frames := 0, cells := 0, slots := 0, locals := 0 } : Room) s m #[(.ref oa), (.ref sa), (.int (2 : Int32)), (.int (0 : Int32))] below meth c s₁ [] 0 0 := Stand.of_body Bd
  have e0 : s₁.heap = h0 := by rw [← hh, Bd.state]; rfl
  have N0 := Fr.nil n0
  refine own_body (Q := QBF20 Z oa sa ko ks o0 o1 o2 s0 s1 s2 z20 h0 n0) (KC := ({ frames := 0, cells := 0, slots := 0, locals := 0 } : Room).cells) (KS := ({ frames := 0, cells := 0, slots := 0, locals := 0 } : Room).slots) ?_
  rw [own_ef_rmBF20 m oa sa]
  refine own_aloadN X0 hx hby d15_0 (pc' := 1) rfl rfl rfl ?_
  refine own_iloadN X0 hx hby d15_1 (pc' := 2) rfl rfl ?_
  obtain ⟨cl1, Ar1, q1, S1, M1, H1, G1⟩ := id f_V_oa
  have hin1 : ¬ ((2 : Int32) < 0 ∨ cl1.slots.size ≤ ((2 : Int32)).toNatClampNeg) := inb_of S1 ⟨by decide, by decide⟩
  have hat1 : cl1.slots[((2 : Int32)).toNatClampNeg]? = some (.long o2) := H1.at hin1 rfl
  refine own_laload X0 hx hZ hby e0 Ar1 hin1 hat1 d15_2 (pc' := 3) rfl ?_
  refine own_aloadN X0 hx hby d15_3 (pc' := 4) rfl rfl rfl ?_
  refine own_iloadN X0 hx hby d15_4 (pc' := 5) rfl rfl ?_
  obtain ⟨cl2, Ar2, q2, S2, M2, H2, G2⟩ := id f_V_oa
  have hin2 : ¬ ((0 : Int32) < 0 ∨ cl2.slots.size ≤ ((0 : Int32)).toNatClampNeg) := inb_of S2 ⟨by decide, by decide⟩
  have hat2 : cl2.slots[((0 : Int32)).toNatClampNeg]? = some (.long o0) := H2.at hin2 rfl
  refine own_laload X0 hx hZ hby e0 Ar2 hin2 hat2 d15_5 (pc' := 6) rfl ?_
  refine own_lcmp X0 hx hby d15_6 (pc' := 7) rfl ?_
  refine own_ifL2 X0 hx hby d15_7 (pc1 := 30) (by decide) (by decide) (pc2 := 10) rfl (fun (hc7 : o2 < o0) => ?_) (fun (hc7 : ¬ o2 < o0) => ?_)
  · refine own_iconst X0 hx hby d15_30 (pc' := 31) rfl (n := (1 : Int32)) (by decide) ?_
    refine own_goto X0 hx hby d15_31 (pc' := 35) (by decide) (by decide) ?_
    refine own_zreturn X0 hx hlk hby hret (Or.inr rfl) d15_35 (own_lv ?_ (by decide) (by decide))
    show QBF20 Z oa sa ko ks o0 o1 o2 s0 s1 s2 z20  h0 n0 (some (.int (1 : Int32))) s₁.heap _
    rw [e0]
    exact ⟨by rw [← hz20]; simp [own_bf, hc7], N0, rfl⟩
  · refine own_aloadN X0 hx hby d15_10 (pc' := 11) rfl rfl rfl ?_
    refine own_iloadN X0 hx hby d15_11 (pc' := 12) rfl rfl ?_
    obtain ⟨cl3, Ar3, q3, S3, M3, H3, G3⟩ := id f_V_oa
    have hin3 : ¬ ((2 : Int32) < 0 ∨ cl3.slots.size ≤ ((2 : Int32)).toNatClampNeg) := inb_of S3 ⟨by decide, by decide⟩
    have hat3 : cl3.slots[((2 : Int32)).toNatClampNeg]? = some (.long o2) := H3.at hin3 rfl
    refine own_laload X0 hx hZ hby e0 Ar3 hin3 hat3 d15_12 (pc' := 13) rfl ?_
    refine own_aloadN X0 hx hby d15_13 (pc' := 14) rfl rfl rfl ?_
    refine own_iloadN X0 hx hby d15_14 (pc' := 15) rfl rfl ?_
    obtain ⟨cl4, Ar4, q4, S4, M4, H4, G4⟩ := id f_V_oa
    have hin4 : ¬ ((0 : Int32) < 0 ∨ cl4.slots.size ≤ ((0 : Int32)).toNatClampNeg) := inb_of S4 ⟨by decide, by decide⟩
    have hat4 : cl4.slots[((0 : Int32)).toNatClampNeg]? = some (.long o0) := H4.at hin4 rfl
    refine own_laload X0 hx hZ hby e0 Ar4 hin4 hat4 d15_15 (pc' := 16) rfl ?_
    refine own_lcmp X0 hx hby d15_16 (pc' := 17) rfl ?_
    refine own_ifL2 X0 hx hby d15_17 (pc1 := 34) (by decide) (by decide) (pc2 := 20) rfl (fun (hc17 : ¬ o2 = o0) => ?_) (fun (hc17 : o2 = o0) => ?_)
    · refine own_iconst X0 hx hby d15_34 (pc' := 35) rfl (n := (0 : Int32)) (by decide) ?_
      refine own_zreturn X0 hx hlk hby hret (Or.inl rfl) d15_35 (own_lv ?_ (by decide) (by decide))
      show QBF20 Z oa sa ko ks o0 o1 o2 s0 s1 s2 z20  h0 n0 (some (.int (0 : Int32))) s₁.heap _
      rw [e0]
      exact ⟨by rw [← hz20]; simp [own_bf, hc7, hc17], N0, rfl⟩
    · refine own_aloadN X0 hx hby d15_20 (pc' := 21) rfl rfl rfl ?_
      refine own_iloadN X0 hx hby d15_21 (pc' := 22) rfl rfl ?_
      obtain ⟨cl5, Ar5, q5, S5, M5, H5, G5⟩ := id f_V_sa
      have hin5 : ¬ ((2 : Int32) < 0 ∨ cl5.slots.size ≤ ((2 : Int32)).toNatClampNeg) := inb_of S5 ⟨by decide, by decide⟩
      have hat5 : cl5.slots[((2 : Int32)).toNatClampNeg]? = some (.long s2) := H5.at hin5 rfl
      refine own_laload X0 hx hZ hby e0 Ar5 hin5 hat5 d15_22 (pc' := 23) rfl ?_
      refine own_aloadN X0 hx hby d15_23 (pc' := 24) rfl rfl rfl ?_
      refine own_iloadN X0 hx hby d15_24 (pc' := 25) rfl rfl ?_
      obtain ⟨cl6, Ar6, q6, S6, M6, H6, G6⟩ := id f_V_sa
      have hin6 : ¬ ((0 : Int32) < 0 ∨ cl6.slots.size ≤ ((0 : Int32)).toNatClampNeg) := inb_of S6 ⟨by decide, by decide⟩
      have hat6 : cl6.slots[((0 : Int32)).toNatClampNeg]? = some (.long s0) := H6.at hin6 rfl
      refine own_laload X0 hx hZ hby e0 Ar6 hin6 hat6 d15_25 (pc' := 26) rfl ?_
      refine own_lcmp X0 hx hby d15_26 (pc' := 27) rfl ?_
      refine own_ifL2 X0 hx hby d15_27 (pc1 := 34) (by decide) (by decide) (pc2 := 30) rfl (fun (hc27 : ¬ s2 < s0) => ?_) (fun (hc27 : s2 < s0) => ?_)
      · refine own_iconst X0 hx hby d15_34 (pc' := 35) rfl (n := (0 : Int32)) (by decide) ?_
        refine own_zreturn X0 hx hlk hby hret (Or.inl rfl) d15_35 (own_lv ?_ (by decide) (by decide))
        show QBF20 Z oa sa ko ks o0 o1 o2 s0 s1 s2 z20  h0 n0 (some (.int (0 : Int32))) s₁.heap _
        rw [e0]
        exact ⟨by rw [← hz20]; simp [own_bf, hc7, hc17, hc27], N0, rfl⟩
      · refine own_iconst X0 hx hby d15_30 (pc' := 31) rfl (n := (1 : Int32)) (by decide) ?_
        refine own_goto X0 hx hby d15_31 (pc' := 35) (by decide) (by decide) ?_
        refine own_zreturn X0 hx hlk hby hret (Or.inr rfl) d15_35 (own_lv ?_ (by decide) (by decide))
        show QBF20 Z oa sa ko ks o0 o1 o2 s0 s1 s2 z20  h0 n0 (some (.int (1 : Int32))) s₁.heap _
        rw [e0]
        exact ⟨by rw [← hz20]; simp [own_bf, hc7, hc17, hc27], N0, rfl⟩
theorem own_ef_rmBF21 (m : MethodId) (oa : Addr) (sa : Addr)  : entryFrame m #[(.ref oa), (.ref sa), (.int (2 : Int32)), (.int (1 : Int32))] 4 = mkF m 0 #[.val (.ref oa), .val (.ref sa), .val (.int (2 : Int32)), .val (.int (1 : Int32))] [] := by first | (simp [entryFrame, mkF, argsToLocals, Value.category]; done) | rfl
def QBF21 (Z : State) (oa : Addr) (sa : Addr) (ko : ClassId) (ks : ClassId) (o0 : Int64) (o1 : Int64) (o2 : Int64) (s0 : Int64) (s1 : Int64) (s2 : Int64) (z21 : Int32) (h0 : Heap) (n0 : Nat) (v : Option Value) (h : Heap) (L : List Loc) : Prop := v = some (.int z21) ∧ Fr n0 L ∧ h = h0
set_option maxRecDepth 65536 in
set_option maxHeartbeats 40000000 in
theorem rmBF21 (l : Launch) (Z : State) (a0 : Array Value) (hw : ∀ d ∈ tables_1, d.before a0 Z = true) (ws : List Jvm.Cond) (oa : Addr) (sa : Addr) (ko : ClassId) (ks : ClassId) (o0 : Int64) (o1 : Int64) (o2 : Int64) (s0 : Int64) (s1 : Int64) (s2 : Int64) (z21 : Int32) (h0 : Heap) (n0 : Nat) (Z0 : n0 ≤ h0.size) (f_V_oa : Arv Z h0 oa ko .long (3 : Int32) [(.long o0), (.long o1), (.long o2)] (.long (0 : Int64))) (f_V_sa : Arv Z h0 sa ks .long (3 : Int32) [(.long s0), (.long s1), (.long s2)] (.long (0 : Int64))) (hz21 : own_bf o2 s2 o1 s1 = z21) :
    MetFree l (⟨"com/example/earnest_reactor/earnestreactor/core/TimerQueuePollPinLaw", "before", "([J[JII)Z"⟩ : MethodName) (head1 (Jvm.Cond.code (⟨"com/example/earnest_reactor/earnestreactor/core/TimerQueuePollPinLaw", "before", "([J[JII)Z"⟩ : MethodName) method_3_code 4 (some .boolean) :: ws) ({ frames := 0, cells := 0, slots := 0, locals := 0 } : Room)) (fun aa U => aa = #[(.ref oa), (.ref sa), (.int (2 : Int32)), (.int (1 : Int32))] ∧ Z.Warmed39 U.vm ∧ U.heap = h0) (fun _ _ _ _ _ => True) (fun _ U oc U' => ∃ v L, oc = .returned v ∧ QBF21 Z oa sa ko ks o0 o1 o2 s0 s1 s2 z21 h0 n0 v U'.heap L ∧ FrameEnd U oc U' L ({ frames := 0, cells := 0, slots := 0, locals := 0 } : Room).cells ({ frames := 0, cells := 0, slots := 0, locals := 0 } : Room).slots) := by
  refine MetFree.of_bodySF (plainFor_of_name own_pn5) hisR ?_
  intro p e s m args below meth c s₁ Bd hml0 hP hK
  obtain ⟨rfl, hZ, hh⟩ := hP
  have hx := Bd.exec
  have hby := Bd.bytes
  have hlk := Bd.notSynchronized
  have hret := Bd.returns
  have hml : c.maxLocals = 4 := hml0
  have hown : s.vm.findClass "com/example/earnest_reactor/earnestreactor/core/TimerQueuePollPinLaw" = some m.cls := findClass_of_methodNamed Bd.named
  have hnm := (name_of_methodNamed Bd.named Bd.method).1
  have X0 : Stand p l e ({ frames := 0, cells := 0, slots := 0, locals := 0 } : Room) s m #[(.ref oa), (.ref sa), (.int (2 : Int32)), (.int (1 : Int32))] below meth c s₁ [] 0 0 := Stand.of_body Bd
  have e0 : s₁.heap = h0 := by rw [← hh, Bd.state]; rfl
  have N0 := Fr.nil n0
  refine own_body (Q := QBF21 Z oa sa ko ks o0 o1 o2 s0 s1 s2 z21 h0 n0) (KC := ({ frames := 0, cells := 0, slots := 0, locals := 0 } : Room).cells) (KS := ({ frames := 0, cells := 0, slots := 0, locals := 0 } : Room).slots) ?_
  rw [own_ef_rmBF21 m oa sa]
  refine own_aloadN X0 hx hby d15_0 (pc' := 1) rfl rfl rfl ?_
  refine own_iloadN X0 hx hby d15_1 (pc' := 2) rfl rfl ?_
  obtain ⟨cl1, Ar1, q1, S1, M1, H1, G1⟩ := id f_V_oa
  have hin1 : ¬ ((2 : Int32) < 0 ∨ cl1.slots.size ≤ ((2 : Int32)).toNatClampNeg) := inb_of S1 ⟨by decide, by decide⟩
  have hat1 : cl1.slots[((2 : Int32)).toNatClampNeg]? = some (.long o2) := H1.at hin1 rfl
  refine own_laload X0 hx hZ hby e0 Ar1 hin1 hat1 d15_2 (pc' := 3) rfl ?_
  refine own_aloadN X0 hx hby d15_3 (pc' := 4) rfl rfl rfl ?_
  refine own_iloadN X0 hx hby d15_4 (pc' := 5) rfl rfl ?_
  obtain ⟨cl2, Ar2, q2, S2, M2, H2, G2⟩ := id f_V_oa
  have hin2 : ¬ ((1 : Int32) < 0 ∨ cl2.slots.size ≤ ((1 : Int32)).toNatClampNeg) := inb_of S2 ⟨by decide, by decide⟩
  have hat2 : cl2.slots[((1 : Int32)).toNatClampNeg]? = some (.long o1) := H2.at hin2 rfl
  refine own_laload X0 hx hZ hby e0 Ar2 hin2 hat2 d15_5 (pc' := 6) rfl ?_
  refine own_lcmp X0 hx hby d15_6 (pc' := 7) rfl ?_
  refine own_ifL2 X0 hx hby d15_7 (pc1 := 30) (by decide) (by decide) (pc2 := 10) rfl (fun (hc7 : o2 < o1) => ?_) (fun (hc7 : ¬ o2 < o1) => ?_)
  · refine own_iconst X0 hx hby d15_30 (pc' := 31) rfl (n := (1 : Int32)) (by decide) ?_
    refine own_goto X0 hx hby d15_31 (pc' := 35) (by decide) (by decide) ?_
    refine own_zreturn X0 hx hlk hby hret (Or.inr rfl) d15_35 (own_lv ?_ (by decide) (by decide))
    show QBF21 Z oa sa ko ks o0 o1 o2 s0 s1 s2 z21  h0 n0 (some (.int (1 : Int32))) s₁.heap _
    rw [e0]
    exact ⟨by rw [← hz21]; simp [own_bf, hc7], N0, rfl⟩
  · refine own_aloadN X0 hx hby d15_10 (pc' := 11) rfl rfl rfl ?_
    refine own_iloadN X0 hx hby d15_11 (pc' := 12) rfl rfl ?_
    obtain ⟨cl3, Ar3, q3, S3, M3, H3, G3⟩ := id f_V_oa
    have hin3 : ¬ ((2 : Int32) < 0 ∨ cl3.slots.size ≤ ((2 : Int32)).toNatClampNeg) := inb_of S3 ⟨by decide, by decide⟩
    have hat3 : cl3.slots[((2 : Int32)).toNatClampNeg]? = some (.long o2) := H3.at hin3 rfl
    refine own_laload X0 hx hZ hby e0 Ar3 hin3 hat3 d15_12 (pc' := 13) rfl ?_
    refine own_aloadN X0 hx hby d15_13 (pc' := 14) rfl rfl rfl ?_
    refine own_iloadN X0 hx hby d15_14 (pc' := 15) rfl rfl ?_
    obtain ⟨cl4, Ar4, q4, S4, M4, H4, G4⟩ := id f_V_oa
    have hin4 : ¬ ((1 : Int32) < 0 ∨ cl4.slots.size ≤ ((1 : Int32)).toNatClampNeg) := inb_of S4 ⟨by decide, by decide⟩
    have hat4 : cl4.slots[((1 : Int32)).toNatClampNeg]? = some (.long o1) := H4.at hin4 rfl
    refine own_laload X0 hx hZ hby e0 Ar4 hin4 hat4 d15_15 (pc' := 16) rfl ?_
    refine own_lcmp X0 hx hby d15_16 (pc' := 17) rfl ?_
    refine own_ifL2 X0 hx hby d15_17 (pc1 := 34) (by decide) (by decide) (pc2 := 20) rfl (fun (hc17 : ¬ o2 = o1) => ?_) (fun (hc17 : o2 = o1) => ?_)
    · refine own_iconst X0 hx hby d15_34 (pc' := 35) rfl (n := (0 : Int32)) (by decide) ?_
      refine own_zreturn X0 hx hlk hby hret (Or.inl rfl) d15_35 (own_lv ?_ (by decide) (by decide))
      show QBF21 Z oa sa ko ks o0 o1 o2 s0 s1 s2 z21  h0 n0 (some (.int (0 : Int32))) s₁.heap _
      rw [e0]
      exact ⟨by rw [← hz21]; simp [own_bf, hc7, hc17], N0, rfl⟩
    · refine own_aloadN X0 hx hby d15_20 (pc' := 21) rfl rfl rfl ?_
      refine own_iloadN X0 hx hby d15_21 (pc' := 22) rfl rfl ?_
      obtain ⟨cl5, Ar5, q5, S5, M5, H5, G5⟩ := id f_V_sa
      have hin5 : ¬ ((2 : Int32) < 0 ∨ cl5.slots.size ≤ ((2 : Int32)).toNatClampNeg) := inb_of S5 ⟨by decide, by decide⟩
      have hat5 : cl5.slots[((2 : Int32)).toNatClampNeg]? = some (.long s2) := H5.at hin5 rfl
      refine own_laload X0 hx hZ hby e0 Ar5 hin5 hat5 d15_22 (pc' := 23) rfl ?_
      refine own_aloadN X0 hx hby d15_23 (pc' := 24) rfl rfl rfl ?_
      refine own_iloadN X0 hx hby d15_24 (pc' := 25) rfl rfl ?_
      obtain ⟨cl6, Ar6, q6, S6, M6, H6, G6⟩ := id f_V_sa
      have hin6 : ¬ ((1 : Int32) < 0 ∨ cl6.slots.size ≤ ((1 : Int32)).toNatClampNeg) := inb_of S6 ⟨by decide, by decide⟩
      have hat6 : cl6.slots[((1 : Int32)).toNatClampNeg]? = some (.long s1) := H6.at hin6 rfl
      refine own_laload X0 hx hZ hby e0 Ar6 hin6 hat6 d15_25 (pc' := 26) rfl ?_
      refine own_lcmp X0 hx hby d15_26 (pc' := 27) rfl ?_
      refine own_ifL2 X0 hx hby d15_27 (pc1 := 34) (by decide) (by decide) (pc2 := 30) rfl (fun (hc27 : ¬ s2 < s1) => ?_) (fun (hc27 : s2 < s1) => ?_)
      · refine own_iconst X0 hx hby d15_34 (pc' := 35) rfl (n := (0 : Int32)) (by decide) ?_
        refine own_zreturn X0 hx hlk hby hret (Or.inl rfl) d15_35 (own_lv ?_ (by decide) (by decide))
        show QBF21 Z oa sa ko ks o0 o1 o2 s0 s1 s2 z21  h0 n0 (some (.int (0 : Int32))) s₁.heap _
        rw [e0]
        exact ⟨by rw [← hz21]; simp [own_bf, hc7, hc17, hc27], N0, rfl⟩
      · refine own_iconst X0 hx hby d15_30 (pc' := 31) rfl (n := (1 : Int32)) (by decide) ?_
        refine own_goto X0 hx hby d15_31 (pc' := 35) (by decide) (by decide) ?_
        refine own_zreturn X0 hx hlk hby hret (Or.inr rfl) d15_35 (own_lv ?_ (by decide) (by decide))
        show QBF21 Z oa sa ko ks o0 o1 o2 s0 s1 s2 z21  h0 n0 (some (.int (1 : Int32))) s₁.heap _
        rw [e0]
        exact ⟨by rw [← hz21]; simp [own_bf, hc7, hc17, hc27], N0, rfl⟩
theorem own_ef_rmRK10 (m : MethodId) (oa : Addr) (sa : Addr)  : entryFrame m #[(.ref oa), (.ref sa), (.int (1 : Int32)), (.int (0 : Int32))] 5 = mkF m 0 #[.val (.ref oa), .val (.ref sa), .val (.int (1 : Int32)), .val (.int (0 : Int32)), .unset] [] := by first | (simp [entryFrame, mkF, argsToLocals, Value.category]; done) | rfl
def QRK10 (Z : State) (oa : Addr) (sa : Addr) (ko : ClassId) (ks : ClassId) (o0 : Int64) (o1 : Int64) (o2 : Int64) (s0 : Int64) (s1 : Int64) (s2 : Int64) (h0 : Heap) (n0 : Nat) (v : Option Value) (h : Heap) (L : List Loc) : Prop := v = some (.int ((0 : Int32))) ∧ Fr n0 L ∧ h = h0
set_option maxRecDepth 65536 in
set_option maxHeartbeats 40000000 in
theorem rmRK10 (l : Launch) (Z : State) (a0 : Array Value) (hw : ∀ d ∈ tables_1, d.before a0 Z = true) (ws : List Jvm.Cond) (oa : Addr) (sa : Addr) (ko : ClassId) (ks : ClassId) (o0 : Int64) (o1 : Int64) (o2 : Int64) (s0 : Int64) (s1 : Int64) (s2 : Int64) (h0 : Heap) (n0 : Nat) (Z0 : n0 ≤ h0.size) (f_V_oa : Arv Z h0 oa ko .long (3 : Int32) [(.long o0), (.long o1), (.long o2)] (.long (0 : Int64))) (f_V_sa : Arv Z h0 sa ks .long (3 : Int32) [(.long s0), (.long s1), (.long s2)] (.long (0 : Int64))) :
    MetFree l (⟨"com/example/earnest_reactor/earnestreactor/core/TimerQueuePollPinLaw", "rank", "([J[JII)I"⟩ : MethodName) (head1 (Jvm.Cond.code (⟨"com/example/earnest_reactor/earnestreactor/core/TimerQueuePollPinLaw", "rank", "([J[JII)I"⟩ : MethodName) method_4_code 5 (some .int) :: ws) ({ frames := 0, cells := 0, slots := 0, locals := 0 } : Room)) (fun aa U => aa = #[(.ref oa), (.ref sa), (.int (1 : Int32)), (.int (0 : Int32))] ∧ Z.Warmed39 U.vm ∧ U.heap = h0) (fun _ _ _ _ _ => True) (fun _ U oc U' => ∃ v L, oc = .returned v ∧ QRK10 Z oa sa ko ks o0 o1 o2 s0 s1 s2 h0 n0 v U'.heap L ∧ FrameEnd U oc U' L ({ frames := 0, cells := 0, slots := 0, locals := 0 } : Room).cells ({ frames := 0, cells := 0, slots := 0, locals := 0 } : Room).slots) := by
  refine MetFree.of_bodySF (plainFor_of_name own_pn5) hisR ?_
  intro p e s m args below meth c s₁ Bd hml0 hP hK
  obtain ⟨rfl, hZ, hh⟩ := hP
  have hx := Bd.exec
  have hby := Bd.bytes
  have hlk := Bd.notSynchronized
  have hret := Bd.returns
  have hml : c.maxLocals = 5 := hml0
  have hown : s.vm.findClass "com/example/earnest_reactor/earnestreactor/core/TimerQueuePollPinLaw" = some m.cls := findClass_of_methodNamed Bd.named
  have hnm := (name_of_methodNamed Bd.named Bd.method).1
  have X0 : Stand p l e ({ frames := 0, cells := 0, slots := 0, locals := 0 } : Room) s m #[(.ref oa), (.ref sa), (.int (1 : Int32)), (.int (0 : Int32))] below meth c s₁ [] 0 0 := Stand.of_body Bd
  have e0 : s₁.heap = h0 := by rw [← hh, Bd.state]; rfl
  have N0 := Fr.nil n0
  refine own_body (Q := QRK10 Z oa sa ko ks o0 o1 o2 s0 s1 s2 h0 n0) (KC := ({ frames := 0, cells := 0, slots := 0, locals := 0 } : Room).cells) (KS := ({ frames := 0, cells := 0, slots := 0, locals := 0 } : Room).slots) ?_
  rw [own_ef_rmRK10 m oa sa]
  refine own_iconst X0 hx hby d11_0 (pc' := 1) rfl (n := (0 : Int32)) (by decide) ?_
  refine own_istore X0 hx hby d11_1 (pc' := 3) rfl (l' := #[.val (.ref oa), .val (.ref sa), .val (.int (1 : Int32)), .val (.int (0 : Int32)), .val (.int (0 : Int32))]) rfl ?_
  refine own_iconst X0 hx hby d11_3 (pc' := 4) rfl (n := (0 : Int32)) (by decide) ?_
  refine own_iloadN X0 hx hby d11_4 (pc' := 5) rfl rfl ?_
  refine own_icN X0 hx hby d11_5 (pc' := 8) rfl (show (0 : Int32) < (1 : Int32) by decide) ?_
  refine own_iloadN X0 hx hby d11_8 (pc' := 9) rfl rfl ?_
  refine own_ifY X0 hx hby d11_9 (pc' := 25) (by decide) (by decide) (show (0 : Int32) = (0 : Int32) by decide) ?_
  refine own_iconst X0 hx hby d11_25 (pc' := 26) rfl (n := (1 : Int32)) (by decide) ?_
  refine own_iloadN X0 hx hby d11_26 (pc' := 27) rfl rfl ?_
  refine own_icY X0 hx hby d11_27 (pc' := 48) (by decide) (by decide) (show ¬ (1 : Int32) < (1 : Int32) by decide) ?_
  refine own_iconst X0 hx hby d11_48 (pc' := 49) rfl (n := (2 : Int32)) (by decide) ?_
  refine own_iloadN X0 hx hby d11_49 (pc' := 50) rfl rfl ?_
  refine own_icY X0 hx hby d11_50 (pc' := 71) (by decide) (by decide) (show ¬ (2 : Int32) < (1 : Int32) by decide) ?_
  refine own_iload X0 hx hby d11_71 (pc' := 73) rfl rfl ?_
  refine own_ireturn X0 hx hlk hby hret d11_73 (own_lv ?_ (by decide) (by decide))
  show QRK10 Z oa sa ko ks o0 o1 o2 s0 s1 s2  h0 n0 (some (.int (0 : Int32))) s₁.heap _
  rw [e0]
  exact ⟨by simp [own_n1], N0, rfl⟩
theorem own_ef_rmRK20 (m : MethodId) (oa : Addr) (sa : Addr)  : entryFrame m #[(.ref oa), (.ref sa), (.int (2 : Int32)), (.int (0 : Int32))] 5 = mkF m 0 #[.val (.ref oa), .val (.ref sa), .val (.int (2 : Int32)), .val (.int (0 : Int32)), .unset] [] := by first | (simp [entryFrame, mkF, argsToLocals, Value.category]; done) | rfl
def QRK20 (Z : State) (oa : Addr) (sa : Addr) (ko : ClassId) (ks : ClassId) (o0 : Int64) (o1 : Int64) (o2 : Int64) (s0 : Int64) (s1 : Int64) (s2 : Int64) (z10 : Int32) (h0 : Heap) (n0 : Nat) (v : Option Value) (h : Heap) (L : List Loc) : Prop := v = some (.int (own_n1 z10)) ∧ Fr n0 L ∧ h = h0
set_option maxRecDepth 65536 in
set_option maxHeartbeats 40000000 in
theorem rmRK20 (l : Launch) (Z : State) (a0 : Array Value) (hw : ∀ d ∈ tables_1, d.before a0 Z = true) (ws : List Jvm.Cond) (oa : Addr) (sa : Addr) (ko : ClassId) (ks : ClassId) (o0 : Int64) (o1 : Int64) (o2 : Int64) (s0 : Int64) (s1 : Int64) (s2 : Int64) (z10 : Int32) (h0 : Heap) (n0 : Nat) (Z0 : n0 ≤ h0.size) (f_V_oa : Arv Z h0 oa ko .long (3 : Int32) [(.long o0), (.long o1), (.long o2)] (.long (0 : Int64))) (f_V_sa : Arv Z h0 sa ks .long (3 : Int32) [(.long s0), (.long s1), (.long s2)] (.long (0 : Int64))) (hz10 : own_bf o1 s1 o0 s0 = z10) :
    MetFree l (⟨"com/example/earnest_reactor/earnestreactor/core/TimerQueuePollPinLaw", "rank", "([J[JII)I"⟩ : MethodName) (head1 (Jvm.Cond.code (⟨"com/example/earnest_reactor/earnestreactor/core/TimerQueuePollPinLaw", "rank", "([J[JII)I"⟩ : MethodName) method_4_code 5 (some .int) :: ws) ({ frames := 1, cells := 0, slots := 0, locals := 15 } : Room)) (fun aa U => aa = #[(.ref oa), (.ref sa), (.int (2 : Int32)), (.int (0 : Int32))] ∧ Z.Warmed39 U.vm ∧ U.heap = h0) (fun _ _ _ _ _ => True) (fun _ U oc U' => ∃ v L, oc = .returned v ∧ QRK20 Z oa sa ko ks o0 o1 o2 s0 s1 s2 z10 h0 n0 v U'.heap L ∧ FrameEnd U oc U' L ({ frames := 1, cells := 0, slots := 0, locals := 15 } : Room).cells ({ frames := 1, cells := 0, slots := 0, locals := 15 } : Room).slots) := by
  refine MetFree.of_bodySF (plainFor_of_name own_pn5) hisR ?_
  intro p e s m args below meth c s₁ Bd hml0 hP hK
  obtain ⟨rfl, hZ, hh⟩ := hP
  have hx := Bd.exec
  have hby := Bd.bytes
  have hlk := Bd.notSynchronized
  have hret := Bd.returns
  have hml : c.maxLocals = 5 := hml0
  have hown : s.vm.findClass "com/example/earnest_reactor/earnestreactor/core/TimerQueuePollPinLaw" = some m.cls := findClass_of_methodNamed Bd.named
  have hnm := (name_of_methodNamed Bd.named Bd.method).1
  have X0 : Stand p l e ({ frames := 1, cells := 0, slots := 0, locals := 15 } : Room) s m #[(.ref oa), (.ref sa), (.int (2 : Int32)), (.int (0 : Int32))] below meth c s₁ [] 0 0 := Stand.of_body Bd
  have e0 : s₁.heap = h0 := by rw [← hh, Bd.state]; rfl
  have N0 := Fr.nil n0
  refine own_body (Q := QRK20 Z oa sa ko ks o0 o1 o2 s0 s1 s2 z10 h0 n0) (KC := ({ frames := 1, cells := 0, slots := 0, locals := 15 } : Room).cells) (KS := ({ frames := 1, cells := 0, slots := 0, locals := 15 } : Room).slots) ?_
  rw [own_ef_rmRK20 m oa sa]
  refine own_iconst X0 hx hby d11_0 (pc' := 1) rfl (n := (0 : Int32)) (by decide) ?_
  refine own_istore X0 hx hby d11_1 (pc' := 3) rfl (l' := #[.val (.ref oa), .val (.ref sa), .val (.int (2 : Int32)), .val (.int (0 : Int32)), .val (.int (0 : Int32))]) rfl ?_
  refine own_iconst X0 hx hby d11_3 (pc' := 4) rfl (n := (0 : Int32)) (by decide) ?_
  refine own_iloadN X0 hx hby d11_4 (pc' := 5) rfl rfl ?_
  refine own_icN X0 hx hby d11_5 (pc' := 8) rfl (show (0 : Int32) < (2 : Int32) by decide) ?_
  refine own_iloadN X0 hx hby d11_8 (pc' := 9) rfl rfl ?_
  refine own_ifY X0 hx hby d11_9 (pc' := 25) (by decide) (by decide) (show (0 : Int32) = (0 : Int32) by decide) ?_
  refine own_iconst X0 hx hby d11_25 (pc' := 26) rfl (n := (1 : Int32)) (by decide) ?_
  refine own_iloadN X0 hx hby d11_26 (pc' := 27) rfl rfl ?_
  refine own_icN X0 hx hby d11_27 (pc' := 30) rfl (show (1 : Int32) < (2 : Int32) by decide) ?_
  refine own_iloadN X0 hx hby d11_30 (pc' := 31) rfl rfl ?_
  refine own_iconst X0 hx hby d11_31 (pc' := 32) rfl (n := (1 : Int32)) (by decide) ?_
  refine own_icN X0 hx hby d11_32 (pc' := 35) rfl (show ¬ (0 : Int32) = (1 : Int32) by decide) ?_
  refine own_aloadN X0 hx hby d11_35 (pc' := 36) rfl rfl rfl ?_
  refine own_aloadN X0 hx hby d11_36 (pc' := 37) rfl rfl rfl ?_
  refine own_iconst X0 hx hby d11_37 (pc' := 38) rfl (n := (1 : Int32)) (by decide) ?_
  refine own_iloadN X0 hx hby d11_38 (pc' := 39) rfl rfl ?_
  refine own_lk6 hw X0 hx hZ hby (by rw [hml]; rfl) hown d11_39 (pc' := 42) rfl e0 (W := 0) (Nat.le_of_eq rfl) (rmBF10 l Z a0 hw [] oa sa ko ks o0 o1 o2 s0 s1 s2 z10 h0 n0 Z0 f_V_oa f_V_sa hz10) (by decide) (by decide) (by decide) (by decide) (fun v1 T1 L1 X1 hQ1 => ?_)
  obtain ⟨rfl, Nq1, e1⟩ := hQ1
  have N1 := Fr.app N0 Nq1
  show own_End p e below _ (T1.setTop (mkF m 42 _ [(.int z10)]))
  refine own_if2 X1 hx hby d11_42 (pc1 := 48) (by decide) (by decide) (pc2 := 45) rfl (fun (hc42 : z10 = (0 : Int32)) => ?_) (fun (hc42 : ¬ z10 = (0 : Int32)) => ?_)
  · refine own_iconst X1 hx hby d11_48 (pc' := 49) rfl (n := (2 : Int32)) (by decide) ?_
    refine own_iloadN X1 hx hby d11_49 (pc' := 50) rfl rfl ?_
    refine own_icY X1 hx hby d11_50 (pc' := 71) (by decide) (by decide) (show ¬ (2 : Int32) < (2 : Int32) by decide) ?_
    refine own_iload X1 hx hby d11_71 (pc' := 73) rfl rfl ?_
    refine own_ireturn X1 hx hlk hby hret d11_73 (own_lv ?_ (by decide) (by decide))
    show QRK20 Z oa sa ko ks o0 o1 o2 s0 s1 s2 z10  h0 n0 (some (.int (0 : Int32))) T1.heap _
    rw [e1]
    exact ⟨by simp [own_n1, hc42], N1, rfl⟩
  · refine own_iinc X1 hx hby d11_45 (pc' := 48) rfl rfl (y := (1 : Int32)) (by decide) (l' := #[.val (.ref oa), .val (.ref sa), .val (.int (2 : Int32)), .val (.int (0 : Int32)), .val (.int (1 : Int32))]) rfl ?_
    refine own_iconst X1 hx hby d11_48 (pc' := 49) rfl (n := (2 : Int32)) (by decide) ?_
    refine own_iloadN X1 hx hby d11_49 (pc' := 50) rfl rfl ?_
    refine own_icY X1 hx hby d11_50 (pc' := 71) (by decide) (by decide) (show ¬ (2 : Int32) < (2 : Int32) by decide) ?_
    refine own_iload X1 hx hby d11_71 (pc' := 73) rfl rfl ?_
    refine own_ireturn X1 hx hlk hby hret d11_73 (own_lv ?_ (by decide) (by decide))
    show QRK20 Z oa sa ko ks o0 o1 o2 s0 s1 s2 z10  h0 n0 (some (.int (1 : Int32))) T1.heap _
    rw [e1]
    exact ⟨by simp [own_n1, hc42], N1, rfl⟩
theorem own_ef_rmRK21 (m : MethodId) (oa : Addr) (sa : Addr)  : entryFrame m #[(.ref oa), (.ref sa), (.int (2 : Int32)), (.int (1 : Int32))] 5 = mkF m 0 #[.val (.ref oa), .val (.ref sa), .val (.int (2 : Int32)), .val (.int (1 : Int32)), .unset] [] := by first | (simp [entryFrame, mkF, argsToLocals, Value.category]; done) | rfl
def QRK21 (Z : State) (oa : Addr) (sa : Addr) (ko : ClassId) (ks : ClassId) (o0 : Int64) (o1 : Int64) (o2 : Int64) (s0 : Int64) (s1 : Int64) (s2 : Int64) (z01 : Int32) (h0 : Heap) (n0 : Nat) (v : Option Value) (h : Heap) (L : List Loc) : Prop := v = some (.int (own_n1 z01)) ∧ Fr n0 L ∧ h = h0
set_option maxRecDepth 65536 in
set_option maxHeartbeats 40000000 in
theorem rmRK21 (l : Launch) (Z : State) (a0 : Array Value) (hw : ∀ d ∈ tables_1, d.before a0 Z = true) (ws : List Jvm.Cond) (oa : Addr) (sa : Addr) (ko : ClassId) (ks : ClassId) (o0 : Int64) (o1 : Int64) (o2 : Int64) (s0 : Int64) (s1 : Int64) (s2 : Int64) (z01 : Int32) (h0 : Heap) (n0 : Nat) (Z0 : n0 ≤ h0.size) (f_V_oa : Arv Z h0 oa ko .long (3 : Int32) [(.long o0), (.long o1), (.long o2)] (.long (0 : Int64))) (f_V_sa : Arv Z h0 sa ks .long (3 : Int32) [(.long s0), (.long s1), (.long s2)] (.long (0 : Int64))) (hz01 : own_bf o0 s0 o1 s1 = z01) :
    MetFree l (⟨"com/example/earnest_reactor/earnestreactor/core/TimerQueuePollPinLaw", "rank", "([J[JII)I"⟩ : MethodName) (head1 (Jvm.Cond.code (⟨"com/example/earnest_reactor/earnestreactor/core/TimerQueuePollPinLaw", "rank", "([J[JII)I"⟩ : MethodName) method_4_code 5 (some .int) :: ws) ({ frames := 1, cells := 0, slots := 0, locals := 15 } : Room)) (fun aa U => aa = #[(.ref oa), (.ref sa), (.int (2 : Int32)), (.int (1 : Int32))] ∧ Z.Warmed39 U.vm ∧ U.heap = h0) (fun _ _ _ _ _ => True) (fun _ U oc U' => ∃ v L, oc = .returned v ∧ QRK21 Z oa sa ko ks o0 o1 o2 s0 s1 s2 z01 h0 n0 v U'.heap L ∧ FrameEnd U oc U' L ({ frames := 1, cells := 0, slots := 0, locals := 15 } : Room).cells ({ frames := 1, cells := 0, slots := 0, locals := 15 } : Room).slots) := by
  refine MetFree.of_bodySF (plainFor_of_name own_pn5) hisR ?_
  intro p e s m args below meth c s₁ Bd hml0 hP hK
  obtain ⟨rfl, hZ, hh⟩ := hP
  have hx := Bd.exec
  have hby := Bd.bytes
  have hlk := Bd.notSynchronized
  have hret := Bd.returns
  have hml : c.maxLocals = 5 := hml0
  have hown : s.vm.findClass "com/example/earnest_reactor/earnestreactor/core/TimerQueuePollPinLaw" = some m.cls := findClass_of_methodNamed Bd.named
  have hnm := (name_of_methodNamed Bd.named Bd.method).1
  have X0 : Stand p l e ({ frames := 1, cells := 0, slots := 0, locals := 15 } : Room) s m #[(.ref oa), (.ref sa), (.int (2 : Int32)), (.int (1 : Int32))] below meth c s₁ [] 0 0 := Stand.of_body Bd
  have e0 : s₁.heap = h0 := by rw [← hh, Bd.state]; rfl
  have N0 := Fr.nil n0
  refine own_body (Q := QRK21 Z oa sa ko ks o0 o1 o2 s0 s1 s2 z01 h0 n0) (KC := ({ frames := 1, cells := 0, slots := 0, locals := 15 } : Room).cells) (KS := ({ frames := 1, cells := 0, slots := 0, locals := 15 } : Room).slots) ?_
  rw [own_ef_rmRK21 m oa sa]
  refine own_iconst X0 hx hby d11_0 (pc' := 1) rfl (n := (0 : Int32)) (by decide) ?_
  refine own_istore X0 hx hby d11_1 (pc' := 3) rfl (l' := #[.val (.ref oa), .val (.ref sa), .val (.int (2 : Int32)), .val (.int (1 : Int32)), .val (.int (0 : Int32))]) rfl ?_
  refine own_iconst X0 hx hby d11_3 (pc' := 4) rfl (n := (0 : Int32)) (by decide) ?_
  refine own_iloadN X0 hx hby d11_4 (pc' := 5) rfl rfl ?_
  refine own_icN X0 hx hby d11_5 (pc' := 8) rfl (show (0 : Int32) < (2 : Int32) by decide) ?_
  refine own_iloadN X0 hx hby d11_8 (pc' := 9) rfl rfl ?_
  refine own_ifN X0 hx hby d11_9 (pc' := 12) rfl (show ¬ (1 : Int32) = (0 : Int32) by decide) ?_
  refine own_aloadN X0 hx hby d11_12 (pc' := 13) rfl rfl rfl ?_
  refine own_aloadN X0 hx hby d11_13 (pc' := 14) rfl rfl rfl ?_
  refine own_iconst X0 hx hby d11_14 (pc' := 15) rfl (n := (0 : Int32)) (by decide) ?_
  refine own_iloadN X0 hx hby d11_15 (pc' := 16) rfl rfl ?_
  refine own_lk6 hw X0 hx hZ hby (by rw [hml]; rfl) hown d11_16 (pc' := 19) rfl e0 (W := 0) (Nat.le_of_eq rfl) (rmBF01 l Z a0 hw [] oa sa ko ks o0 o1 o2 s0 s1 s2 z01 h0 n0 Z0 f_V_oa f_V_sa hz01) (by decide) (by decide) (by decide) (by decide) (fun v1 T1 L1 X1 hQ1 => ?_)
  obtain ⟨rfl, Nq1, e1⟩ := hQ1
  have N1 := Fr.app N0 Nq1
  show own_End p e below _ (T1.setTop (mkF m 19 _ [(.int z01)]))
  refine own_if2 X1 hx hby d11_19 (pc1 := 25) (by decide) (by decide) (pc2 := 22) rfl (fun (hc19 : z01 = (0 : Int32)) => ?_) (fun (hc19 : ¬ z01 = (0 : Int32)) => ?_)
  · refine own_iconst X1 hx hby d11_25 (pc' := 26) rfl (n := (1 : Int32)) (by decide) ?_
    refine own_iloadN X1 hx hby d11_26 (pc' := 27) rfl rfl ?_
    refine own_icN X1 hx hby d11_27 (pc' := 30) rfl (show (1 : Int32) < (2 : Int32) by decide) ?_
    refine own_iloadN X1 hx hby d11_30 (pc' := 31) rfl rfl ?_
    refine own_iconst X1 hx hby d11_31 (pc' := 32) rfl (n := (1 : Int32)) (by decide) ?_
    refine own_icY X1 hx hby d11_32 (pc' := 48) (by decide) (by decide) (show (1 : Int32) = (1 : Int32) by decide) ?_
    refine own_iconst X1 hx hby d11_48 (pc' := 49) rfl (n := (2 : Int32)) (by decide) ?_
    refine own_iloadN X1 hx hby d11_49 (pc' := 50) rfl rfl ?_
    refine own_icY X1 hx hby d11_50 (pc' := 71) (by decide) (by decide) (show ¬ (2 : Int32) < (2 : Int32) by decide) ?_
    refine own_iload X1 hx hby d11_71 (pc' := 73) rfl rfl ?_
    refine own_ireturn X1 hx hlk hby hret d11_73 (own_lv ?_ (by decide) (by decide))
    show QRK21 Z oa sa ko ks o0 o1 o2 s0 s1 s2 z01  h0 n0 (some (.int (0 : Int32))) T1.heap _
    rw [e1]
    exact ⟨by simp [own_n1, hc19], N1, rfl⟩
  · refine own_iinc X1 hx hby d11_22 (pc' := 25) rfl rfl (y := (1 : Int32)) (by decide) (l' := #[.val (.ref oa), .val (.ref sa), .val (.int (2 : Int32)), .val (.int (1 : Int32)), .val (.int (1 : Int32))]) rfl ?_
    refine own_iconst X1 hx hby d11_25 (pc' := 26) rfl (n := (1 : Int32)) (by decide) ?_
    refine own_iloadN X1 hx hby d11_26 (pc' := 27) rfl rfl ?_
    refine own_icN X1 hx hby d11_27 (pc' := 30) rfl (show (1 : Int32) < (2 : Int32) by decide) ?_
    refine own_iloadN X1 hx hby d11_30 (pc' := 31) rfl rfl ?_
    refine own_iconst X1 hx hby d11_31 (pc' := 32) rfl (n := (1 : Int32)) (by decide) ?_
    refine own_icY X1 hx hby d11_32 (pc' := 48) (by decide) (by decide) (show (1 : Int32) = (1 : Int32) by decide) ?_
    refine own_iconst X1 hx hby d11_48 (pc' := 49) rfl (n := (2 : Int32)) (by decide) ?_
    refine own_iloadN X1 hx hby d11_49 (pc' := 50) rfl rfl ?_
    refine own_icY X1 hx hby d11_50 (pc' := 71) (by decide) (by decide) (show ¬ (2 : Int32) < (2 : Int32) by decide) ?_
    refine own_iload X1 hx hby d11_71 (pc' := 73) rfl rfl ?_
    refine own_ireturn X1 hx hlk hby hret d11_73 (own_lv ?_ (by decide) (by decide))
    show QRK21 Z oa sa ko ks o0 o1 o2 s0 s1 s2 z01  h0 n0 (some (.int (1 : Int32))) T1.heap _
    rw [e1]
    exact ⟨by simp [own_n1, hc19], N1, rfl⟩
theorem own_ef_rmRK30 (m : MethodId) (oa : Addr) (sa : Addr)  : entryFrame m #[(.ref oa), (.ref sa), (.int (3 : Int32)), (.int (0 : Int32))] 5 = mkF m 0 #[.val (.ref oa), .val (.ref sa), .val (.int (3 : Int32)), .val (.int (0 : Int32)), .unset] [] := by first | (simp [entryFrame, mkF, argsToLocals, Value.category]; done) | rfl
def QRK30 (Z : State) (oa : Addr) (sa : Addr) (ko : ClassId) (ks : ClassId) (o0 : Int64) (o1 : Int64) (o2 : Int64) (s0 : Int64) (s1 : Int64) (s2 : Int64) (z10 : Int32) (z20 : Int32) (h0 : Heap) (n0 : Nat) (v : Option Value) (h : Heap) (L : List Loc) : Prop := v = some (.int (own_n1 z10 + own_n1 z20)) ∧ Fr n0 L ∧ h = h0
set_option maxRecDepth 65536 in
set_option maxHeartbeats 40000000 in
theorem rmRK30 (l : Launch) (Z : State) (a0 : Array Value) (hw : ∀ d ∈ tables_1, d.before a0 Z = true) (ws : List Jvm.Cond) (oa : Addr) (sa : Addr) (ko : ClassId) (ks : ClassId) (o0 : Int64) (o1 : Int64) (o2 : Int64) (s0 : Int64) (s1 : Int64) (s2 : Int64) (z10 : Int32) (z20 : Int32) (h0 : Heap) (n0 : Nat) (Z0 : n0 ≤ h0.size) (f_V_oa : Arv Z h0 oa ko .long (3 : Int32) [(.long o0), (.long o1), (.long o2)] (.long (0 : Int64))) (f_V_sa : Arv Z h0 sa ks .long (3 : Int32) [(.long s0), (.long s1), (.long s2)] (.long (0 : Int64))) (hz10 : own_bf o1 s1 o0 s0 = z10) (hz20 : own_bf o2 s2 o0 s0 = z20) :
    MetFree l (⟨"com/example/earnest_reactor/earnestreactor/core/TimerQueuePollPinLaw", "rank", "([J[JII)I"⟩ : MethodName) (head1 (Jvm.Cond.code (⟨"com/example/earnest_reactor/earnestreactor/core/TimerQueuePollPinLaw", "rank", "([J[JII)I"⟩ : MethodName) method_4_code 5 (some .int) :: ws) ({ frames := 1, cells := 0, slots := 0, locals := 15 } : Room)) (fun aa U => aa = #[(.ref oa), (.ref sa), (.int (3 : Int32)), (.int (0 : Int32))] ∧ Z.Warmed39 U.vm ∧ U.heap = h0) (fun _ _ _ _ _ => True) (fun _ U oc U' => ∃ v L, oc = .returned v ∧ QRK30 Z oa sa ko ks o0 o1 o2 s0 s1 s2 z10 z20 h0 n0 v U'.heap L ∧ FrameEnd U oc U' L ({ frames := 1, cells := 0, slots := 0, locals := 15 } : Room).cells ({ frames := 1, cells := 0, slots := 0, locals := 15 } : Room).slots) := by
  refine MetFree.of_bodySF (plainFor_of_name own_pn5) hisR ?_
  intro p e s m args below meth c s₁ Bd hml0 hP hK
  obtain ⟨rfl, hZ, hh⟩ := hP
  have hx := Bd.exec
  have hby := Bd.bytes
  have hlk := Bd.notSynchronized
  have hret := Bd.returns
  have hml : c.maxLocals = 5 := hml0
  have hown : s.vm.findClass "com/example/earnest_reactor/earnestreactor/core/TimerQueuePollPinLaw" = some m.cls := findClass_of_methodNamed Bd.named
  have hnm := (name_of_methodNamed Bd.named Bd.method).1
  have X0 : Stand p l e ({ frames := 1, cells := 0, slots := 0, locals := 15 } : Room) s m #[(.ref oa), (.ref sa), (.int (3 : Int32)), (.int (0 : Int32))] below meth c s₁ [] 0 0 := Stand.of_body Bd
  have e0 : s₁.heap = h0 := by rw [← hh, Bd.state]; rfl
  have N0 := Fr.nil n0
  refine own_body (Q := QRK30 Z oa sa ko ks o0 o1 o2 s0 s1 s2 z10 z20 h0 n0) (KC := ({ frames := 1, cells := 0, slots := 0, locals := 15 } : Room).cells) (KS := ({ frames := 1, cells := 0, slots := 0, locals := 15 } : Room).slots) ?_
  rw [own_ef_rmRK30 m oa sa]
  refine own_iconst X0 hx hby d11_0 (pc' := 1) rfl (n := (0 : Int32)) (by decide) ?_
  refine own_istore X0 hx hby d11_1 (pc' := 3) rfl (l' := #[.val (.ref oa), .val (.ref sa), .val (.int (3 : Int32)), .val (.int (0 : Int32)), .val (.int (0 : Int32))]) rfl ?_
  refine own_iconst X0 hx hby d11_3 (pc' := 4) rfl (n := (0 : Int32)) (by decide) ?_
  refine own_iloadN X0 hx hby d11_4 (pc' := 5) rfl rfl ?_
  refine own_icN X0 hx hby d11_5 (pc' := 8) rfl (show (0 : Int32) < (3 : Int32) by decide) ?_
  refine own_iloadN X0 hx hby d11_8 (pc' := 9) rfl rfl ?_
  refine own_ifY X0 hx hby d11_9 (pc' := 25) (by decide) (by decide) (show (0 : Int32) = (0 : Int32) by decide) ?_
  refine own_iconst X0 hx hby d11_25 (pc' := 26) rfl (n := (1 : Int32)) (by decide) ?_
  refine own_iloadN X0 hx hby d11_26 (pc' := 27) rfl rfl ?_
  refine own_icN X0 hx hby d11_27 (pc' := 30) rfl (show (1 : Int32) < (3 : Int32) by decide) ?_
  refine own_iloadN X0 hx hby d11_30 (pc' := 31) rfl rfl ?_
  refine own_iconst X0 hx hby d11_31 (pc' := 32) rfl (n := (1 : Int32)) (by decide) ?_
  refine own_icN X0 hx hby d11_32 (pc' := 35) rfl (show ¬ (0 : Int32) = (1 : Int32) by decide) ?_
  refine own_aloadN X0 hx hby d11_35 (pc' := 36) rfl rfl rfl ?_
  refine own_aloadN X0 hx hby d11_36 (pc' := 37) rfl rfl rfl ?_
  refine own_iconst X0 hx hby d11_37 (pc' := 38) rfl (n := (1 : Int32)) (by decide) ?_
  refine own_iloadN X0 hx hby d11_38 (pc' := 39) rfl rfl ?_
  refine own_lk6 hw X0 hx hZ hby (by rw [hml]; rfl) hown d11_39 (pc' := 42) rfl e0 (W := 0) (Nat.le_of_eq rfl) (rmBF10 l Z a0 hw [] oa sa ko ks o0 o1 o2 s0 s1 s2 z10 h0 n0 Z0 f_V_oa f_V_sa hz10) (by decide) (by decide) (by decide) (by decide) (fun v1 T1 L1 X1 hQ1 => ?_)
  obtain ⟨rfl, Nq1, e1⟩ := hQ1
  have N1 := Fr.app N0 Nq1
  show own_End p e below _ (T1.setTop (mkF m 42 _ [(.int z10)]))
  refine own_if2 X1 hx hby d11_42 (pc1 := 48) (by decide) (by decide) (pc2 := 45) rfl (fun (hc42 : z10 = (0 : Int32)) => ?_) (fun (hc42 : ¬ z10 = (0 : Int32)) => ?_)
  · refine own_iconst X1 hx hby d11_48 (pc' := 49) rfl (n := (2 : Int32)) (by decide) ?_
    refine own_iloadN X1 hx hby d11_49 (pc' := 50) rfl rfl ?_
    refine own_icN X1 hx hby d11_50 (pc' := 53) rfl (show (2 : Int32) < (3 : Int32) by decide) ?_
    refine own_iloadN X1 hx hby d11_53 (pc' := 54) rfl rfl ?_
    refine own_iconst X1 hx hby d11_54 (pc' := 55) rfl (n := (2 : Int32)) (by decide) ?_
    refine own_icN X1 hx hby d11_55 (pc' := 58) rfl (show ¬ (0 : Int32) = (2 : Int32) by decide) ?_
    refine own_aloadN X1 hx hby d11_58 (pc' := 59) rfl rfl rfl ?_
    refine own_aloadN X1 hx hby d11_59 (pc' := 60) rfl rfl rfl ?_
    refine own_iconst X1 hx hby d11_60 (pc' := 61) rfl (n := (2 : Int32)) (by decide) ?_
    refine own_iloadN X1 hx hby d11_61 (pc' := 62) rfl rfl ?_
    refine own_lk6 hw X1 hx hZ hby (by rw [hml]; rfl) hown d11_62 (pc' := 65) rfl e1 (W := 0) (Nat.le_of_eq rfl) (rmBF20 l Z a0 hw [] oa sa ko ks o0 o1 o2 s0 s1 s2 z20 h0 n0 Z0 f_V_oa f_V_sa hz20) (by decide) (by decide) (by decide) (by decide) (fun v2 T2 L2 X2 hQ2 => ?_)
    obtain ⟨rfl, Nq2, e2⟩ := hQ2
    have N2 := Fr.app N1 Nq2
    show own_End p e below _ (T2.setTop (mkF m 65 _ [(.int z20)]))
    refine own_if2 X2 hx hby d11_65 (pc1 := 71) (by decide) (by decide) (pc2 := 68) rfl (fun (hc65 : z20 = (0 : Int32)) => ?_) (fun (hc65 : ¬ z20 = (0 : Int32)) => ?_)
    · refine own_iload X2 hx hby d11_71 (pc' := 73) rfl rfl ?_
      refine own_ireturn X2 hx hlk hby hret d11_73 (own_lv ?_ (by decide) (by decide))
      show QRK30 Z oa sa ko ks o0 o1 o2 s0 s1 s2 z10 z20  h0 n0 (some (.int (0 : Int32))) T2.heap _
      rw [e2]
      exact ⟨by simp [own_n1, hc42, hc65], N2, rfl⟩
    · refine own_iinc X2 hx hby d11_68 (pc' := 71) rfl rfl (y := (1 : Int32)) (by decide) (l' := #[.val (.ref oa), .val (.ref sa), .val (.int (3 : Int32)), .val (.int (0 : Int32)), .val (.int (1 : Int32))]) rfl ?_
      refine own_iload X2 hx hby d11_71 (pc' := 73) rfl rfl ?_
      refine own_ireturn X2 hx hlk hby hret d11_73 (own_lv ?_ (by decide) (by decide))
      show QRK30 Z oa sa ko ks o0 o1 o2 s0 s1 s2 z10 z20  h0 n0 (some (.int (1 : Int32))) T2.heap _
      rw [e2]
      exact ⟨by simp [own_n1, hc42, hc65], N2, rfl⟩
  · refine own_iinc X1 hx hby d11_45 (pc' := 48) rfl rfl (y := (1 : Int32)) (by decide) (l' := #[.val (.ref oa), .val (.ref sa), .val (.int (3 : Int32)), .val (.int (0 : Int32)), .val (.int (1 : Int32))]) rfl ?_
    refine own_iconst X1 hx hby d11_48 (pc' := 49) rfl (n := (2 : Int32)) (by decide) ?_
    refine own_iloadN X1 hx hby d11_49 (pc' := 50) rfl rfl ?_
    refine own_icN X1 hx hby d11_50 (pc' := 53) rfl (show (2 : Int32) < (3 : Int32) by decide) ?_
    refine own_iloadN X1 hx hby d11_53 (pc' := 54) rfl rfl ?_
    refine own_iconst X1 hx hby d11_54 (pc' := 55) rfl (n := (2 : Int32)) (by decide) ?_
    refine own_icN X1 hx hby d11_55 (pc' := 58) rfl (show ¬ (0 : Int32) = (2 : Int32) by decide) ?_
    refine own_aloadN X1 hx hby d11_58 (pc' := 59) rfl rfl rfl ?_
    refine own_aloadN X1 hx hby d11_59 (pc' := 60) rfl rfl rfl ?_
    refine own_iconst X1 hx hby d11_60 (pc' := 61) rfl (n := (2 : Int32)) (by decide) ?_
    refine own_iloadN X1 hx hby d11_61 (pc' := 62) rfl rfl ?_
    refine own_lk6 hw X1 hx hZ hby (by rw [hml]; rfl) hown d11_62 (pc' := 65) rfl e1 (W := 0) (Nat.le_of_eq rfl) (rmBF20 l Z a0 hw [] oa sa ko ks o0 o1 o2 s0 s1 s2 z20 h0 n0 Z0 f_V_oa f_V_sa hz20) (by decide) (by decide) (by decide) (by decide) (fun v3 T3 L3 X3 hQ3 => ?_)
    obtain ⟨rfl, Nq3, e3⟩ := hQ3
    have N3 := Fr.app N1 Nq3
    show own_End p e below _ (T3.setTop (mkF m 65 _ [(.int z20)]))
    refine own_if2 X3 hx hby d11_65 (pc1 := 71) (by decide) (by decide) (pc2 := 68) rfl (fun (hc65 : z20 = (0 : Int32)) => ?_) (fun (hc65 : ¬ z20 = (0 : Int32)) => ?_)
    · refine own_iload X3 hx hby d11_71 (pc' := 73) rfl rfl ?_
      refine own_ireturn X3 hx hlk hby hret d11_73 (own_lv ?_ (by decide) (by decide))
      show QRK30 Z oa sa ko ks o0 o1 o2 s0 s1 s2 z10 z20  h0 n0 (some (.int (1 : Int32))) T3.heap _
      rw [e3]
      exact ⟨by simp [own_n1, hc42, hc65], N3, rfl⟩
    · refine own_iinc X3 hx hby d11_68 (pc' := 71) rfl rfl (y := (2 : Int32)) (by decide) (l' := #[.val (.ref oa), .val (.ref sa), .val (.int (3 : Int32)), .val (.int (0 : Int32)), .val (.int (2 : Int32))]) rfl ?_
      refine own_iload X3 hx hby d11_71 (pc' := 73) rfl rfl ?_
      refine own_ireturn X3 hx hlk hby hret d11_73 (own_lv ?_ (by decide) (by decide))
      show QRK30 Z oa sa ko ks o0 o1 o2 s0 s1 s2 z10 z20  h0 n0 (some (.int (2 : Int32))) T3.heap _
      rw [e3]
      exact ⟨by simp [own_n1, hc42, hc65], N3, rfl⟩
theorem own_ef_rmRK31 (m : MethodId) (oa : Addr) (sa : Addr)  : entryFrame m #[(.ref oa), (.ref sa), (.int (3 : Int32)), (.int (1 : Int32))] 5 = mkF m 0 #[.val (.ref oa), .val (.ref sa), .val (.int (3 : Int32)), .val (.int (1 : Int32)), .unset] [] := by first | (simp [entryFrame, mkF, argsToLocals, Value.category]; done) | rfl
def QRK31 (Z : State) (oa : Addr) (sa : Addr) (ko : ClassId) (ks : ClassId) (o0 : Int64) (o1 : Int64) (o2 : Int64) (s0 : Int64) (s1 : Int64) (s2 : Int64) (z01 : Int32) (z21 : Int32) (h0 : Heap) (n0 : Nat) (v : Option Value) (h : Heap) (L : List Loc) : Prop := v = some (.int (own_n1 z01 + own_n1 z21)) ∧ Fr n0 L ∧ h = h0
set_option maxRecDepth 65536 in
set_option maxHeartbeats 40000000 in
theorem rmRK31 (l : Launch) (Z : State) (a0 : Array Value) (hw : ∀ d ∈ tables_1, d.before a0 Z = true) (ws : List Jvm.Cond) (oa : Addr) (sa : Addr) (ko : ClassId) (ks : ClassId) (o0 : Int64) (o1 : Int64) (o2 : Int64) (s0 : Int64) (s1 : Int64) (s2 : Int64) (z01 : Int32) (z21 : Int32) (h0 : Heap) (n0 : Nat) (Z0 : n0 ≤ h0.size) (f_V_oa : Arv Z h0 oa ko .long (3 : Int32) [(.long o0), (.long o1), (.long o2)] (.long (0 : Int64))) (f_V_sa : Arv Z h0 sa ks .long (3 : Int32) [(.long s0), (.long s1), (.long s2)] (.long (0 : Int64))) (hz01 : own_bf o0 s0 o1 s1 = z01) (hz21 : own_bf o2 s2 o1 s1 = z21) :
    MetFree l (⟨"com/example/earnest_reactor/earnestreactor/core/TimerQueuePollPinLaw", "rank", "([J[JII)I"⟩ : MethodName) (head1 (Jvm.Cond.code (⟨"com/example/earnest_reactor/earnestreactor/core/TimerQueuePollPinLaw", "rank", "([J[JII)I"⟩ : MethodName) method_4_code 5 (some .int) :: ws) ({ frames := 1, cells := 0, slots := 0, locals := 15 } : Room)) (fun aa U => aa = #[(.ref oa), (.ref sa), (.int (3 : Int32)), (.int (1 : Int32))] ∧ Z.Warmed39 U.vm ∧ U.heap = h0) (fun _ _ _ _ _ => True) (fun _ U oc U' => ∃ v L, oc = .returned v ∧ QRK31 Z oa sa ko ks o0 o1 o2 s0 s1 s2 z01 z21 h0 n0 v U'.heap L ∧ FrameEnd U oc U' L ({ frames := 1, cells := 0, slots := 0, locals := 15 } : Room).cells ({ frames := 1, cells := 0, slots := 0, locals := 15 } : Room).slots) := by
  refine MetFree.of_bodySF (plainFor_of_name own_pn5) hisR ?_
  intro p e s m args below meth c s₁ Bd hml0 hP hK
  obtain ⟨rfl, hZ, hh⟩ := hP
  have hx := Bd.exec
  have hby := Bd.bytes
  have hlk := Bd.notSynchronized
  have hret := Bd.returns
  have hml : c.maxLocals = 5 := hml0
  have hown : s.vm.findClass "com/example/earnest_reactor/earnestreactor/core/TimerQueuePollPinLaw" = some m.cls := findClass_of_methodNamed Bd.named
  have hnm := (name_of_methodNamed Bd.named Bd.method).1
  have X0 : Stand p l e ({ frames := 1, cells := 0, slots := 0, locals := 15 } : Room) s m #[(.ref oa), (.ref sa), (.int (3 : Int32)), (.int (1 : Int32))] below meth c s₁ [] 0 0 := Stand.of_body Bd
  have e0 : s₁.heap = h0 := by rw [← hh, Bd.state]; rfl
  have N0 := Fr.nil n0
  refine own_body (Q := QRK31 Z oa sa ko ks o0 o1 o2 s0 s1 s2 z01 z21 h0 n0) (KC := ({ frames := 1, cells := 0, slots := 0, locals := 15 } : Room).cells) (KS := ({ frames := 1, cells := 0, slots := 0, locals := 15 } : Room).slots) ?_
  rw [own_ef_rmRK31 m oa sa]
  refine own_iconst X0 hx hby d11_0 (pc' := 1) rfl (n := (0 : Int32)) (by decide) ?_
  refine own_istore X0 hx hby d11_1 (pc' := 3) rfl (l' := #[.val (.ref oa), .val (.ref sa), .val (.int (3 : Int32)), .val (.int (1 : Int32)), .val (.int (0 : Int32))]) rfl ?_
  refine own_iconst X0 hx hby d11_3 (pc' := 4) rfl (n := (0 : Int32)) (by decide) ?_
  refine own_iloadN X0 hx hby d11_4 (pc' := 5) rfl rfl ?_
  refine own_icN X0 hx hby d11_5 (pc' := 8) rfl (show (0 : Int32) < (3 : Int32) by decide) ?_
  refine own_iloadN X0 hx hby d11_8 (pc' := 9) rfl rfl ?_
  refine own_ifN X0 hx hby d11_9 (pc' := 12) rfl (show ¬ (1 : Int32) = (0 : Int32) by decide) ?_
  refine own_aloadN X0 hx hby d11_12 (pc' := 13) rfl rfl rfl ?_
  refine own_aloadN X0 hx hby d11_13 (pc' := 14) rfl rfl rfl ?_
  refine own_iconst X0 hx hby d11_14 (pc' := 15) rfl (n := (0 : Int32)) (by decide) ?_
  refine own_iloadN X0 hx hby d11_15 (pc' := 16) rfl rfl ?_
  refine own_lk6 hw X0 hx hZ hby (by rw [hml]; rfl) hown d11_16 (pc' := 19) rfl e0 (W := 0) (Nat.le_of_eq rfl) (rmBF01 l Z a0 hw [] oa sa ko ks o0 o1 o2 s0 s1 s2 z01 h0 n0 Z0 f_V_oa f_V_sa hz01) (by decide) (by decide) (by decide) (by decide) (fun v1 T1 L1 X1 hQ1 => ?_)
  obtain ⟨rfl, Nq1, e1⟩ := hQ1
  have N1 := Fr.app N0 Nq1
  show own_End p e below _ (T1.setTop (mkF m 19 _ [(.int z01)]))
  refine own_if2 X1 hx hby d11_19 (pc1 := 25) (by decide) (by decide) (pc2 := 22) rfl (fun (hc19 : z01 = (0 : Int32)) => ?_) (fun (hc19 : ¬ z01 = (0 : Int32)) => ?_)
  · refine own_iconst X1 hx hby d11_25 (pc' := 26) rfl (n := (1 : Int32)) (by decide) ?_
    refine own_iloadN X1 hx hby d11_26 (pc' := 27) rfl rfl ?_
    refine own_icN X1 hx hby d11_27 (pc' := 30) rfl (show (1 : Int32) < (3 : Int32) by decide) ?_
    refine own_iloadN X1 hx hby d11_30 (pc' := 31) rfl rfl ?_
    refine own_iconst X1 hx hby d11_31 (pc' := 32) rfl (n := (1 : Int32)) (by decide) ?_
    refine own_icY X1 hx hby d11_32 (pc' := 48) (by decide) (by decide) (show (1 : Int32) = (1 : Int32) by decide) ?_
    refine own_iconst X1 hx hby d11_48 (pc' := 49) rfl (n := (2 : Int32)) (by decide) ?_
    refine own_iloadN X1 hx hby d11_49 (pc' := 50) rfl rfl ?_
    refine own_icN X1 hx hby d11_50 (pc' := 53) rfl (show (2 : Int32) < (3 : Int32) by decide) ?_
    refine own_iloadN X1 hx hby d11_53 (pc' := 54) rfl rfl ?_
    refine own_iconst X1 hx hby d11_54 (pc' := 55) rfl (n := (2 : Int32)) (by decide) ?_
    refine own_icN X1 hx hby d11_55 (pc' := 58) rfl (show ¬ (1 : Int32) = (2 : Int32) by decide) ?_
    refine own_aloadN X1 hx hby d11_58 (pc' := 59) rfl rfl rfl ?_
    refine own_aloadN X1 hx hby d11_59 (pc' := 60) rfl rfl rfl ?_
    refine own_iconst X1 hx hby d11_60 (pc' := 61) rfl (n := (2 : Int32)) (by decide) ?_
    refine own_iloadN X1 hx hby d11_61 (pc' := 62) rfl rfl ?_
    refine own_lk6 hw X1 hx hZ hby (by rw [hml]; rfl) hown d11_62 (pc' := 65) rfl e1 (W := 0) (Nat.le_of_eq rfl) (rmBF21 l Z a0 hw [] oa sa ko ks o0 o1 o2 s0 s1 s2 z21 h0 n0 Z0 f_V_oa f_V_sa hz21) (by decide) (by decide) (by decide) (by decide) (fun v2 T2 L2 X2 hQ2 => ?_)
    obtain ⟨rfl, Nq2, e2⟩ := hQ2
    have N2 := Fr.app N1 Nq2
    show own_End p e below _ (T2.setTop (mkF m 65 _ [(.int z21)]))
    refine own_if2 X2 hx hby d11_65 (pc1 := 71) (by decide) (by decide) (pc2 := 68) rfl (fun (hc65 : z21 = (0 : Int32)) => ?_) (fun (hc65 : ¬ z21 = (0 : Int32)) => ?_)
    · refine own_iload X2 hx hby d11_71 (pc' := 73) rfl rfl ?_
      refine own_ireturn X2 hx hlk hby hret d11_73 (own_lv ?_ (by decide) (by decide))
      show QRK31 Z oa sa ko ks o0 o1 o2 s0 s1 s2 z01 z21  h0 n0 (some (.int (0 : Int32))) T2.heap _
      rw [e2]
      exact ⟨by simp [own_n1, hc19, hc65], N2, rfl⟩
    · refine own_iinc X2 hx hby d11_68 (pc' := 71) rfl rfl (y := (1 : Int32)) (by decide) (l' := #[.val (.ref oa), .val (.ref sa), .val (.int (3 : Int32)), .val (.int (1 : Int32)), .val (.int (1 : Int32))]) rfl ?_
      refine own_iload X2 hx hby d11_71 (pc' := 73) rfl rfl ?_
      refine own_ireturn X2 hx hlk hby hret d11_73 (own_lv ?_ (by decide) (by decide))
      show QRK31 Z oa sa ko ks o0 o1 o2 s0 s1 s2 z01 z21  h0 n0 (some (.int (1 : Int32))) T2.heap _
      rw [e2]
      exact ⟨by simp [own_n1, hc19, hc65], N2, rfl⟩
  · refine own_iinc X1 hx hby d11_22 (pc' := 25) rfl rfl (y := (1 : Int32)) (by decide) (l' := #[.val (.ref oa), .val (.ref sa), .val (.int (3 : Int32)), .val (.int (1 : Int32)), .val (.int (1 : Int32))]) rfl ?_
    refine own_iconst X1 hx hby d11_25 (pc' := 26) rfl (n := (1 : Int32)) (by decide) ?_
    refine own_iloadN X1 hx hby d11_26 (pc' := 27) rfl rfl ?_
    refine own_icN X1 hx hby d11_27 (pc' := 30) rfl (show (1 : Int32) < (3 : Int32) by decide) ?_
    refine own_iloadN X1 hx hby d11_30 (pc' := 31) rfl rfl ?_
    refine own_iconst X1 hx hby d11_31 (pc' := 32) rfl (n := (1 : Int32)) (by decide) ?_
    refine own_icY X1 hx hby d11_32 (pc' := 48) (by decide) (by decide) (show (1 : Int32) = (1 : Int32) by decide) ?_
    refine own_iconst X1 hx hby d11_48 (pc' := 49) rfl (n := (2 : Int32)) (by decide) ?_
    refine own_iloadN X1 hx hby d11_49 (pc' := 50) rfl rfl ?_
    refine own_icN X1 hx hby d11_50 (pc' := 53) rfl (show (2 : Int32) < (3 : Int32) by decide) ?_
    refine own_iloadN X1 hx hby d11_53 (pc' := 54) rfl rfl ?_
    refine own_iconst X1 hx hby d11_54 (pc' := 55) rfl (n := (2 : Int32)) (by decide) ?_
    refine own_icN X1 hx hby d11_55 (pc' := 58) rfl (show ¬ (1 : Int32) = (2 : Int32) by decide) ?_
    refine own_aloadN X1 hx hby d11_58 (pc' := 59) rfl rfl rfl ?_
    refine own_aloadN X1 hx hby d11_59 (pc' := 60) rfl rfl rfl ?_
    refine own_iconst X1 hx hby d11_60 (pc' := 61) rfl (n := (2 : Int32)) (by decide) ?_
    refine own_iloadN X1 hx hby d11_61 (pc' := 62) rfl rfl ?_
    refine own_lk6 hw X1 hx hZ hby (by rw [hml]; rfl) hown d11_62 (pc' := 65) rfl e1 (W := 0) (Nat.le_of_eq rfl) (rmBF21 l Z a0 hw [] oa sa ko ks o0 o1 o2 s0 s1 s2 z21 h0 n0 Z0 f_V_oa f_V_sa hz21) (by decide) (by decide) (by decide) (by decide) (fun v3 T3 L3 X3 hQ3 => ?_)
    obtain ⟨rfl, Nq3, e3⟩ := hQ3
    have N3 := Fr.app N1 Nq3
    show own_End p e below _ (T3.setTop (mkF m 65 _ [(.int z21)]))
    refine own_if2 X3 hx hby d11_65 (pc1 := 71) (by decide) (by decide) (pc2 := 68) rfl (fun (hc65 : z21 = (0 : Int32)) => ?_) (fun (hc65 : ¬ z21 = (0 : Int32)) => ?_)
    · refine own_iload X3 hx hby d11_71 (pc' := 73) rfl rfl ?_
      refine own_ireturn X3 hx hlk hby hret d11_73 (own_lv ?_ (by decide) (by decide))
      show QRK31 Z oa sa ko ks o0 o1 o2 s0 s1 s2 z01 z21  h0 n0 (some (.int (1 : Int32))) T3.heap _
      rw [e3]
      exact ⟨by simp [own_n1, hc19, hc65], N3, rfl⟩
    · refine own_iinc X3 hx hby d11_68 (pc' := 71) rfl rfl (y := (2 : Int32)) (by decide) (l' := #[.val (.ref oa), .val (.ref sa), .val (.int (3 : Int32)), .val (.int (1 : Int32)), .val (.int (2 : Int32))]) rfl ?_
      refine own_iload X3 hx hby d11_71 (pc' := 73) rfl rfl ?_
      refine own_ireturn X3 hx hlk hby hret d11_73 (own_lv ?_ (by decide) (by decide))
      show QRK31 Z oa sa ko ks o0 o1 o2 s0 s1 s2 z01 z21  h0 n0 (some (.int (2 : Int32))) T3.heap _
      rw [e3]
      exact ⟨by simp [own_n1, hc19, hc65], N3, rfl⟩
theorem own_ef_rmRK32 (m : MethodId) (oa : Addr) (sa : Addr)  : entryFrame m #[(.ref oa), (.ref sa), (.int (3 : Int32)), (.int (2 : Int32))] 5 = mkF m 0 #[.val (.ref oa), .val (.ref sa), .val (.int (3 : Int32)), .val (.int (2 : Int32)), .unset] [] := by first | (simp [entryFrame, mkF, argsToLocals, Value.category]; done) | rfl
def QRK32 (Z : State) (oa : Addr) (sa : Addr) (ko : ClassId) (ks : ClassId) (o0 : Int64) (o1 : Int64) (o2 : Int64) (s0 : Int64) (s1 : Int64) (s2 : Int64) (z02 : Int32) (z12 : Int32) (h0 : Heap) (n0 : Nat) (v : Option Value) (h : Heap) (L : List Loc) : Prop := v = some (.int (own_n1 z02 + own_n1 z12)) ∧ Fr n0 L ∧ h = h0
set_option maxRecDepth 65536 in
set_option maxHeartbeats 40000000 in
theorem rmRK32 (l : Launch) (Z : State) (a0 : Array Value) (hw : ∀ d ∈ tables_1, d.before a0 Z = true) (ws : List Jvm.Cond) (oa : Addr) (sa : Addr) (ko : ClassId) (ks : ClassId) (o0 : Int64) (o1 : Int64) (o2 : Int64) (s0 : Int64) (s1 : Int64) (s2 : Int64) (z02 : Int32) (z12 : Int32) (h0 : Heap) (n0 : Nat) (Z0 : n0 ≤ h0.size) (f_V_oa : Arv Z h0 oa ko .long (3 : Int32) [(.long o0), (.long o1), (.long o2)] (.long (0 : Int64))) (f_V_sa : Arv Z h0 sa ks .long (3 : Int32) [(.long s0), (.long s1), (.long s2)] (.long (0 : Int64))) (hz02 : own_bf o0 s0 o2 s2 = z02) (hz12 : own_bf o1 s1 o2 s2 = z12) :
    MetFree l (⟨"com/example/earnest_reactor/earnestreactor/core/TimerQueuePollPinLaw", "rank", "([J[JII)I"⟩ : MethodName) (head1 (Jvm.Cond.code (⟨"com/example/earnest_reactor/earnestreactor/core/TimerQueuePollPinLaw", "rank", "([J[JII)I"⟩ : MethodName) method_4_code 5 (some .int) :: ws) ({ frames := 1, cells := 0, slots := 0, locals := 15 } : Room)) (fun aa U => aa = #[(.ref oa), (.ref sa), (.int (3 : Int32)), (.int (2 : Int32))] ∧ Z.Warmed39 U.vm ∧ U.heap = h0) (fun _ _ _ _ _ => True) (fun _ U oc U' => ∃ v L, oc = .returned v ∧ QRK32 Z oa sa ko ks o0 o1 o2 s0 s1 s2 z02 z12 h0 n0 v U'.heap L ∧ FrameEnd U oc U' L ({ frames := 1, cells := 0, slots := 0, locals := 15 } : Room).cells ({ frames := 1, cells := 0, slots := 0, locals := 15 } : Room).slots) := by
  refine MetFree.of_bodySF (plainFor_of_name own_pn5) hisR ?_
  intro p e s m args below meth c s₁ Bd hml0 hP hK
  obtain ⟨rfl, hZ, hh⟩ := hP
  have hx := Bd.exec
  have hby := Bd.bytes
  have hlk := Bd.notSynchronized
  have hret := Bd.returns
  have hml : c.maxLocals = 5 := hml0
  have hown : s.vm.findClass "com/example/earnest_reactor/earnestreactor/core/TimerQueuePollPinLaw" = some m.cls := findClass_of_methodNamed Bd.named
  have hnm := (name_of_methodNamed Bd.named Bd.method).1
  have X0 : Stand p l e ({ frames := 1, cells := 0, slots := 0, locals := 15 } : Room) s m #[(.ref oa), (.ref sa), (.int (3 : Int32)), (.int (2 : Int32))] below meth c s₁ [] 0 0 := Stand.of_body Bd
  have e0 : s₁.heap = h0 := by rw [← hh, Bd.state]; rfl
  have N0 := Fr.nil n0
  refine own_body (Q := QRK32 Z oa sa ko ks o0 o1 o2 s0 s1 s2 z02 z12 h0 n0) (KC := ({ frames := 1, cells := 0, slots := 0, locals := 15 } : Room).cells) (KS := ({ frames := 1, cells := 0, slots := 0, locals := 15 } : Room).slots) ?_
  rw [own_ef_rmRK32 m oa sa]
  refine own_iconst X0 hx hby d11_0 (pc' := 1) rfl (n := (0 : Int32)) (by decide) ?_
  refine own_istore X0 hx hby d11_1 (pc' := 3) rfl (l' := #[.val (.ref oa), .val (.ref sa), .val (.int (3 : Int32)), .val (.int (2 : Int32)), .val (.int (0 : Int32))]) rfl ?_
  refine own_iconst X0 hx hby d11_3 (pc' := 4) rfl (n := (0 : Int32)) (by decide) ?_
  refine own_iloadN X0 hx hby d11_4 (pc' := 5) rfl rfl ?_
  refine own_icN X0 hx hby d11_5 (pc' := 8) rfl (show (0 : Int32) < (3 : Int32) by decide) ?_
  refine own_iloadN X0 hx hby d11_8 (pc' := 9) rfl rfl ?_
  refine own_ifN X0 hx hby d11_9 (pc' := 12) rfl (show ¬ (2 : Int32) = (0 : Int32) by decide) ?_
  refine own_aloadN X0 hx hby d11_12 (pc' := 13) rfl rfl rfl ?_
  refine own_aloadN X0 hx hby d11_13 (pc' := 14) rfl rfl rfl ?_
  refine own_iconst X0 hx hby d11_14 (pc' := 15) rfl (n := (0 : Int32)) (by decide) ?_
  refine own_iloadN X0 hx hby d11_15 (pc' := 16) rfl rfl ?_
  refine own_lk6 hw X0 hx hZ hby (by rw [hml]; rfl) hown d11_16 (pc' := 19) rfl e0 (W := 0) (Nat.le_of_eq rfl) (rmBF02 l Z a0 hw [] oa sa ko ks o0 o1 o2 s0 s1 s2 z02 h0 n0 Z0 f_V_oa f_V_sa hz02) (by decide) (by decide) (by decide) (by decide) (fun v1 T1 L1 X1 hQ1 => ?_)
  obtain ⟨rfl, Nq1, e1⟩ := hQ1
  have N1 := Fr.app N0 Nq1
  show own_End p e below _ (T1.setTop (mkF m 19 _ [(.int z02)]))
  refine own_if2 X1 hx hby d11_19 (pc1 := 25) (by decide) (by decide) (pc2 := 22) rfl (fun (hc19 : z02 = (0 : Int32)) => ?_) (fun (hc19 : ¬ z02 = (0 : Int32)) => ?_)
  · refine own_iconst X1 hx hby d11_25 (pc' := 26) rfl (n := (1 : Int32)) (by decide) ?_
    refine own_iloadN X1 hx hby d11_26 (pc' := 27) rfl rfl ?_
    refine own_icN X1 hx hby d11_27 (pc' := 30) rfl (show (1 : Int32) < (3 : Int32) by decide) ?_
    refine own_iloadN X1 hx hby d11_30 (pc' := 31) rfl rfl ?_
    refine own_iconst X1 hx hby d11_31 (pc' := 32) rfl (n := (1 : Int32)) (by decide) ?_
    refine own_icN X1 hx hby d11_32 (pc' := 35) rfl (show ¬ (2 : Int32) = (1 : Int32) by decide) ?_
    refine own_aloadN X1 hx hby d11_35 (pc' := 36) rfl rfl rfl ?_
    refine own_aloadN X1 hx hby d11_36 (pc' := 37) rfl rfl rfl ?_
    refine own_iconst X1 hx hby d11_37 (pc' := 38) rfl (n := (1 : Int32)) (by decide) ?_
    refine own_iloadN X1 hx hby d11_38 (pc' := 39) rfl rfl ?_
    refine own_lk6 hw X1 hx hZ hby (by rw [hml]; rfl) hown d11_39 (pc' := 42) rfl e1 (W := 0) (Nat.le_of_eq rfl) (rmBF12 l Z a0 hw [] oa sa ko ks o0 o1 o2 s0 s1 s2 z12 h0 n0 Z0 f_V_oa f_V_sa hz12) (by decide) (by decide) (by decide) (by decide) (fun v2 T2 L2 X2 hQ2 => ?_)
    obtain ⟨rfl, Nq2, e2⟩ := hQ2
    have N2 := Fr.app N1 Nq2
    show own_End p e below _ (T2.setTop (mkF m 42 _ [(.int z12)]))
    refine own_if2 X2 hx hby d11_42 (pc1 := 48) (by decide) (by decide) (pc2 := 45) rfl (fun (hc42 : z12 = (0 : Int32)) => ?_) (fun (hc42 : ¬ z12 = (0 : Int32)) => ?_)
    · refine own_iconst X2 hx hby d11_48 (pc' := 49) rfl (n := (2 : Int32)) (by decide) ?_
      refine own_iloadN X2 hx hby d11_49 (pc' := 50) rfl rfl ?_
      refine own_icN X2 hx hby d11_50 (pc' := 53) rfl (show (2 : Int32) < (3 : Int32) by decide) ?_
      refine own_iloadN X2 hx hby d11_53 (pc' := 54) rfl rfl ?_
      refine own_iconst X2 hx hby d11_54 (pc' := 55) rfl (n := (2 : Int32)) (by decide) ?_
      refine own_icY X2 hx hby d11_55 (pc' := 71) (by decide) (by decide) (show (2 : Int32) = (2 : Int32) by decide) ?_
      refine own_iload X2 hx hby d11_71 (pc' := 73) rfl rfl ?_
      refine own_ireturn X2 hx hlk hby hret d11_73 (own_lv ?_ (by decide) (by decide))
      show QRK32 Z oa sa ko ks o0 o1 o2 s0 s1 s2 z02 z12  h0 n0 (some (.int (0 : Int32))) T2.heap _
      rw [e2]
      exact ⟨by simp [own_n1, hc19, hc42], N2, rfl⟩
    · refine own_iinc X2 hx hby d11_45 (pc' := 48) rfl rfl (y := (1 : Int32)) (by decide) (l' := #[.val (.ref oa), .val (.ref sa), .val (.int (3 : Int32)), .val (.int (2 : Int32)), .val (.int (1 : Int32))]) rfl ?_
      refine own_iconst X2 hx hby d11_48 (pc' := 49) rfl (n := (2 : Int32)) (by decide) ?_
      refine own_iloadN X2 hx hby d11_49 (pc' := 50) rfl rfl ?_
      refine own_icN X2 hx hby d11_50 (pc' := 53) rfl (show (2 : Int32) < (3 : Int32) by decide) ?_
      refine own_iloadN X2 hx hby d11_53 (pc' := 54) rfl rfl ?_
      refine own_iconst X2 hx hby d11_54 (pc' := 55) rfl (n := (2 : Int32)) (by decide) ?_
      refine own_icY X2 hx hby d11_55 (pc' := 71) (by decide) (by decide) (show (2 : Int32) = (2 : Int32) by decide) ?_
      refine own_iload X2 hx hby d11_71 (pc' := 73) rfl rfl ?_
      refine own_ireturn X2 hx hlk hby hret d11_73 (own_lv ?_ (by decide) (by decide))
      show QRK32 Z oa sa ko ks o0 o1 o2 s0 s1 s2 z02 z12  h0 n0 (some (.int (1 : Int32))) T2.heap _
      rw [e2]
      exact ⟨by simp [own_n1, hc19, hc42], N2, rfl⟩
  · refine own_iinc X1 hx hby d11_22 (pc' := 25) rfl rfl (y := (1 : Int32)) (by decide) (l' := #[.val (.ref oa), .val (.ref sa), .val (.int (3 : Int32)), .val (.int (2 : Int32)), .val (.int (1 : Int32))]) rfl ?_
    refine own_iconst X1 hx hby d11_25 (pc' := 26) rfl (n := (1 : Int32)) (by decide) ?_
    refine own_iloadN X1 hx hby d11_26 (pc' := 27) rfl rfl ?_
    refine own_icN X1 hx hby d11_27 (pc' := 30) rfl (show (1 : Int32) < (3 : Int32) by decide) ?_
    refine own_iloadN X1 hx hby d11_30 (pc' := 31) rfl rfl ?_
    refine own_iconst X1 hx hby d11_31 (pc' := 32) rfl (n := (1 : Int32)) (by decide) ?_
    refine own_icN X1 hx hby d11_32 (pc' := 35) rfl (show ¬ (2 : Int32) = (1 : Int32) by decide) ?_
    refine own_aloadN X1 hx hby d11_35 (pc' := 36) rfl rfl rfl ?_
    refine own_aloadN X1 hx hby d11_36 (pc' := 37) rfl rfl rfl ?_
    refine own_iconst X1 hx hby d11_37 (pc' := 38) rfl (n := (1 : Int32)) (by decide) ?_
    refine own_iloadN X1 hx hby d11_38 (pc' := 39) rfl rfl ?_
    refine own_lk6 hw X1 hx hZ hby (by rw [hml]; rfl) hown d11_39 (pc' := 42) rfl e1 (W := 0) (Nat.le_of_eq rfl) (rmBF12 l Z a0 hw [] oa sa ko ks o0 o1 o2 s0 s1 s2 z12 h0 n0 Z0 f_V_oa f_V_sa hz12) (by decide) (by decide) (by decide) (by decide) (fun v3 T3 L3 X3 hQ3 => ?_)
    obtain ⟨rfl, Nq3, e3⟩ := hQ3
    have N3 := Fr.app N1 Nq3
    show own_End p e below _ (T3.setTop (mkF m 42 _ [(.int z12)]))
    refine own_if2 X3 hx hby d11_42 (pc1 := 48) (by decide) (by decide) (pc2 := 45) rfl (fun (hc42 : z12 = (0 : Int32)) => ?_) (fun (hc42 : ¬ z12 = (0 : Int32)) => ?_)
    · refine own_iconst X3 hx hby d11_48 (pc' := 49) rfl (n := (2 : Int32)) (by decide) ?_
      refine own_iloadN X3 hx hby d11_49 (pc' := 50) rfl rfl ?_
      refine own_icN X3 hx hby d11_50 (pc' := 53) rfl (show (2 : Int32) < (3 : Int32) by decide) ?_
      refine own_iloadN X3 hx hby d11_53 (pc' := 54) rfl rfl ?_
      refine own_iconst X3 hx hby d11_54 (pc' := 55) rfl (n := (2 : Int32)) (by decide) ?_
      refine own_icY X3 hx hby d11_55 (pc' := 71) (by decide) (by decide) (show (2 : Int32) = (2 : Int32) by decide) ?_
      refine own_iload X3 hx hby d11_71 (pc' := 73) rfl rfl ?_
      refine own_ireturn X3 hx hlk hby hret d11_73 (own_lv ?_ (by decide) (by decide))
      show QRK32 Z oa sa ko ks o0 o1 o2 s0 s1 s2 z02 z12  h0 n0 (some (.int (1 : Int32))) T3.heap _
      rw [e3]
      exact ⟨by simp [own_n1, hc19, hc42], N3, rfl⟩
    · refine own_iinc X3 hx hby d11_45 (pc' := 48) rfl rfl (y := (2 : Int32)) (by decide) (l' := #[.val (.ref oa), .val (.ref sa), .val (.int (3 : Int32)), .val (.int (2 : Int32)), .val (.int (2 : Int32))]) rfl ?_
      refine own_iconst X3 hx hby d11_48 (pc' := 49) rfl (n := (2 : Int32)) (by decide) ?_
      refine own_iloadN X3 hx hby d11_49 (pc' := 50) rfl rfl ?_
      refine own_icN X3 hx hby d11_50 (pc' := 53) rfl (show (2 : Int32) < (3 : Int32) by decide) ?_
      refine own_iloadN X3 hx hby d11_53 (pc' := 54) rfl rfl ?_
      refine own_iconst X3 hx hby d11_54 (pc' := 55) rfl (n := (2 : Int32)) (by decide) ?_
      refine own_icY X3 hx hby d11_55 (pc' := 71) (by decide) (by decide) (show (2 : Int32) = (2 : Int32) by decide) ?_
      refine own_iload X3 hx hby d11_71 (pc' := 73) rfl rfl ?_
      refine own_ireturn X3 hx hlk hby hret d11_73 (own_lv ?_ (by decide) (by decide))
      show QRK32 Z oa sa ko ks o0 o1 o2 s0 s1 s2 z02 z12  h0 n0 (some (.int (2 : Int32))) T3.heap _
      rw [e3]
      exact ⟨by simp [own_n1, hc19, hc42], N3, rfl⟩
theorem own_ef_rmEX0 (m : MethodId) (oa : Addr) (sa : Addr) (k : Int32) (ta : Addr)  : entryFrame m #[(.ref oa), (.ref sa), (.int (0 : Int32)), (.int k), (.ref ta)] 5 = mkF m 0 #[.val (.ref oa), .val (.ref sa), .val (.int (0 : Int32)), .val (.int k), .val (.ref ta)] [] := by first | (simp [entryFrame, mkF, argsToLocals, Value.category]; done) | rfl
def QEX0 (Z : State) (oa : Addr) (sa : Addr) (ko : ClassId) (ks : ClassId) (o0 : Int64) (o1 : Int64) (o2 : Int64) (s0 : Int64) (s1 : Int64) (s2 : Int64) (ta : Addr) (kt : ClassId) (x0 : Addr) (x1 : Addr) (x2 : Addr) (k : Int32) (h0 : Heap) (n0 : Nat) (v : Option Value) (h : Heap) (L : List Loc) : Prop := v = some (.null) ∧ Fr n0 L ∧ h = h0
set_option maxRecDepth 65536 in
set_option maxHeartbeats 40000000 in
theorem rmEX0 (l : Launch) (Z : State) (a0 : Array Value) (hw : ∀ d ∈ tables_1, d.before a0 Z = true) (ws : List Jvm.Cond) (oa : Addr) (sa : Addr) (ko : ClassId) (ks : ClassId) (o0 : Int64) (o1 : Int64) (o2 : Int64) (s0 : Int64) (s1 : Int64) (s2 : Int64) (ta : Addr) (kt : ClassId) (x0 : Addr) (x1 : Addr) (x2 : Addr) (k : Int32) (h0 : Heap) (n0 : Nat) (Z0 : n0 ≤ h0.size) (f_V_oa : Arv Z h0 oa ko .long (3 : Int32) [(.long o0), (.long o1), (.long o2)] (.long (0 : Int64))) (f_V_sa : Arv Z h0 sa ks .long (3 : Int32) [(.long s0), (.long s1), (.long s2)] (.long (0 : Int64))) (f_V_ta : Arv Z h0 ta kt (.object "com/example/earnest_reactor/earnestreactor/core/ScheduledTask") (3 : Int32) [(.ref x0), (.ref x1), (.ref x2)] .null) :
    MetFree l (⟨"com/example/earnest_reactor/earnestreactor/core/TimerQueuePollPinLaw", "expect", "([J[JII[Lcom/example/earnest_reactor/earnestreactor/core/ScheduledTask;)Lcom/example/earnest_reactor/earnestreactor/core/ScheduledTask;"⟩ : MethodName) (head1 (Jvm.Cond.code (⟨"com/example/earnest_reactor/earnestreactor/core/TimerQueuePollPinLaw", "expect", "([J[JII[Lcom/example/earnest_reactor/earnestreactor/core/ScheduledTask;)Lcom/example/earnest_reactor/earnestreactor/core/ScheduledTask;"⟩ : MethodName) method_5_code 5 (some (.object "com/example/earnest_reactor/earnestreactor/core/ScheduledTask")) :: ws) ({ frames := 0, cells := 0, slots := 0, locals := 0 } : Room)) (fun aa U => aa = #[(.ref oa), (.ref sa), (.int (0 : Int32)), (.int k), (.ref ta)] ∧ Z.Warmed39 U.vm ∧ U.heap = h0) (fun _ _ _ _ _ => True) (fun _ U oc U' => ∃ v L, oc = .returned v ∧ QEX0 Z oa sa ko ks o0 o1 o2 s0 s1 s2 ta kt x0 x1 x2 k h0 n0 v U'.heap L ∧ FrameEnd U oc U' L ({ frames := 0, cells := 0, slots := 0, locals := 0 } : Room).cells ({ frames := 0, cells := 0, slots := 0, locals := 0 } : Room).slots) := by
  refine MetFree.of_bodySF (plainFor_of_name own_pn5) hisR ?_
  intro p e s m args below meth c s₁ Bd hml0 hP hK
  obtain ⟨rfl, hZ, hh⟩ := hP
  have hx := Bd.exec
  have hby := Bd.bytes
  have hlk := Bd.notSynchronized
  have hret := Bd.returns
  have hml : c.maxLocals = 5 := hml0
  have hown : s.vm.findClass "com/example/earnest_reactor/earnestreactor/core/TimerQueuePollPinLaw" = some m.cls := findClass_of_methodNamed Bd.named
  have hnm := (name_of_methodNamed Bd.named Bd.method).1
  have X0 : Stand p l e ({ frames := 0, cells := 0, slots := 0, locals := 0 } : Room) s m #[(.ref oa), (.ref sa), (.int (0 : Int32)), (.int k), (.ref ta)] below meth c s₁ [] 0 0 := Stand.of_body Bd
  have e0 : s₁.heap = h0 := by rw [← hh, Bd.state]; rfl
  have N0 := Fr.nil n0
  refine own_body (Q := QEX0 Z oa sa ko ks o0 o1 o2 s0 s1 s2 ta kt x0 x1 x2 k h0 n0) (KC := ({ frames := 0, cells := 0, slots := 0, locals := 0 } : Room).cells) (KS := ({ frames := 0, cells := 0, slots := 0, locals := 0 } : Room).slots) ?_
  rw [own_ef_rmEX0 m oa sa k ta]
  refine own_iconst X0 hx hby d5_0 (pc' := 1) rfl (n := (0 : Int32)) (by decide) ?_
  refine own_iloadN X0 hx hby d5_1 (pc' := 2) rfl rfl ?_
  refine own_icY X0 hx hby d5_2 (pc' := 21) (by decide) (by decide) (show ¬ (0 : Int32) < (0 : Int32) by decide) ?_
  refine own_iconst X0 hx hby d5_21 (pc' := 22) rfl (n := (1 : Int32)) (by decide) ?_
  refine own_iloadN X0 hx hby d5_22 (pc' := 23) rfl rfl ?_
  refine own_icY X0 hx hby d5_23 (pc' := 42) (by decide) (by decide) (show ¬ (1 : Int32) < (0 : Int32) by decide) ?_
  refine own_iconst X0 hx hby d5_42 (pc' := 43) rfl (n := (2 : Int32)) (by decide) ?_
  refine own_iloadN X0 hx hby d5_43 (pc' := 44) rfl rfl ?_
  refine own_icY X0 hx hby d5_44 (pc' := 63) (by decide) (by decide) (show ¬ (2 : Int32) < (0 : Int32) by decide) ?_
  refine own_aconst_null X0 hx hby d5_63 (pc' := 64) rfl ?_
  refine own_areturn X0 hx hlk hby hret rfl rfl d5_64 (own_lv ?_ (by decide) (by decide))
  show QEX0 Z oa sa ko ks o0 o1 o2 s0 s1 s2 ta kt x0 x1 x2 k  h0 n0 (some .null) s₁.heap _
  rw [e0]
  exact ⟨rfl, N0, rfl⟩
theorem own_ef_rmEX1 (m : MethodId) (oa : Addr) (sa : Addr) (k : Int32) (ta : Addr)  : entryFrame m #[(.ref oa), (.ref sa), (.int (1 : Int32)), (.int k), (.ref ta)] 5 = mkF m 0 #[.val (.ref oa), .val (.ref sa), .val (.int (1 : Int32)), .val (.int k), .val (.ref ta)] [] := by first | (simp [entryFrame, mkF, argsToLocals, Value.category]; done) | rfl
def QEX1 (Z : State) (oa : Addr) (sa : Addr) (ko : ClassId) (ks : ClassId) (o0 : Int64) (o1 : Int64) (o2 : Int64) (s0 : Int64) (s1 : Int64) (s2 : Int64) (ta : Addr) (kt : ClassId) (x0 : Addr) (x1 : Addr) (x2 : Addr) (k : Int32) (h0 : Heap) (n0 : Nat) (v : Option Value) (h : Heap) (L : List Loc) : Prop := v = some (own_sel1 ((0 : Int32)) k (.ref x0)) ∧ Fr n0 L ∧ h = h0
set_option maxRecDepth 65536 in
set_option maxHeartbeats 40000000 in
theorem rmEX1 (l : Launch) (Z : State) (a0 : Array Value) (hw : ∀ d ∈ tables_1, d.before a0 Z = true) (ws : List Jvm.Cond) (oa : Addr) (sa : Addr) (ko : ClassId) (ks : ClassId) (o0 : Int64) (o1 : Int64) (o2 : Int64) (s0 : Int64) (s1 : Int64) (s2 : Int64) (ta : Addr) (kt : ClassId) (x0 : Addr) (x1 : Addr) (x2 : Addr) (k : Int32) (h0 : Heap) (n0 : Nat) (Z0 : n0 ≤ h0.size) (f_V_oa : Arv Z h0 oa ko .long (3 : Int32) [(.long o0), (.long o1), (.long o2)] (.long (0 : Int64))) (f_V_sa : Arv Z h0 sa ks .long (3 : Int32) [(.long s0), (.long s1), (.long s2)] (.long (0 : Int64))) (f_V_ta : Arv Z h0 ta kt (.object "com/example/earnest_reactor/earnestreactor/core/ScheduledTask") (3 : Int32) [(.ref x0), (.ref x1), (.ref x2)] .null) :
    MetFree l (⟨"com/example/earnest_reactor/earnestreactor/core/TimerQueuePollPinLaw", "expect", "([J[JII[Lcom/example/earnest_reactor/earnestreactor/core/ScheduledTask;)Lcom/example/earnest_reactor/earnestreactor/core/ScheduledTask;"⟩ : MethodName) (head1 (Jvm.Cond.code (⟨"com/example/earnest_reactor/earnestreactor/core/TimerQueuePollPinLaw", "expect", "([J[JII[Lcom/example/earnest_reactor/earnestreactor/core/ScheduledTask;)Lcom/example/earnest_reactor/earnestreactor/core/ScheduledTask;"⟩ : MethodName) method_5_code 5 (some (.object "com/example/earnest_reactor/earnestreactor/core/ScheduledTask")) :: ws) ({ frames := 1, cells := 0, slots := 0, locals := 16 } : Room)) (fun aa U => aa = #[(.ref oa), (.ref sa), (.int (1 : Int32)), (.int k), (.ref ta)] ∧ Z.Warmed39 U.vm ∧ U.heap = h0) (fun _ _ _ _ _ => True) (fun _ U oc U' => ∃ v L, oc = .returned v ∧ QEX1 Z oa sa ko ks o0 o1 o2 s0 s1 s2 ta kt x0 x1 x2 k h0 n0 v U'.heap L ∧ FrameEnd U oc U' L ({ frames := 1, cells := 0, slots := 0, locals := 16 } : Room).cells ({ frames := 1, cells := 0, slots := 0, locals := 16 } : Room).slots) := by
  refine MetFree.of_bodySF (plainFor_of_name own_pn5) hisR ?_
  intro p e s m args below meth c s₁ Bd hml0 hP hK
  obtain ⟨rfl, hZ, hh⟩ := hP
  have hx := Bd.exec
  have hby := Bd.bytes
  have hlk := Bd.notSynchronized
  have hret := Bd.returns
  have hml : c.maxLocals = 5 := hml0
  have hown : s.vm.findClass "com/example/earnest_reactor/earnestreactor/core/TimerQueuePollPinLaw" = some m.cls := findClass_of_methodNamed Bd.named
  have hnm := (name_of_methodNamed Bd.named Bd.method).1
  have X0 : Stand p l e ({ frames := 1, cells := 0, slots := 0, locals := 16 } : Room) s m #[(.ref oa), (.ref sa), (.int (1 : Int32)), (.int k), (.ref ta)] below meth c s₁ [] 0 0 := Stand.of_body Bd
  have e0 : s₁.heap = h0 := by rw [← hh, Bd.state]; rfl
  have N0 := Fr.nil n0
  refine own_body (Q := QEX1 Z oa sa ko ks o0 o1 o2 s0 s1 s2 ta kt x0 x1 x2 k h0 n0) (KC := ({ frames := 1, cells := 0, slots := 0, locals := 16 } : Room).cells) (KS := ({ frames := 1, cells := 0, slots := 0, locals := 16 } : Room).slots) ?_
  rw [own_ef_rmEX1 m oa sa k ta]
  refine own_iconst X0 hx hby d5_0 (pc' := 1) rfl (n := (0 : Int32)) (by decide) ?_
  refine own_iloadN X0 hx hby d5_1 (pc' := 2) rfl rfl ?_
  refine own_icN X0 hx hby d5_2 (pc' := 5) rfl (show (0 : Int32) < (1 : Int32) by decide) ?_
  refine own_aloadN X0 hx hby d5_5 (pc' := 6) rfl rfl rfl ?_
  refine own_aloadN X0 hx hby d5_6 (pc' := 7) rfl rfl rfl ?_
  refine own_iloadN X0 hx hby d5_7 (pc' := 8) rfl rfl ?_
  refine own_iconst X0 hx hby d5_8 (pc' := 9) rfl (n := (0 : Int32)) (by decide) ?_
  refine own_lk7 hw X0 hx hZ hby (by rw [hml]; rfl) hown d5_9 (pc' := 12) rfl e0 (W := 0) (Nat.le_of_eq rfl) (rmRK10 l Z a0 hw [] oa sa ko ks o0 o1 o2 s0 s1 s2 h0 n0 Z0 f_V_oa f_V_sa) (by decide) (by decide) (by decide) (by decide) (fun v1 T1 L1 X1 hQ1 => ?_)
  obtain ⟨rfl, Nq1, e1⟩ := hQ1
  have N1 := Fr.app N0 Nq1
  show own_End p e below _ (T1.setTop (mkF m 12 _ [(.int (0 : Int32))]))
  refine own_iloadN X1 hx hby d5_12 (pc' := 13) rfl rfl ?_
  refine own_ic2 X1 hx hby d5_13 (pc1 := 21) (by decide) (by decide) (pc2 := 16) rfl (fun (hc13 : ¬ (0 : Int32) = k) => ?_) (fun (hc13 : (0 : Int32) = k) => ?_)
  · refine own_iconst X1 hx hby d5_21 (pc' := 22) rfl (n := (1 : Int32)) (by decide) ?_
    refine own_iloadN X1 hx hby d5_22 (pc' := 23) rfl rfl ?_
    refine own_icY X1 hx hby d5_23 (pc' := 42) (by decide) (by decide) (show ¬ (1 : Int32) < (1 : Int32) by decide) ?_
    refine own_iconst X1 hx hby d5_42 (pc' := 43) rfl (n := (2 : Int32)) (by decide) ?_
    refine own_iloadN X1 hx hby d5_43 (pc' := 44) rfl rfl ?_
    refine own_icY X1 hx hby d5_44 (pc' := 63) (by decide) (by decide) (show ¬ (2 : Int32) < (1 : Int32) by decide) ?_
    refine own_aconst_null X1 hx hby d5_63 (pc' := 64) rfl ?_
    refine own_areturn X1 hx hlk hby hret rfl rfl d5_64 (own_lv ?_ (by decide) (by decide))
    show QEX1 Z oa sa ko ks o0 o1 o2 s0 s1 s2 ta kt x0 x1 x2 k  h0 n0 (some .null) T1.heap _
    rw [e1]
    exact ⟨by simp [own_sel1, hc13], N1, rfl⟩
  · refine own_aload X1 hx hby d5_16 (pc' := 18) rfl rfl rfl ?_
    refine own_iconst X1 hx hby d5_18 (pc' := 19) rfl (n := (0 : Int32)) (by decide) ?_
    obtain ⟨cl2, Ar2, q2, S2, M2, H2, G2⟩ := id f_V_ta
    have hin2 : ¬ ((0 : Int32) < 0 ∨ cl2.slots.size ≤ ((0 : Int32)).toNatClampNeg) := inb_of S2 ⟨by decide, by decide⟩
    have hat2 : cl2.slots[((0 : Int32)).toNatClampNeg]? = some (.ref x0) := H2.at hin2 rfl
    refine own_aaload X1 hx hZ hby e1 Ar2 rfl hin2 hat2 d5_19 (pc' := 20) rfl ?_
    refine own_areturn X1 hx hlk hby hret rfl rfl d5_20 (own_lv ?_ (by decide) (by decide))
    show QEX1 Z oa sa ko ks o0 o1 o2 s0 s1 s2 ta kt x0 x1 x2 k  h0 n0 (some (.ref x0)) T1.heap _
    rw [e1]
    exact ⟨by simp [own_sel1, hc13], N1, rfl⟩
theorem own_ef_rmEX2 (m : MethodId) (oa : Addr) (sa : Addr) (k : Int32) (ta : Addr)  : entryFrame m #[(.ref oa), (.ref sa), (.int (2 : Int32)), (.int k), (.ref ta)] 5 = mkF m 0 #[.val (.ref oa), .val (.ref sa), .val (.int (2 : Int32)), .val (.int k), .val (.ref ta)] [] := by first | (simp [entryFrame, mkF, argsToLocals, Value.category]; done) | rfl
def QEX2 (Z : State) (oa : Addr) (sa : Addr) (ko : ClassId) (ks : ClassId) (o0 : Int64) (o1 : Int64) (o2 : Int64) (s0 : Int64) (s1 : Int64) (s2 : Int64) (ta : Addr) (kt : ClassId) (x0 : Addr) (x1 : Addr) (x2 : Addr) (k : Int32) (z01 : Int32) (z10 : Int32) (h0 : Heap) (n0 : Nat) (v : Option Value) (h : Heap) (L : List Loc) : Prop := v = some (own_sel2 (own_n1 z10) (own_n1 z01) k (.ref x0) (.ref x1)) ∧ Fr n0 L ∧ h = h0
set_option maxRecDepth 65536 in
set_option maxHeartbeats 40000000 in
theorem rmEX2 (l : Launch) (Z : State) (a0 : Array Value) (hw : ∀ d ∈ tables_1, d.before a0 Z = true) (ws : List Jvm.Cond) (oa : Addr) (sa : Addr) (ko : ClassId) (ks : ClassId) (o0 : Int64) (o1 : Int64) (o2 : Int64) (s0 : Int64) (s1 : Int64) (s2 : Int64) (ta : Addr) (kt : ClassId) (x0 : Addr) (x1 : Addr) (x2 : Addr) (k : Int32) (z01 : Int32) (z10 : Int32) (h0 : Heap) (n0 : Nat) (Z0 : n0 ≤ h0.size) (f_V_oa : Arv Z h0 oa ko .long (3 : Int32) [(.long o0), (.long o1), (.long o2)] (.long (0 : Int64))) (f_V_sa : Arv Z h0 sa ks .long (3 : Int32) [(.long s0), (.long s1), (.long s2)] (.long (0 : Int64))) (f_V_ta : Arv Z h0 ta kt (.object "com/example/earnest_reactor/earnestreactor/core/ScheduledTask") (3 : Int32) [(.ref x0), (.ref x1), (.ref x2)] .null) (hz01 : own_bf o0 s0 o1 s1 = z01) (hz10 : own_bf o1 s1 o0 s0 = z10) :
    MetFree l (⟨"com/example/earnest_reactor/earnestreactor/core/TimerQueuePollPinLaw", "expect", "([J[JII[Lcom/example/earnest_reactor/earnestreactor/core/ScheduledTask;)Lcom/example/earnest_reactor/earnestreactor/core/ScheduledTask;"⟩ : MethodName) (head1 (Jvm.Cond.code (⟨"com/example/earnest_reactor/earnestreactor/core/TimerQueuePollPinLaw", "expect", "([J[JII[Lcom/example/earnest_reactor/earnestreactor/core/ScheduledTask;)Lcom/example/earnest_reactor/earnestreactor/core/ScheduledTask;"⟩ : MethodName) method_5_code 5 (some (.object "com/example/earnest_reactor/earnestreactor/core/ScheduledTask")) :: ws) ({ frames := 2, cells := 0, slots := 0, locals := 31 } : Room)) (fun aa U => aa = #[(.ref oa), (.ref sa), (.int (2 : Int32)), (.int k), (.ref ta)] ∧ Z.Warmed39 U.vm ∧ U.heap = h0) (fun _ _ _ _ _ => True) (fun _ U oc U' => ∃ v L, oc = .returned v ∧ QEX2 Z oa sa ko ks o0 o1 o2 s0 s1 s2 ta kt x0 x1 x2 k z01 z10 h0 n0 v U'.heap L ∧ FrameEnd U oc U' L ({ frames := 2, cells := 0, slots := 0, locals := 31 } : Room).cells ({ frames := 2, cells := 0, slots := 0, locals := 31 } : Room).slots) := by
  refine MetFree.of_bodySF (plainFor_of_name own_pn5) hisR ?_
  intro p e s m args below meth c s₁ Bd hml0 hP hK
  obtain ⟨rfl, hZ, hh⟩ := hP
  have hx := Bd.exec
  have hby := Bd.bytes
  have hlk := Bd.notSynchronized
  have hret := Bd.returns
  have hml : c.maxLocals = 5 := hml0
  have hown : s.vm.findClass "com/example/earnest_reactor/earnestreactor/core/TimerQueuePollPinLaw" = some m.cls := findClass_of_methodNamed Bd.named
  have hnm := (name_of_methodNamed Bd.named Bd.method).1
  have X0 : Stand p l e ({ frames := 2, cells := 0, slots := 0, locals := 31 } : Room) s m #[(.ref oa), (.ref sa), (.int (2 : Int32)), (.int k), (.ref ta)] below meth c s₁ [] 0 0 := Stand.of_body Bd
  have e0 : s₁.heap = h0 := by rw [← hh, Bd.state]; rfl
  have N0 := Fr.nil n0
  refine own_body (Q := QEX2 Z oa sa ko ks o0 o1 o2 s0 s1 s2 ta kt x0 x1 x2 k z01 z10 h0 n0) (KC := ({ frames := 2, cells := 0, slots := 0, locals := 31 } : Room).cells) (KS := ({ frames := 2, cells := 0, slots := 0, locals := 31 } : Room).slots) ?_
  rw [own_ef_rmEX2 m oa sa k ta]
  refine own_iconst X0 hx hby d5_0 (pc' := 1) rfl (n := (0 : Int32)) (by decide) ?_
  refine own_iloadN X0 hx hby d5_1 (pc' := 2) rfl rfl ?_
  refine own_icN X0 hx hby d5_2 (pc' := 5) rfl (show (0 : Int32) < (2 : Int32) by decide) ?_
  refine own_aloadN X0 hx hby d5_5 (pc' := 6) rfl rfl rfl ?_
  refine own_aloadN X0 hx hby d5_6 (pc' := 7) rfl rfl rfl ?_
  refine own_iloadN X0 hx hby d5_7 (pc' := 8) rfl rfl ?_
  refine own_iconst X0 hx hby d5_8 (pc' := 9) rfl (n := (0 : Int32)) (by decide) ?_
  refine own_lk7 hw X0 hx hZ hby (by rw [hml]; rfl) hown d5_9 (pc' := 12) rfl e0 (W := 0) (Nat.le_of_eq rfl) (rmRK20 l Z a0 hw [] oa sa ko ks o0 o1 o2 s0 s1 s2 z10 h0 n0 Z0 f_V_oa f_V_sa hz10) (by decide) (by decide) (by decide) (by decide) (fun v1 T1 L1 X1 hQ1 => ?_)
  obtain ⟨rfl, Nq1, e1⟩ := hQ1
  have N1 := Fr.app N0 Nq1
  show own_End p e below _ (T1.setTop (mkF m 12 _ [(.int (own_n1 z10))]))
  refine own_iloadN X1 hx hby d5_12 (pc' := 13) rfl rfl ?_
  refine own_ic2 X1 hx hby d5_13 (pc1 := 21) (by decide) (by decide) (pc2 := 16) rfl (fun (hc13 : ¬ (own_n1 z10) = k) => ?_) (fun (hc13 : (own_n1 z10) = k) => ?_)
  · refine own_iconst X1 hx hby d5_21 (pc' := 22) rfl (n := (1 : Int32)) (by decide) ?_
    refine own_iloadN X1 hx hby d5_22 (pc' := 23) rfl rfl ?_
    refine own_icN X1 hx hby d5_23 (pc' := 26) rfl (show (1 : Int32) < (2 : Int32) by decide) ?_
    refine own_aloadN X1 hx hby d5_26 (pc' := 27) rfl rfl rfl ?_
    refine own_aloadN X1 hx hby d5_27 (pc' := 28) rfl rfl rfl ?_
    refine own_iloadN X1 hx hby d5_28 (pc' := 29) rfl rfl ?_
    refine own_iconst X1 hx hby d5_29 (pc' := 30) rfl (n := (1 : Int32)) (by decide) ?_
    refine own_lk7 hw X1 hx hZ hby (by rw [hml]; rfl) hown d5_30 (pc' := 33) rfl e1 (W := 0) (Nat.le_of_eq rfl) (rmRK21 l Z a0 hw [] oa sa ko ks o0 o1 o2 s0 s1 s2 z01 h0 n0 Z0 f_V_oa f_V_sa hz01) (by decide) (by decide) (by decide) (by decide) (fun v2 T2 L2 X2 hQ2 => ?_)
    obtain ⟨rfl, Nq2, e2⟩ := hQ2
    have N2 := Fr.app N1 Nq2
    show own_End p e below _ (T2.setTop (mkF m 33 _ [(.int (own_n1 z01))]))
    refine own_iloadN X2 hx hby d5_33 (pc' := 34) rfl rfl ?_
    refine own_ic2 X2 hx hby d5_34 (pc1 := 42) (by decide) (by decide) (pc2 := 37) rfl (fun (hc34 : ¬ (own_n1 z01) = k) => ?_) (fun (hc34 : (own_n1 z01) = k) => ?_)
    · refine own_iconst X2 hx hby d5_42 (pc' := 43) rfl (n := (2 : Int32)) (by decide) ?_
      refine own_iloadN X2 hx hby d5_43 (pc' := 44) rfl rfl ?_
      refine own_icY X2 hx hby d5_44 (pc' := 63) (by decide) (by decide) (show ¬ (2 : Int32) < (2 : Int32) by decide) ?_
      refine own_aconst_null X2 hx hby d5_63 (pc' := 64) rfl ?_
      refine own_areturn X2 hx hlk hby hret rfl rfl d5_64 (own_lv ?_ (by decide) (by decide))
      show QEX2 Z oa sa ko ks o0 o1 o2 s0 s1 s2 ta kt x0 x1 x2 k z01 z10  h0 n0 (some .null) T2.heap _
      rw [e2]
      exact ⟨by simp [own_sel2, hc13, hc34], N2, rfl⟩
    · refine own_aload X2 hx hby d5_37 (pc' := 39) rfl rfl rfl ?_
      refine own_iconst X2 hx hby d5_39 (pc' := 40) rfl (n := (1 : Int32)) (by decide) ?_
      obtain ⟨cl3, Ar3, q3, S3, M3, H3, G3⟩ := id f_V_ta
      have hin3 : ¬ ((1 : Int32) < 0 ∨ cl3.slots.size ≤ ((1 : Int32)).toNatClampNeg) := inb_of S3 ⟨by decide, by decide⟩
      have hat3 : cl3.slots[((1 : Int32)).toNatClampNeg]? = some (.ref x1) := H3.at hin3 rfl
      refine own_aaload X2 hx hZ hby e2 Ar3 rfl hin3 hat3 d5_40 (pc' := 41) rfl ?_
      refine own_areturn X2 hx hlk hby hret rfl rfl d5_41 (own_lv ?_ (by decide) (by decide))
      show QEX2 Z oa sa ko ks o0 o1 o2 s0 s1 s2 ta kt x0 x1 x2 k z01 z10  h0 n0 (some (.ref x1)) T2.heap _
      rw [e2]
      exact ⟨by simp [own_sel2, hc13, hc34], N2, rfl⟩
  · refine own_aload X1 hx hby d5_16 (pc' := 18) rfl rfl rfl ?_
    refine own_iconst X1 hx hby d5_18 (pc' := 19) rfl (n := (0 : Int32)) (by decide) ?_
    obtain ⟨cl4, Ar4, q4, S4, M4, H4, G4⟩ := id f_V_ta
    have hin4 : ¬ ((0 : Int32) < 0 ∨ cl4.slots.size ≤ ((0 : Int32)).toNatClampNeg) := inb_of S4 ⟨by decide, by decide⟩
    have hat4 : cl4.slots[((0 : Int32)).toNatClampNeg]? = some (.ref x0) := H4.at hin4 rfl
    refine own_aaload X1 hx hZ hby e1 Ar4 rfl hin4 hat4 d5_19 (pc' := 20) rfl ?_
    refine own_areturn X1 hx hlk hby hret rfl rfl d5_20 (own_lv ?_ (by decide) (by decide))
    show QEX2 Z oa sa ko ks o0 o1 o2 s0 s1 s2 ta kt x0 x1 x2 k z01 z10  h0 n0 (some (.ref x0)) T1.heap _
    rw [e1]
    exact ⟨by simp [own_sel2, hc13], N1, rfl⟩
theorem own_ef_rmEX3 (m : MethodId) (oa : Addr) (sa : Addr) (k : Int32) (ta : Addr)  : entryFrame m #[(.ref oa), (.ref sa), (.int (3 : Int32)), (.int k), (.ref ta)] 5 = mkF m 0 #[.val (.ref oa), .val (.ref sa), .val (.int (3 : Int32)), .val (.int k), .val (.ref ta)] [] := by first | (simp [entryFrame, mkF, argsToLocals, Value.category]; done) | rfl
def QEX3 (Z : State) (oa : Addr) (sa : Addr) (ko : ClassId) (ks : ClassId) (o0 : Int64) (o1 : Int64) (o2 : Int64) (s0 : Int64) (s1 : Int64) (s2 : Int64) (ta : Addr) (kt : ClassId) (x0 : Addr) (x1 : Addr) (x2 : Addr) (k : Int32) (z01 : Int32) (z02 : Int32) (z10 : Int32) (z12 : Int32) (z20 : Int32) (z21 : Int32) (h0 : Heap) (n0 : Nat) (v : Option Value) (h : Heap) (L : List Loc) : Prop := v = some (own_sel3 (own_n1 z10 + own_n1 z20) (own_n1 z01 + own_n1 z21) (own_n1 z02 + own_n1 z12) k (.ref x0) (.ref x1) (.ref x2)) ∧ Fr n0 L ∧ h = h0
set_option maxRecDepth 65536 in
set_option maxHeartbeats 40000000 in
theorem rmEX3 (l : Launch) (Z : State) (a0 : Array Value) (hw : ∀ d ∈ tables_1, d.before a0 Z = true) (ws : List Jvm.Cond) (oa : Addr) (sa : Addr) (ko : ClassId) (ks : ClassId) (o0 : Int64) (o1 : Int64) (o2 : Int64) (s0 : Int64) (s1 : Int64) (s2 : Int64) (ta : Addr) (kt : ClassId) (x0 : Addr) (x1 : Addr) (x2 : Addr) (k : Int32) (z01 : Int32) (z02 : Int32) (z10 : Int32) (z12 : Int32) (z20 : Int32) (z21 : Int32) (h0 : Heap) (n0 : Nat) (Z0 : n0 ≤ h0.size) (f_V_oa : Arv Z h0 oa ko .long (3 : Int32) [(.long o0), (.long o1), (.long o2)] (.long (0 : Int64))) (f_V_sa : Arv Z h0 sa ks .long (3 : Int32) [(.long s0), (.long s1), (.long s2)] (.long (0 : Int64))) (f_V_ta : Arv Z h0 ta kt (.object "com/example/earnest_reactor/earnestreactor/core/ScheduledTask") (3 : Int32) [(.ref x0), (.ref x1), (.ref x2)] .null) (hz01 : own_bf o0 s0 o1 s1 = z01) (hz02 : own_bf o0 s0 o2 s2 = z02) (hz10 : own_bf o1 s1 o0 s0 = z10) (hz12 : own_bf o1 s1 o2 s2 = z12) (hz20 : own_bf o2 s2 o0 s0 = z20) (hz21 : own_bf o2 s2 o1 s1 = z21) :
    MetFree l (⟨"com/example/earnest_reactor/earnestreactor/core/TimerQueuePollPinLaw", "expect", "([J[JII[Lcom/example/earnest_reactor/earnestreactor/core/ScheduledTask;)Lcom/example/earnest_reactor/earnestreactor/core/ScheduledTask;"⟩ : MethodName) (head1 (Jvm.Cond.code (⟨"com/example/earnest_reactor/earnestreactor/core/TimerQueuePollPinLaw", "expect", "([J[JII[Lcom/example/earnest_reactor/earnestreactor/core/ScheduledTask;)Lcom/example/earnest_reactor/earnestreactor/core/ScheduledTask;"⟩ : MethodName) method_5_code 5 (some (.object "com/example/earnest_reactor/earnestreactor/core/ScheduledTask")) :: ws) ({ frames := 2, cells := 0, slots := 0, locals := 31 } : Room)) (fun aa U => aa = #[(.ref oa), (.ref sa), (.int (3 : Int32)), (.int k), (.ref ta)] ∧ Z.Warmed39 U.vm ∧ U.heap = h0) (fun _ _ _ _ _ => True) (fun _ U oc U' => ∃ v L, oc = .returned v ∧ QEX3 Z oa sa ko ks o0 o1 o2 s0 s1 s2 ta kt x0 x1 x2 k z01 z02 z10 z12 z20 z21 h0 n0 v U'.heap L ∧ FrameEnd U oc U' L ({ frames := 2, cells := 0, slots := 0, locals := 31 } : Room).cells ({ frames := 2, cells := 0, slots := 0, locals := 31 } : Room).slots) := by
  refine MetFree.of_bodySF (plainFor_of_name own_pn5) hisR ?_
  intro p e s m args below meth c s₁ Bd hml0 hP hK
  obtain ⟨rfl, hZ, hh⟩ := hP
  have hx := Bd.exec
  have hby := Bd.bytes
  have hlk := Bd.notSynchronized
  have hret := Bd.returns
  have hml : c.maxLocals = 5 := hml0
  have hown : s.vm.findClass "com/example/earnest_reactor/earnestreactor/core/TimerQueuePollPinLaw" = some m.cls := findClass_of_methodNamed Bd.named
  have hnm := (name_of_methodNamed Bd.named Bd.method).1
  have X0 : Stand p l e ({ frames := 2, cells := 0, slots := 0, locals := 31 } : Room) s m #[(.ref oa), (.ref sa), (.int (3 : Int32)), (.int k), (.ref ta)] below meth c s₁ [] 0 0 := Stand.of_body Bd
  have e0 : s₁.heap = h0 := by rw [← hh, Bd.state]; rfl
  have N0 := Fr.nil n0
  refine own_body (Q := QEX3 Z oa sa ko ks o0 o1 o2 s0 s1 s2 ta kt x0 x1 x2 k z01 z02 z10 z12 z20 z21 h0 n0) (KC := ({ frames := 2, cells := 0, slots := 0, locals := 31 } : Room).cells) (KS := ({ frames := 2, cells := 0, slots := 0, locals := 31 } : Room).slots) ?_
  rw [own_ef_rmEX3 m oa sa k ta]
  refine own_iconst X0 hx hby d5_0 (pc' := 1) rfl (n := (0 : Int32)) (by decide) ?_
  refine own_iloadN X0 hx hby d5_1 (pc' := 2) rfl rfl ?_
  refine own_icN X0 hx hby d5_2 (pc' := 5) rfl (show (0 : Int32) < (3 : Int32) by decide) ?_
  refine own_aloadN X0 hx hby d5_5 (pc' := 6) rfl rfl rfl ?_
  refine own_aloadN X0 hx hby d5_6 (pc' := 7) rfl rfl rfl ?_
  refine own_iloadN X0 hx hby d5_7 (pc' := 8) rfl rfl ?_
  refine own_iconst X0 hx hby d5_8 (pc' := 9) rfl (n := (0 : Int32)) (by decide) ?_
  refine own_lk7 hw X0 hx hZ hby (by rw [hml]; rfl) hown d5_9 (pc' := 12) rfl e0 (W := 0) (Nat.le_of_eq rfl) (rmRK30 l Z a0 hw [] oa sa ko ks o0 o1 o2 s0 s1 s2 z10 z20 h0 n0 Z0 f_V_oa f_V_sa hz10 hz20) (by decide) (by decide) (by decide) (by decide) (fun v1 T1 L1 X1 hQ1 => ?_)
  obtain ⟨rfl, Nq1, e1⟩ := hQ1
  have N1 := Fr.app N0 Nq1
  show own_End p e below _ (T1.setTop (mkF m 12 _ [(.int (own_n1 z10 + own_n1 z20))]))
  refine own_iloadN X1 hx hby d5_12 (pc' := 13) rfl rfl ?_
  refine own_ic2 X1 hx hby d5_13 (pc1 := 21) (by decide) (by decide) (pc2 := 16) rfl (fun (hc13 : ¬ (own_n1 z10 + own_n1 z20) = k) => ?_) (fun (hc13 : (own_n1 z10 + own_n1 z20) = k) => ?_)
  · refine own_iconst X1 hx hby d5_21 (pc' := 22) rfl (n := (1 : Int32)) (by decide) ?_
    refine own_iloadN X1 hx hby d5_22 (pc' := 23) rfl rfl ?_
    refine own_icN X1 hx hby d5_23 (pc' := 26) rfl (show (1 : Int32) < (3 : Int32) by decide) ?_
    refine own_aloadN X1 hx hby d5_26 (pc' := 27) rfl rfl rfl ?_
    refine own_aloadN X1 hx hby d5_27 (pc' := 28) rfl rfl rfl ?_
    refine own_iloadN X1 hx hby d5_28 (pc' := 29) rfl rfl ?_
    refine own_iconst X1 hx hby d5_29 (pc' := 30) rfl (n := (1 : Int32)) (by decide) ?_
    refine own_lk7 hw X1 hx hZ hby (by rw [hml]; rfl) hown d5_30 (pc' := 33) rfl e1 (W := 0) (Nat.le_of_eq rfl) (rmRK31 l Z a0 hw [] oa sa ko ks o0 o1 o2 s0 s1 s2 z01 z21 h0 n0 Z0 f_V_oa f_V_sa hz01 hz21) (by decide) (by decide) (by decide) (by decide) (fun v2 T2 L2 X2 hQ2 => ?_)
    obtain ⟨rfl, Nq2, e2⟩ := hQ2
    have N2 := Fr.app N1 Nq2
    show own_End p e below _ (T2.setTop (mkF m 33 _ [(.int (own_n1 z01 + own_n1 z21))]))
    refine own_iloadN X2 hx hby d5_33 (pc' := 34) rfl rfl ?_
    refine own_ic2 X2 hx hby d5_34 (pc1 := 42) (by decide) (by decide) (pc2 := 37) rfl (fun (hc34 : ¬ (own_n1 z01 + own_n1 z21) = k) => ?_) (fun (hc34 : (own_n1 z01 + own_n1 z21) = k) => ?_)
    · refine own_iconst X2 hx hby d5_42 (pc' := 43) rfl (n := (2 : Int32)) (by decide) ?_
      refine own_iloadN X2 hx hby d5_43 (pc' := 44) rfl rfl ?_
      refine own_icN X2 hx hby d5_44 (pc' := 47) rfl (show (2 : Int32) < (3 : Int32) by decide) ?_
      refine own_aloadN X2 hx hby d5_47 (pc' := 48) rfl rfl rfl ?_
      refine own_aloadN X2 hx hby d5_48 (pc' := 49) rfl rfl rfl ?_
      refine own_iloadN X2 hx hby d5_49 (pc' := 50) rfl rfl ?_
      refine own_iconst X2 hx hby d5_50 (pc' := 51) rfl (n := (2 : Int32)) (by decide) ?_
      refine own_lk7 hw X2 hx hZ hby (by rw [hml]; rfl) hown d5_51 (pc' := 54) rfl e2 (W := 0) (Nat.le_of_eq rfl) (rmRK32 l Z a0 hw [] oa sa ko ks o0 o1 o2 s0 s1 s2 z02 z12 h0 n0 Z0 f_V_oa f_V_sa hz02 hz12) (by decide) (by decide) (by decide) (by decide) (fun v3 T3 L3 X3 hQ3 => ?_)
      obtain ⟨rfl, Nq3, e3⟩ := hQ3
      have N3 := Fr.app N2 Nq3
      show own_End p e below _ (T3.setTop (mkF m 54 _ [(.int (own_n1 z02 + own_n1 z12))]))
      refine own_iloadN X3 hx hby d5_54 (pc' := 55) rfl rfl ?_
      refine own_ic2 X3 hx hby d5_55 (pc1 := 63) (by decide) (by decide) (pc2 := 58) rfl (fun (hc55 : ¬ (own_n1 z02 + own_n1 z12) = k) => ?_) (fun (hc55 : (own_n1 z02 + own_n1 z12) = k) => ?_)
      · refine own_aconst_null X3 hx hby d5_63 (pc' := 64) rfl ?_
        refine own_areturn X3 hx hlk hby hret rfl rfl d5_64 (own_lv ?_ (by decide) (by decide))
        show QEX3 Z oa sa ko ks o0 o1 o2 s0 s1 s2 ta kt x0 x1 x2 k z01 z02 z10 z12 z20 z21  h0 n0 (some .null) T3.heap _
        rw [e3]
        exact ⟨by simp [own_sel3, hc13, hc34, hc55], N3, rfl⟩
      · refine own_aload X3 hx hby d5_58 (pc' := 60) rfl rfl rfl ?_
        refine own_iconst X3 hx hby d5_60 (pc' := 61) rfl (n := (2 : Int32)) (by decide) ?_
        obtain ⟨cl4, Ar4, q4, S4, M4, H4, G4⟩ := id f_V_ta
        have hin4 : ¬ ((2 : Int32) < 0 ∨ cl4.slots.size ≤ ((2 : Int32)).toNatClampNeg) := inb_of S4 ⟨by decide, by decide⟩
        have hat4 : cl4.slots[((2 : Int32)).toNatClampNeg]? = some (.ref x2) := H4.at hin4 rfl
        refine own_aaload X3 hx hZ hby e3 Ar4 rfl hin4 hat4 d5_61 (pc' := 62) rfl ?_
        refine own_areturn X3 hx hlk hby hret rfl rfl d5_62 (own_lv ?_ (by decide) (by decide))
        show QEX3 Z oa sa ko ks o0 o1 o2 s0 s1 s2 ta kt x0 x1 x2 k z01 z02 z10 z12 z20 z21  h0 n0 (some (.ref x2)) T3.heap _
        rw [e3]
        exact ⟨by simp [own_sel3, hc13, hc34, hc55], N3, rfl⟩
    · refine own_aload X2 hx hby d5_37 (pc' := 39) rfl rfl rfl ?_
      refine own_iconst X2 hx hby d5_39 (pc' := 40) rfl (n := (1 : Int32)) (by decide) ?_
      obtain ⟨cl5, Ar5, q5, S5, M5, H5, G5⟩ := id f_V_ta
      have hin5 : ¬ ((1 : Int32) < 0 ∨ cl5.slots.size ≤ ((1 : Int32)).toNatClampNeg) := inb_of S5 ⟨by decide, by decide⟩
      have hat5 : cl5.slots[((1 : Int32)).toNatClampNeg]? = some (.ref x1) := H5.at hin5 rfl
      refine own_aaload X2 hx hZ hby e2 Ar5 rfl hin5 hat5 d5_40 (pc' := 41) rfl ?_
      refine own_areturn X2 hx hlk hby hret rfl rfl d5_41 (own_lv ?_ (by decide) (by decide))
      show QEX3 Z oa sa ko ks o0 o1 o2 s0 s1 s2 ta kt x0 x1 x2 k z01 z02 z10 z12 z20 z21  h0 n0 (some (.ref x1)) T2.heap _
      rw [e2]
      exact ⟨by simp [own_sel3, hc13, hc34], N2, rfl⟩
  · refine own_aload X1 hx hby d5_16 (pc' := 18) rfl rfl rfl ?_
    refine own_iconst X1 hx hby d5_18 (pc' := 19) rfl (n := (0 : Int32)) (by decide) ?_
    obtain ⟨cl6, Ar6, q6, S6, M6, H6, G6⟩ := id f_V_ta
    have hin6 : ¬ ((0 : Int32) < 0 ∨ cl6.slots.size ≤ ((0 : Int32)).toNatClampNeg) := inb_of S6 ⟨by decide, by decide⟩
    have hat6 : cl6.slots[((0 : Int32)).toNatClampNeg]? = some (.ref x0) := H6.at hin6 rfl
    refine own_aaload X1 hx hZ hby e1 Ar6 rfl hin6 hat6 d5_19 (pc' := 20) rfl ?_
    refine own_areturn X1 hx hlk hby hret rfl rfl d5_20 (own_lv ?_ (by decide) (by decide))
    show QEX3 Z oa sa ko ks o0 o1 o2 s0 s1 s2 ta kt x0 x1 x2 k z01 z02 z10 z12 z20 z21  h0 n0 (some (.ref x0)) T1.heap _
    rw [e1]
    exact ⟨by simp [own_sel3, hc13], N1, rfl⟩
theorem own_ef_rm0 (m : MethodId) (p0 : Int64) (p1 : Int64) (p2 : Int64) (p3 : Int64) (p4 : Int32) (p5 : Int32)  : entryFrame m #[(.long p0), (.long p1), (.long p2), (.long p3), (.int p4), (.int p5)] maxLocals = mkF m 0 #[.val (.long p0), .second, .val (.long p1), .second, .val (.long p2), .second, .val (.long p3), .second, .val (.int p4), .val (.int p5), .unset, .unset, .unset, .unset, .unset, .unset, .unset, .unset, .unset, .unset, .unset, .unset, .unset, .unset, .unset, .unset] [] := by first | (simp [entryFrame, mkF, argsToLocals, Value.category, maxLocals]; done) | rfl
def Q0 (Z : State) (p0 : Int64) (p1 : Int64) (p2 : Int64) (p3 : Int64) (p4 : Int32) (p5 : Int32) (h0 : Heap) (n0 : Nat) (v : Option Value) (h : Heap) (L : List Loc) : Prop := v = some (.int 1) ∧ Fr n0 L
set_option maxRecDepth 65536 in
set_option maxHeartbeats 40000000 in
theorem own_s230 {p : Program} {l : Launch} {e : Env} {s : State} {m : MethodId} {below : List Frame} {meth : Method} {c : Code} {T0 : State} {locs : List Loc} (Z : State) (a0 : Array Value) (hw : ∀ d ∈ tables_1, d.before a0 Z = true) (p0 : Int64) (p1 : Int64) (p2 : Int64) (p3 : Int64) (p4 : Int32) (p5 : Int32) (oa : Addr) (sa : Addr) (ko : ClassId) (ks : ClassId) (o0 : Int64) (o1 : Int64) (o2 : Int64) (s0 : Int64) (s1 : Int64) (s2 : Int64) (n : Int32) (pm : Int32) (lo : Int64) (hi : Int64) (sw : Int32) (ta : Addr) (kt : ClassId) (x0 : Addr) (x1 : Addr) (x2 : Addr) (q : Addr) (w : Addr) (kk : ClassId) (h0 : Heap) (n0 : Nat) (h1 : Heap)
    (X0 : Stand p l e room_1 s m #[(.long p0), (.long p1), (.long p2), (.long p3), (.int p4), (.int p5)] below meth c T0 locs 8 42) (hx : p.tables.exec = Jvm.exec) (hby : c.code = code) (hlk : meth.locks = false) (hml : c.maxLocals = 26) (hown : s.vm.findClass "com/example/earnest_reactor/earnestreactor/core/TimerQueuePollPinLaw" = some m.cls) (hret : meth.sig.returnType = some .boolean) (hZ : Z.Warmed39 s.vm) (e1 : T0.heap = h1) (N0 : Fr n0 locs) (Z1 : n0 ≤ h1.size) (f_V_oa : Arv Z h1 oa ko .long (3 : Int32) [(.long o0), (.long o1), (.long o2)] (.long (0 : Int64))) (f_V_sa : Arv Z h1 sa ks .long (3 : Int32) [(.long s0), (.long s1), (.long s2)] (.long (0 : Int64))) (f_V_ta : Arv Z h1 ta kt (.object "com/example/earnest_reactor/earnestreactor/core/ScheduledTask") (3 : Int32) [(.ref x0), (.ref x1), (.ref x2)] .null) (hb0 : 0 ≤ o0.toInt ∧ o0.toInt < 4611686018427387904) (hb1 : 0 ≤ o1.toInt ∧ o1.toInt < 4611686018427387904) (hb2 : 0 ≤ o2.toInt ∧ o2.toInt < 4611686018427387904) (hs01 : ¬ s0 = s1) (hs02 : ¬ s0 = s2) (hs12 : ¬ s1 = s2) (hn : n = (0 : Int32) ∨ n = (1 : Int32) ∨ n = (2 : Int32) ∨ n = (3 : Int32)) (f_O_q : own_TQ Z h1 q (.ref w) (0 : Int32)) (f_V_w : Arv Z h1 w kk (.object "com/example/earnest_reactor/earnestreactor/core/ScheduledTask") (16 : Int32) [.null, .null, .null] .null) (ho : Ovr Z kk "com/example/earnest_reactor/earnestreactor/core/ScheduledTask") (ge_q : n0 ≤ q) (ge_w : n0 ≤ w) (ne_ta_w : ta ≠ w) (ne_oa_w : oa ≠ w) (ne_sa_w : sa ≠ w) (f_O_x0 : own_TK Z h1 x0 .null (p0 + o0) s0 .null (-1 : Int32)) (f_O_x1 : own_TK Z h1 x1 .null (p0 + o1) s1 .null (-1 : Int32)) (f_O_x2 : own_TK Z h1 x2 .null (p0 + o2) s2 .null (-1 : Int32)) (ge_x0 : n0 ≤ x0) (ge_x1 : n0 ≤ x1) (ge_x2 : n0 ≤ x2) (ne_x0_x1 : x0 ≠ x1) (ne_x0_x2 : x0 ≠ x2) (ne_x1_x2 : x1 ≠ x2) :
    own_End p e below (own_F s (Q0 Z p0 p1 p2 p3 p4 p5 h0 n0) room_1.cells room_1.slots) (T0.setTop (mkF m 230 #[.val (.long p0), .second, .val (.long p1), .second, .val (.long p2), .second, .val (.long p3), .second, .val (.int p4), .val (.int p5), .val (.int n), .val (.ref oa), .val (.int pm), .val (.ref sa), .val (.long lo), .second, .val (.long hi), .second, .val (.int sw), .val (.ref ta), .val (.ref q), .unset, .unset, .unset, .unset, .unset] [])) := by
  refine own_iload X0 hx hby at_230 (pc' := 232) rfl rfl ?_
  rcases hn with rfl | rfl | rfl | rfl
  · show own_End p e below _ (T0.setTop (mkF m 232 #[.val (.long p0), .second, .val (.long p1), .second, .val (.long p2), .second, .val (.long p3), .second, .val (.int p4), .val (.int p5), .val (.int (0 : Int32)), .val (.ref oa), .val (.int pm), .val (.ref sa), .val (.long lo), .second, .val (.long hi), .second, .val (.int sw), .val (.ref ta), .val (.ref q), .unset, .unset, .unset, .unset, .unset] [(.int (0 : Int32))]))
    refine own_iconst X0 hx hby at_232 (pc' := 233) rfl (n := (1 : Int32)) (by decide) ?_
    refine own_icY X0 hx hby at_233 (pc' := 245) (by decide) (by decide) (show (0 : Int32) < (1 : Int32) by decide) ?_
    refine own_iload X0 hx hby at_245 (pc' := 247) rfl rfl ?_
    refine own_iconst X0 hx hby at_247 (pc' := 248) rfl (n := (2 : Int32)) (by decide) ?_
    refine own_icY X0 hx hby at_248 (pc' := 260) (by decide) (by decide) (show (0 : Int32) < (2 : Int32) by decide) ?_
    refine own_iload X0 hx hby at_260 (pc' := 262) rfl rfl ?_
    refine own_iconst X0 hx hby at_262 (pc' := 263) rfl (n := (3 : Int32)) (by decide) ?_
    refine own_icY X0 hx hby at_263 (pc' := 275) (by decide) (by decide) (show (0 : Int32) < (3 : Int32) by decide) ?_
    refine own_aload X0 hx hby at_275 (pc' := 277) rfl rfl rfl ?_
    refine own_lk8 hw X0 hx hZ hby (by rw [hml]; rfl) hown at_277 (pc' := 280) rfl e1 f_O_q.1 (W := 0) (Nat.le_of_eq rfl) (rmP0 l Z a0 hw [] q w kk h1 n0 Z1 f_O_q f_V_w ho) (by decide) (by decide) (by decide) (by decide) (fun v1 T1 L1 X1 hQ1 => ?_)
    obtain ⟨rfl, Nq1, e1⟩ := hQ1
    have N1 := Fr.app N0 Nq1
    show own_End p e below _ (T1.setTop (mkF m 280 _ [.null]))
    refine own_astore X1 hx hby at_280 (pc' := 282) rfl rfl (l' := #[.val (.long p0), .second, .val (.long p1), .second, .val (.long p2), .second, .val (.long p3), .second, .val (.int p4), .val (.int p5), .val (.int (0 : Int32)), .val (.ref oa), .val (.int pm), .val (.ref sa), .val (.long lo), .second, .val (.long hi), .second, .val (.int sw), .val (.ref ta), .val (.ref q), .val .null, .unset, .unset, .unset, .unset]) rfl ?_
    refine own_aload X1 hx hby at_282 (pc' := 284) rfl rfl rfl ?_
    refine own_lk8 hw X1 hx hZ hby (by rw [hml]; rfl) hown at_284 (pc' := 287) rfl e1 f_O_q.1 (W := 0) (Nat.le_of_eq rfl) (rmP0 l Z a0 hw [] q w kk h1 n0 Z1 f_O_q f_V_w ho) (by decide) (by decide) (by decide) (by decide) (fun v2 T2 L2 X2 hQ2 => ?_)
    obtain ⟨rfl, Nq2, e2⟩ := hQ2
    have N2 := Fr.app N1 Nq2
    show own_End p e below _ (T2.setTop (mkF m 287 _ [.null]))
    refine own_astore X2 hx hby at_287 (pc' := 289) rfl rfl (l' := #[.val (.long p0), .second, .val (.long p1), .second, .val (.long p2), .second, .val (.long p3), .second, .val (.int p4), .val (.int p5), .val (.int (0 : Int32)), .val (.ref oa), .val (.int pm), .val (.ref sa), .val (.long lo), .second, .val (.long hi), .second, .val (.int sw), .val (.ref ta), .val (.ref q), .val .null, .val .null, .unset, .unset, .unset]) rfl ?_
    refine own_aload X2 hx hby at_289 (pc' := 291) rfl rfl rfl ?_
    refine own_lk8 hw X2 hx hZ hby (by rw [hml]; rfl) hown at_291 (pc' := 294) rfl e2 f_O_q.1 (W := 0) (Nat.le_of_eq rfl) (rmP0 l Z a0 hw [] q w kk h1 n0 Z1 f_O_q f_V_w ho) (by decide) (by decide) (by decide) (by decide) (fun v3 T3 L3 X3 hQ3 => ?_)
    obtain ⟨rfl, Nq3, e3⟩ := hQ3
    have N3 := Fr.app N2 Nq3
    show own_End p e below _ (T3.setTop (mkF m 294 _ [.null]))
    refine own_astore X3 hx hby at_294 (pc' := 296) rfl rfl (l' := #[.val (.long p0), .second, .val (.long p1), .second, .val (.long p2), .second, .val (.long p3), .second, .val (.int p4), .val (.int p5), .val (.int (0 : Int32)), .val (.ref oa), .val (.int pm), .val (.ref sa), .val (.long lo), .second, .val (.long hi), .second, .val (.int sw), .val (.ref ta), .val (.ref q), .val .null, .val .null, .val .null, .unset, .unset]) rfl ?_
    refine own_aload X3 hx hby at_296 (pc' := 298) rfl rfl rfl ?_
    refine own_aload X3 hx hby at_298 (pc' := 300) rfl rfl rfl ?_
    refine own_aload X3 hx hby at_300 (pc' := 302) rfl rfl rfl ?_
    refine own_iload X3 hx hby at_302 (pc' := 304) rfl rfl ?_
    refine own_iconst X3 hx hby at_304 (pc' := 305) rfl (n := (0 : Int32)) (by decide) ?_
    refine own_aload X3 hx hby at_305 (pc' := 307) rfl rfl rfl ?_
    refine own_lk9 hw X3 hx hZ hby (by rw [hml]; rfl) hown at_307 (pc' := 310) rfl e3 (W := 1) (Nat.le_of_eq rfl) (rmEX0 l Z a0 hw [] oa sa ko ks o0 o1 o2 s0 s1 s2 ta kt x0 x1 x2 (0 : Int32) h1 n0 Z1 f_V_oa f_V_sa f_V_ta) (by decide) (by decide) (by decide) (by decide) (fun v4 T4 L4 X4 hQ4 => ?_)
    obtain ⟨rfl, Nq4, e4⟩ := hQ4
    have N4 := Fr.app N3 Nq4
    show own_End p e below _ (T4.setTop (mkF m 310 _ [.null, .null]))
    refine own_acmp X4 hx hby at_310 rfl rfl (same := true) (decide_eq_true rfl) (by decide) (pc' := 313) (by decide) ?_
    refine own_aload X4 hx hby at_313 (pc' := 315) rfl rfl rfl ?_
    refine own_aload X4 hx hby at_315 (pc' := 317) rfl rfl rfl ?_
    refine own_aload X4 hx hby at_317 (pc' := 319) rfl rfl rfl ?_
    refine own_iload X4 hx hby at_319 (pc' := 321) rfl rfl ?_
    refine own_iconst X4 hx hby at_321 (pc' := 322) rfl (n := (1 : Int32)) (by decide) ?_
    refine own_aload X4 hx hby at_322 (pc' := 324) rfl rfl rfl ?_
    refine own_lk9 hw X4 hx hZ hby (by rw [hml]; rfl) hown at_324 (pc' := 327) rfl e4 (W := 1) (Nat.le_of_eq rfl) (rmEX0 l Z a0 hw [] oa sa ko ks o0 o1 o2 s0 s1 s2 ta kt x0 x1 x2 (1 : Int32) h1 n0 Z1 f_V_oa f_V_sa f_V_ta) (by decide) (by decide) (by decide) (by decide) (fun v5 T5 L5 X5 hQ5 => ?_)
    obtain ⟨rfl, Nq5, e5⟩ := hQ5
    have N5 := Fr.app N4 Nq5
    show own_End p e below _ (T5.setTop (mkF m 327 _ [.null, .null]))
    refine own_acmp X5 hx hby at_327 rfl rfl (same := true) (decide_eq_true rfl) (by decide) (pc' := 330) (by decide) ?_
    refine own_aload X5 hx hby at_330 (pc' := 332) rfl rfl rfl ?_
    refine own_aload X5 hx hby at_332 (pc' := 334) rfl rfl rfl ?_
    refine own_aload X5 hx hby at_334 (pc' := 336) rfl rfl rfl ?_
    refine own_iload X5 hx hby at_336 (pc' := 338) rfl rfl ?_
    refine own_iconst X5 hx hby at_338 (pc' := 339) rfl (n := (2 : Int32)) (by decide) ?_
    refine own_aload X5 hx hby at_339 (pc' := 341) rfl rfl rfl ?_
    refine own_lk9 hw X5 hx hZ hby (by rw [hml]; rfl) hown at_341 (pc' := 344) rfl e5 (W := 1) (Nat.le_of_eq rfl) (rmEX0 l Z a0 hw [] oa sa ko ks o0 o1 o2 s0 s1 s2 ta kt x0 x1 x2 (2 : Int32) h1 n0 Z1 f_V_oa f_V_sa f_V_ta) (by decide) (by decide) (by decide) (by decide) (fun v6 T6 L6 X6 hQ6 => ?_)
    obtain ⟨rfl, Nq6, e6⟩ := hQ6
    have N6 := Fr.app N5 Nq6
    show own_End p e below _ (T6.setTop (mkF m 344 _ [.null, .null]))
    refine own_acmp X6 hx hby at_344 rfl rfl (same := true) (decide_eq_true rfl) (by decide) (pc' := 347) (by decide) ?_
    refine own_iconst X6 hx hby at_347 (pc' := 348) rfl (n := (1 : Int32)) (by decide) ?_
    refine own_goto X6 hx hby at_348 (pc' := 352) (by decide) (by decide) ?_
    refine own_istore X6 hx hby at_352 (pc' := 354) rfl (l' := #[.val (.long p0), .second, .val (.long p1), .second, .val (.long p2), .second, .val (.long p3), .second, .val (.int p4), .val (.int p5), .val (.int (0 : Int32)), .val (.ref oa), .val (.int pm), .val (.ref sa), .val (.long lo), .second, .val (.long hi), .second, .val (.int sw), .val (.ref ta), .val (.ref q), .val .null, .val .null, .val .null, .val (.int (1 : Int32)), .unset]) rfl ?_
    refine own_aload X6 hx hby at_354 (pc' := 356) rfl rfl rfl ?_
    refine own_ifnullY X6 hx hby at_356 (pc' := 368) (by decide) (by decide) ?_
    refine own_iconst X6 hx hby at_368 (pc' := 369) rfl (n := (1 : Int32)) (by decide) ?_
    refine own_goto X6 hx hby at_369 (pc' := 373) (by decide) (by decide) ?_
    refine own_istore X6 hx hby at_373 (pc' := 375) rfl (l' := #[.val (.long p0), .second, .val (.long p1), .second, .val (.long p2), .second, .val (.long p3), .second, .val (.int p4), .val (.int p5), .val (.int (0 : Int32)), .val (.ref oa), .val (.int pm), .val (.ref sa), .val (.long lo), .second, .val (.long hi), .second, .val (.int sw), .val (.ref ta), .val (.ref q), .val .null, .val .null, .val .null, .val (.int (1 : Int32)), .val (.int (1 : Int32))]) rfl ?_
    refine own_iload X6 hx hby at_375 (pc' := 377) rfl rfl ?_
    refine own_ifN X6 hx hby at_377 (pc' := 380) rfl (show ¬ (1 : Int32) = (0 : Int32) by decide) ?_
    refine own_iload X6 hx hby at_380 (pc' := 382) rfl rfl ?_
    refine own_ifN X6 hx hby at_382 (pc' := 385) rfl (show ¬ (1 : Int32) = (0 : Int32) by decide) ?_
    refine own_iconst X6 hx hby at_385 (pc' := 386) rfl (n := (1 : Int32)) (by decide) ?_
    refine own_goto X6 hx hby at_386 (pc' := 390) (by decide) (by decide) ?_
    refine own_zreturn X6 hx hlk hby hret (Or.inr rfl) at_390 (own_lv ?_ (by decide) (by decide))
    show Q0 Z p0 p1 p2 p3 p4 p5  h0 n0 (some (.int (1 : Int32))) T6.heap _
    rw [e6]
    exact ⟨rfl, N6⟩
  · show own_End p e below _ (T0.setTop (mkF m 232 #[.val (.long p0), .second, .val (.long p1), .second, .val (.long p2), .second, .val (.long p3), .second, .val (.int p4), .val (.int p5), .val (.int (1 : Int32)), .val (.ref oa), .val (.int pm), .val (.ref sa), .val (.long lo), .second, .val (.long hi), .second, .val (.int sw), .val (.ref ta), .val (.ref q), .unset, .unset, .unset, .unset, .unset] [(.int (1 : Int32))]))
    refine own_iconst X0 hx hby at_232 (pc' := 233) rfl (n := (1 : Int32)) (by decide) ?_
    refine own_icN X0 hx hby at_233 (pc' := 236) rfl (show ¬ (1 : Int32) < (1 : Int32) by decide) ?_
    refine own_aload X0 hx hby at_236 (pc' := 238) rfl rfl rfl ?_
    refine own_aload X0 hx hby at_238 (pc' := 240) rfl rfl rfl ?_
    refine own_iconst X0 hx hby at_240 (pc' := 241) rfl (n := (0 : Int32)) (by decide) ?_
    obtain ⟨cl7, Ar7, q7, S7, M7, H7, G7⟩ := id f_V_ta
    have hin7 : ¬ ((0 : Int32) < 0 ∨ cl7.slots.size ≤ ((0 : Int32)).toNatClampNeg) := inb_of S7 ⟨by decide, by decide⟩
    have hat7 : cl7.slots[((0 : Int32)).toNatClampNeg]? = some (.ref x0) := H7.at hin7 rfl
    refine own_aaload X0 hx hZ hby e1 Ar7 rfl hin7 hat7 at_241 (pc' := 242) rfl ?_
    have ne_oa_q : oa ≠ q := Ne.symm (Exa.neArv f_O_q.1 f_V_oa (wd_26 hw))
    have ne_oa_x0 : oa ≠ x0 := Ne.symm (Exa.neArv f_O_x0.1 f_V_oa (wd_6 hw))
    have ne_sa_q : sa ≠ q := Ne.symm (Exa.neArv f_O_q.1 f_V_sa (wd_26 hw))
    have ne_sa_x0 : sa ≠ x0 := Ne.symm (Exa.neArv f_O_x0.1 f_V_sa (wd_6 hw))
    have ne_ta_q : ta ≠ q := Ne.symm (Exa.neArv f_O_q.1 f_V_ta (wd_26 hw))
    have ne_ta_x0 : ta ≠ x0 := Ne.symm (Exa.neArv f_O_x0.1 f_V_ta (wd_6 hw))
    have ne_q_w : q ≠ w := Exa.neArv f_O_q.1 f_V_w (wd_26 hw)
    have ne_q_x0 : q ≠ x0 := Exa.ne f_O_q.1 f_O_x0.1 (by decide)
    have ne_w_x0 : w ≠ x0 := Ne.symm (Exa.neArv f_O_x0.1 f_V_w (wd_6 hw))
    have ne_x1_q : x1 ≠ q := Exa.ne f_O_x1.1 f_O_q.1 (by decide)
    have ne_x1_w : x1 ≠ w := Exa.neArv f_O_x1.1 f_V_w (wd_6 hw)
    have ne_x2_q : x2 ≠ q := Exa.ne f_O_x2.1 f_O_q.1 (by decide)
    have ne_x2_w : x2 ≠ w := Exa.neArv f_O_x2.1 f_V_w (wd_6 hw)
    refine own_lk10 hw X0 hx hZ hby (by rw [hml]; rfl) hown at_242 (pc' := 245) rfl e1 f_O_q.1 (W := 0) (Nat.le_of_eq rfl) (rmA0 l Z a0 hw [] q w kk x0 (p0 + o0) s0 h1 n0 Z1 f_O_q f_V_w ho f_O_x0 ge_q ge_w ge_x0) (by decide) (by decide) (by decide) (by decide) (fun v8 T8 L8 X8 hQ8 => ?_)
    obtain ⟨rfl, Nq8, K8, Oq8, V8, Ot8⟩ := hQ8
    have N8 := Fr.app N0 Nq8
    have f_V_oa := f_V_oa.keep K8 (ninS ne_oa_q (ninS ne_oa_w (ninS ne_oa_x0 nin0)))
    have f_V_sa := f_V_sa.keep K8 (ninS ne_sa_q (ninS ne_sa_w (ninS ne_sa_x0 nin0)))
    have f_V_ta := f_V_ta.keep K8 (ninS ne_ta_q (ninS ne_ta_w (ninS ne_ta_x0 nin0)))
    have f_O_x1 := f_O_x1.keep K8 (ninS ne_x1_q (ninS ne_x1_w (ninS (Ne.symm ne_x0_x1) nin0)))
    have f_O_x2 := f_O_x2.keep K8 (ninS ne_x2_q (ninS ne_x2_w (ninS (Ne.symm ne_x0_x2) nin0)))
    have Zn := Nat.le_trans Z1 K8.1
    show own_End p e below _ (T8.setTop (mkF m 245 _ []))
    refine own_iload X8 hx hby at_245 (pc' := 247) rfl rfl ?_
    refine own_iconst X8 hx hby at_247 (pc' := 248) rfl (n := (2 : Int32)) (by decide) ?_
    refine own_icY X8 hx hby at_248 (pc' := 260) (by decide) (by decide) (show (1 : Int32) < (2 : Int32) by decide) ?_
    refine own_iload X8 hx hby at_260 (pc' := 262) rfl rfl ?_
    refine own_iconst X8 hx hby at_262 (pc' := 263) rfl (n := (3 : Int32)) (by decide) ?_
    refine own_icY X8 hx hby at_263 (pc' := 275) (by decide) (by decide) (show (1 : Int32) < (3 : Int32) by decide) ?_
    refine own_aload X8 hx hby at_275 (pc' := 277) rfl rfl rfl ?_
    refine own_lk8 hw X8 hx hZ hby (by rw [hml]; rfl) hown at_277 (pc' := 280) rfl rfl Oq8.1 (W := 0) (Nat.le_of_eq rfl) (rmP1 l Z a0 hw [] q w kk x0 (p0 + o0) s0 T8.heap n0 Zn Oq8 V8 ho Ot8 ge_q ge_w ge_x0) (by decide) (by decide) (by decide) (by decide) (fun v9 T9 L9 X9 hQ9 => ?_)
    obtain ⟨rfl, Nq9, K9, Oq9, V9, Ox9⟩ := hQ9
    have N9 := Fr.app N8 Nq9
    have f_V_oa := f_V_oa.keep K9 (ninS ne_oa_q (ninS ne_oa_w (ninS ne_oa_x0 nin0)))
    have f_V_sa := f_V_sa.keep K9 (ninS ne_sa_q (ninS ne_sa_w (ninS ne_sa_x0 nin0)))
    have f_V_ta := f_V_ta.keep K9 (ninS ne_ta_q (ninS ne_ta_w (ninS ne_ta_x0 nin0)))
    have f_O_x1 := f_O_x1.keep K9 (ninS ne_x1_q (ninS ne_x1_w (ninS (Ne.symm ne_x0_x1) nin0)))
    have f_O_x2 := f_O_x2.keep K9 (ninS ne_x2_q (ninS ne_x2_w (ninS (Ne.symm ne_x0_x2) nin0)))
    have Zn := Nat.le_trans Zn K9.1
    show own_End p e below _ (T9.setTop (mkF m 280 _ [(.ref x0)]))
    refine own_astore X9 hx hby at_280 (pc' := 282) rfl rfl (l' := #[.val (.long p0), .second, .val (.long p1), .second, .val (.long p2), .second, .val (.long p3), .second, .val (.int p4), .val (.int p5), .val (.int (1 : Int32)), .val (.ref oa), .val (.int pm), .val (.ref sa), .val (.long lo), .second, .val (.long hi), .second, .val (.int sw), .val (.ref ta), .val (.ref q), .val (.ref x0), .unset, .unset, .unset, .unset]) rfl ?_
    refine own_aload X9 hx hby at_282 (pc' := 284) rfl rfl rfl ?_
    refine own_lk8 hw X9 hx hZ hby (by rw [hml]; rfl) hown at_284 (pc' := 287) rfl rfl Oq9.1 (W := 0) (Nat.le_of_eq rfl) (rmP0 l Z a0 hw [] q w kk T9.heap n0 Zn Oq9 V9 ho) (by decide) (by decide) (by decide) (by decide) (fun v10 T10 L10 X10 hQ10 => ?_)
    obtain ⟨rfl, Nq10, e10⟩ := hQ10
    have N10 := Fr.app N9 Nq10
    show own_End p e below _ (T10.setTop (mkF m 287 _ [.null]))
    refine own_astore X10 hx hby at_287 (pc' := 289) rfl rfl (l' := #[.val (.long p0), .second, .val (.long p1), .second, .val (.long p2), .second, .val (.long p3), .second, .val (.int p4), .val (.int p5), .val (.int (1 : Int32)), .val (.ref oa), .val (.int pm), .val (.ref sa), .val (.long lo), .second, .val (.long hi), .second, .val (.int sw), .val (.ref ta), .val (.ref q), .val (.ref x0), .val .null, .unset, .unset, .unset]) rfl ?_
    refine own_aload X10 hx hby at_289 (pc' := 291) rfl rfl rfl ?_
    refine own_lk8 hw X10 hx hZ hby (by rw [hml]; rfl) hown at_291 (pc' := 294) rfl e10 Oq9.1 (W := 0) (Nat.le_of_eq rfl) (rmP0 l Z a0 hw [] q w kk T9.heap n0 Zn Oq9 V9 ho) (by decide) (by decide) (by decide) (by decide) (fun v11 T11 L11 X11 hQ11 => ?_)
    obtain ⟨rfl, Nq11, e11⟩ := hQ11
    have N11 := Fr.app N10 Nq11
    show own_End p e below _ (T11.setTop (mkF m 294 _ [.null]))
    refine own_astore X11 hx hby at_294 (pc' := 296) rfl rfl (l' := #[.val (.long p0), .second, .val (.long p1), .second, .val (.long p2), .second, .val (.long p3), .second, .val (.int p4), .val (.int p5), .val (.int (1 : Int32)), .val (.ref oa), .val (.int pm), .val (.ref sa), .val (.long lo), .second, .val (.long hi), .second, .val (.int sw), .val (.ref ta), .val (.ref q), .val (.ref x0), .val .null, .val .null, .unset, .unset]) rfl ?_
    refine own_aload X11 hx hby at_296 (pc' := 298) rfl rfl rfl ?_
    refine own_aload X11 hx hby at_298 (pc' := 300) rfl rfl rfl ?_
    refine own_aload X11 hx hby at_300 (pc' := 302) rfl rfl rfl ?_
    refine own_iload X11 hx hby at_302 (pc' := 304) rfl rfl ?_
    refine own_iconst X11 hx hby at_304 (pc' := 305) rfl (n := (0 : Int32)) (by decide) ?_
    refine own_aload X11 hx hby at_305 (pc' := 307) rfl rfl rfl ?_
    refine own_lk9 hw X11 hx hZ hby (by rw [hml]; rfl) hown at_307 (pc' := 310) rfl e11 (W := 1) (Nat.le_of_eq rfl) (rmEX1 l Z a0 hw [] oa sa ko ks o0 o1 o2 s0 s1 s2 ta kt x0 x1 x2 (0 : Int32) T9.heap n0 Zn f_V_oa f_V_sa f_V_ta) (by decide) (by decide) (by decide) (by decide) (fun v12 T12 L12 X12 hQ12 => ?_)
    obtain ⟨rfl, Nq12, e12⟩ := hQ12
    have N12 := Fr.app N11 Nq12
    show own_End p e below _ (T12.setTop (mkF m 310 _ [(.ref x0), (.ref x0)]))
    refine own_acmp X12 hx hby at_310 rfl rfl (same := true) (decide_eq_true rfl) (by decide) (pc' := 313) (by decide) ?_
    refine own_aload X12 hx hby at_313 (pc' := 315) rfl rfl rfl ?_
    refine own_aload X12 hx hby at_315 (pc' := 317) rfl rfl rfl ?_
    refine own_aload X12 hx hby at_317 (pc' := 319) rfl rfl rfl ?_
    refine own_iload X12 hx hby at_319 (pc' := 321) rfl rfl ?_
    refine own_iconst X12 hx hby at_321 (pc' := 322) rfl (n := (1 : Int32)) (by decide) ?_
    refine own_aload X12 hx hby at_322 (pc' := 324) rfl rfl rfl ?_
    refine own_lk9 hw X12 hx hZ hby (by rw [hml]; rfl) hown at_324 (pc' := 327) rfl e12 (W := 1) (Nat.le_of_eq rfl) (rmEX1 l Z a0 hw [] oa sa ko ks o0 o1 o2 s0 s1 s2 ta kt x0 x1 x2 (1 : Int32) T9.heap n0 Zn f_V_oa f_V_sa f_V_ta) (by decide) (by decide) (by decide) (by decide) (fun v13 T13 L13 X13 hQ13 => ?_)
    obtain ⟨rfl, Nq13, e13⟩ := hQ13
    have N13 := Fr.app N12 Nq13
    show own_End p e below _ (T13.setTop (mkF m 327 _ [.null, .null]))
    refine own_acmp X13 hx hby at_327 rfl rfl (same := true) (decide_eq_true rfl) (by decide) (pc' := 330) (by decide) ?_
    refine own_aload X13 hx hby at_330 (pc' := 332) rfl rfl rfl ?_
    refine own_aload X13 hx hby at_332 (pc' := 334) rfl rfl rfl ?_
    refine own_aload X13 hx hby at_334 (pc' := 336) rfl rfl rfl ?_
    refine own_iload X13 hx hby at_336 (pc' := 338) rfl rfl ?_
    refine own_iconst X13 hx hby at_338 (pc' := 339) rfl (n := (2 : Int32)) (by decide) ?_
    refine own_aload X13 hx hby at_339 (pc' := 341) rfl rfl rfl ?_
    refine own_lk9 hw X13 hx hZ hby (by rw [hml]; rfl) hown at_341 (pc' := 344) rfl e13 (W := 1) (Nat.le_of_eq rfl) (rmEX1 l Z a0 hw [] oa sa ko ks o0 o1 o2 s0 s1 s2 ta kt x0 x1 x2 (2 : Int32) T9.heap n0 Zn f_V_oa f_V_sa f_V_ta) (by decide) (by decide) (by decide) (by decide) (fun v14 T14 L14 X14 hQ14 => ?_)
    obtain ⟨rfl, Nq14, e14⟩ := hQ14
    have N14 := Fr.app N13 Nq14
    show own_End p e below _ (T14.setTop (mkF m 344 _ [.null, .null]))
    refine own_acmp X14 hx hby at_344 rfl rfl (same := true) (decide_eq_true rfl) (by decide) (pc' := 347) (by decide) ?_
    refine own_iconst X14 hx hby at_347 (pc' := 348) rfl (n := (1 : Int32)) (by decide) ?_
    refine own_goto X14 hx hby at_348 (pc' := 352) (by decide) (by decide) ?_
    refine own_istore X14 hx hby at_352 (pc' := 354) rfl (l' := #[.val (.long p0), .second, .val (.long p1), .second, .val (.long p2), .second, .val (.long p3), .second, .val (.int p4), .val (.int p5), .val (.int (1 : Int32)), .val (.ref oa), .val (.int pm), .val (.ref sa), .val (.long lo), .second, .val (.long hi), .second, .val (.int sw), .val (.ref ta), .val (.ref q), .val (.ref x0), .val .null, .val .null, .val (.int (1 : Int32)), .unset]) rfl ?_
    refine own_aload X14 hx hby at_354 (pc' := 356) rfl rfl rfl ?_
    refine own_ifnullN X14 hx hby at_356 (pc' := 359) rfl ?_
    refine own_aload X14 hx hby at_359 (pc' := 361) rfl rfl rfl ?_
    refine own_lk11 hw X14 hx hZ hby (by rw [hml]; rfl) hown at_361 (pc' := 364) rfl e14 Ox9.1 (W := 0) (Nat.le_of_eq rfl) (rmGQ l Z a0 hw [] x0 (p0 + o0) s0 (-1 : Int32) T9.heap n0 Zn Ox9) (by decide) (by decide) (by decide) (by decide) (fun v15 T15 L15 X15 hQ15 => ?_)
    obtain ⟨rfl, Nq15, e15⟩ := hQ15
    have N15 := Fr.app N14 Nq15
    show own_End p e below _ (T15.setTop (mkF m 364 _ [(.int (-1 : Int32))]))
    refine own_iconst X15 hx hby at_364 (pc' := 365) rfl (n := (-1 : Int32)) (by decide) ?_
    refine own_icN X15 hx hby at_365 (pc' := 368) rfl (show (-1 : Int32) = (-1 : Int32) by decide) ?_
    refine own_iconst X15 hx hby at_368 (pc' := 369) rfl (n := (1 : Int32)) (by decide) ?_
    refine own_goto X15 hx hby at_369 (pc' := 373) (by decide) (by decide) ?_
    refine own_istore X15 hx hby at_373 (pc' := 375) rfl (l' := #[.val (.long p0), .second, .val (.long p1), .second, .val (.long p2), .second, .val (.long p3), .second, .val (.int p4), .val (.int p5), .val (.int (1 : Int32)), .val (.ref oa), .val (.int pm), .val (.ref sa), .val (.long lo), .second, .val (.long hi), .second, .val (.int sw), .val (.ref ta), .val (.ref q), .val (.ref x0), .val .null, .val .null, .val (.int (1 : Int32)), .val (.int (1 : Int32))]) rfl ?_
    refine own_iload X15 hx hby at_375 (pc' := 377) rfl rfl ?_
    refine own_ifN X15 hx hby at_377 (pc' := 380) rfl (show ¬ (1 : Int32) = (0 : Int32) by decide) ?_
    refine own_iload X15 hx hby at_380 (pc' := 382) rfl rfl ?_
    refine own_ifN X15 hx hby at_382 (pc' := 385) rfl (show ¬ (1 : Int32) = (0 : Int32) by decide) ?_
    refine own_iconst X15 hx hby at_385 (pc' := 386) rfl (n := (1 : Int32)) (by decide) ?_
    refine own_goto X15 hx hby at_386 (pc' := 390) (by decide) (by decide) ?_
    refine own_zreturn X15 hx hlk hby hret (Or.inr rfl) at_390 (own_lv ?_ (by decide) (by decide))
    show Q0 Z p0 p1 p2 p3 p4 p5  h0 n0 (some (.int (1 : Int32))) T15.heap _
    rw [e15]
    exact ⟨rfl, N15⟩
  · show own_End p e below _ (T0.setTop (mkF m 232 #[.val (.long p0), .second, .val (.long p1), .second, .val (.long p2), .second, .val (.long p3), .second, .val (.int p4), .val (.int p5), .val (.int (2 : Int32)), .val (.ref oa), .val (.int pm), .val (.ref sa), .val (.long lo), .second, .val (.long hi), .second, .val (.int sw), .val (.ref ta), .val (.ref q), .unset, .unset, .unset, .unset, .unset] [(.int (2 : Int32))]))
    rcases own_bfor (oi := o0) (oj := o1) hs01 with ht01 | ht01
    · have _ht := ht01
      refine own_iconst X0 hx hby at_232 (pc' := 233) rfl (n := (1 : Int32)) (by decide) ?_
      refine own_icN X0 hx hby at_233 (pc' := 236) rfl (show ¬ (2 : Int32) < (1 : Int32) by decide) ?_
      refine own_aload X0 hx hby at_236 (pc' := 238) rfl rfl rfl ?_
      refine own_aload X0 hx hby at_238 (pc' := 240) rfl rfl rfl ?_
      refine own_iconst X0 hx hby at_240 (pc' := 241) rfl (n := (0 : Int32)) (by decide) ?_
      obtain ⟨cl16, Ar16, q16, S16, M16, H16, G16⟩ := id f_V_ta
      have hin16 : ¬ ((0 : Int32) < 0 ∨ cl16.slots.size ≤ ((0 : Int32)).toNatClampNeg) := inb_of S16 ⟨by decide, by decide⟩
      have hat16 : cl16.slots[((0 : Int32)).toNatClampNeg]? = some (.ref x0) := H16.at hin16 rfl
      refine own_aaload X0 hx hZ hby e1 Ar16 rfl hin16 hat16 at_241 (pc' := 242) rfl ?_
      have ne_oa_q : oa ≠ q := Ne.symm (Exa.neArv f_O_q.1 f_V_oa (wd_26 hw))
      have ne_oa_x0 : oa ≠ x0 := Ne.symm (Exa.neArv f_O_x0.1 f_V_oa (wd_6 hw))
      have ne_sa_q : sa ≠ q := Ne.symm (Exa.neArv f_O_q.1 f_V_sa (wd_26 hw))
      have ne_sa_x0 : sa ≠ x0 := Ne.symm (Exa.neArv f_O_x0.1 f_V_sa (wd_6 hw))
      have ne_ta_q : ta ≠ q := Ne.symm (Exa.neArv f_O_q.1 f_V_ta (wd_26 hw))
      have ne_ta_x0 : ta ≠ x0 := Ne.symm (Exa.neArv f_O_x0.1 f_V_ta (wd_6 hw))
      have ne_q_w : q ≠ w := Exa.neArv f_O_q.1 f_V_w (wd_26 hw)
      have ne_q_x0 : q ≠ x0 := Exa.ne f_O_q.1 f_O_x0.1 (by decide)
      have ne_w_x0 : w ≠ x0 := Ne.symm (Exa.neArv f_O_x0.1 f_V_w (wd_6 hw))
      have ne_x1_q : x1 ≠ q := Exa.ne f_O_x1.1 f_O_q.1 (by decide)
      have ne_x1_w : x1 ≠ w := Exa.neArv f_O_x1.1 f_V_w (wd_6 hw)
      have ne_x2_q : x2 ≠ q := Exa.ne f_O_x2.1 f_O_q.1 (by decide)
      have ne_x2_w : x2 ≠ w := Exa.neArv f_O_x2.1 f_V_w (wd_6 hw)
      refine own_lk10 hw X0 hx hZ hby (by rw [hml]; rfl) hown at_242 (pc' := 245) rfl e1 f_O_q.1 (W := 0) (Nat.le_of_eq rfl) (rmA0 l Z a0 hw [] q w kk x0 (p0 + o0) s0 h1 n0 Z1 f_O_q f_V_w ho f_O_x0 ge_q ge_w ge_x0) (by decide) (by decide) (by decide) (by decide) (fun v17 T17 L17 X17 hQ17 => ?_)
      obtain ⟨rfl, Nq17, K17, Oq17, V17, Ot17⟩ := hQ17
      have N17 := Fr.app N0 Nq17
      have f_V_oa := f_V_oa.keep K17 (ninS ne_oa_q (ninS ne_oa_w (ninS ne_oa_x0 nin0)))
      have f_V_sa := f_V_sa.keep K17 (ninS ne_sa_q (ninS ne_sa_w (ninS ne_sa_x0 nin0)))
      have f_V_ta := f_V_ta.keep K17 (ninS ne_ta_q (ninS ne_ta_w (ninS ne_ta_x0 nin0)))
      have f_O_x1 := f_O_x1.keep K17 (ninS ne_x1_q (ninS ne_x1_w (ninS (Ne.symm ne_x0_x1) nin0)))
      have f_O_x2 := f_O_x2.keep K17 (ninS ne_x2_q (ninS ne_x2_w (ninS (Ne.symm ne_x0_x2) nin0)))
      have Zn := Nat.le_trans Z1 K17.1
      show own_End p e below _ (T17.setTop (mkF m 245 _ []))
      refine own_iload X17 hx hby at_245 (pc' := 247) rfl rfl ?_
      refine own_iconst X17 hx hby at_247 (pc' := 248) rfl (n := (2 : Int32)) (by decide) ?_
      refine own_icN X17 hx hby at_248 (pc' := 251) rfl (show ¬ (2 : Int32) < (2 : Int32) by decide) ?_
      refine own_aload X17 hx hby at_251 (pc' := 253) rfl rfl rfl ?_
      refine own_aload X17 hx hby at_253 (pc' := 255) rfl rfl rfl ?_
      refine own_iconst X17 hx hby at_255 (pc' := 256) rfl (n := (1 : Int32)) (by decide) ?_
      obtain ⟨cl18, Ar18, q18, S18, M18, H18, G18⟩ := id f_V_ta
      have hin18 : ¬ ((1 : Int32) < 0 ∨ cl18.slots.size ≤ ((1 : Int32)).toNatClampNeg) := inb_of S18 ⟨by decide, by decide⟩
      have hat18 : cl18.slots[((1 : Int32)).toNatClampNeg]? = some (.ref x1) := H18.at hin18 rfl
      refine own_aaload X17 hx hZ hby rfl Ar18 rfl hin18 hat18 at_256 (pc' := 257) rfl ?_
      have ne_oa_x1 : oa ≠ x1 := Ne.symm (Exa.neArv f_O_x1.1 f_V_oa (wd_6 hw))
      have ne_sa_x1 : sa ≠ x1 := Ne.symm (Exa.neArv f_O_x1.1 f_V_sa (wd_6 hw))
      have ne_ta_x1 : ta ≠ x1 := Ne.symm (Exa.neArv f_O_x1.1 f_V_ta (wd_6 hw))
      refine own_lk10 hw X17 hx hZ hby (by rw [hml]; rfl) hown at_257 (pc' := 260) rfl rfl Oq17.1 (W := 0) (Nat.le_of_eq rfl) (rmA1a l Z a0 hw [] q w kk x0 (p0 + o0) s0 x1 (p0 + o1) s1 T17.heap n0 Zn Oq17 V17 ho Ot17 f_O_x1 ge_q ge_w ge_x1 ne_x0_x1 ((own_rbbf p0 o1 s1 o0 s0 hb1 hb0).trans ht01.2)) (by decide) (by decide) (by decide) (by decide) (fun v19 T19 L19 X19 hQ19 => ?_)
      obtain ⟨rfl, Nq19, K19, Oq19, V19, Ot19⟩ := hQ19
      have N19 := Fr.app N17 Nq19
      have f_V_oa := f_V_oa.keep K19 (ninS ne_oa_q (ninS ne_oa_w (ninS ne_oa_x1 nin0)))
      have f_V_sa := f_V_sa.keep K19 (ninS ne_sa_q (ninS ne_sa_w (ninS ne_sa_x1 nin0)))
      have f_V_ta := f_V_ta.keep K19 (ninS ne_ta_q (ninS ne_ta_w (ninS ne_ta_x1 nin0)))
      have f_O_x2 := f_O_x2.keep K19 (ninS ne_x2_q (ninS ne_x2_w (ninS (Ne.symm ne_x1_x2) nin0)))
      have Ot17 := Ot17.keep K19 (ninS (Ne.symm ne_q_x0) (ninS (Ne.symm ne_w_x0) (ninS ne_x0_x1 nin0)))
      have Zn := Nat.le_trans Zn K19.1
      show own_End p e below _ (T19.setTop (mkF m 260 _ []))
      refine own_iload X19 hx hby at_260 (pc' := 262) rfl rfl ?_
      refine own_iconst X19 hx hby at_262 (pc' := 263) rfl (n := (3 : Int32)) (by decide) ?_
      refine own_icY X19 hx hby at_263 (pc' := 275) (by decide) (by decide) (show (2 : Int32) < (3 : Int32) by decide) ?_
      refine own_aload X19 hx hby at_275 (pc' := 277) rfl rfl rfl ?_
      refine own_lk8 hw X19 hx hZ hby (by rw [hml]; rfl) hown at_277 (pc' := 280) rfl rfl Oq19.1 (W := 0) (Nat.le_of_eq rfl) (rmP2 l Z a0 hw [] q w kk x0 (p0 + o0) s0 x1 (p0 + o1) s1 T19.heap n0 Zn Oq19 V19 ho Ot17 Ot19 ge_q ge_w ge_x0 ge_x1 ne_x0_x1) (by decide) (by decide) (by decide) (by decide) (fun v20 T20 L20 X20 hQ20 => ?_)
      obtain ⟨rfl, Nq20, K20, Oq20, V20, Ox20, Oy20⟩ := hQ20
      have N20 := Fr.app N19 Nq20
      have f_V_oa := f_V_oa.keep K20 (ninS ne_oa_q (ninS ne_oa_w (ninS ne_oa_x0 (ninS ne_oa_x1 nin0))))
      have f_V_sa := f_V_sa.keep K20 (ninS ne_sa_q (ninS ne_sa_w (ninS ne_sa_x0 (ninS ne_sa_x1 nin0))))
      have f_V_ta := f_V_ta.keep K20 (ninS ne_ta_q (ninS ne_ta_w (ninS ne_ta_x0 (ninS ne_ta_x1 nin0))))
      have f_O_x2 := f_O_x2.keep K20 (ninS ne_x2_q (ninS ne_x2_w (ninS (Ne.symm ne_x0_x2) (ninS (Ne.symm ne_x1_x2) nin0))))
      have Zn := Nat.le_trans Zn K20.1
      show own_End p e below _ (T20.setTop (mkF m 280 _ [(.ref x0)]))
      refine own_astore X20 hx hby at_280 (pc' := 282) rfl rfl (l' := #[.val (.long p0), .second, .val (.long p1), .second, .val (.long p2), .second, .val (.long p3), .second, .val (.int p4), .val (.int p5), .val (.int (2 : Int32)), .val (.ref oa), .val (.int pm), .val (.ref sa), .val (.long lo), .second, .val (.long hi), .second, .val (.int sw), .val (.ref ta), .val (.ref q), .val (.ref x0), .unset, .unset, .unset, .unset]) rfl ?_
      refine own_aload X20 hx hby at_282 (pc' := 284) rfl rfl rfl ?_
      refine own_lk8 hw X20 hx hZ hby (by rw [hml]; rfl) hown at_284 (pc' := 287) rfl rfl Oq20.1 (W := 0) (Nat.le_of_eq rfl) (rmP1 l Z a0 hw [] q w kk x1 (p0 + o1) s1 T20.heap n0 Zn Oq20 V20 ho Oy20 ge_q ge_w ge_x1) (by decide) (by decide) (by decide) (by decide) (fun v21 T21 L21 X21 hQ21 => ?_)
      obtain ⟨rfl, Nq21, K21, Oq21, V21, Ox21⟩ := hQ21
      have N21 := Fr.app N20 Nq21
      have f_V_oa := f_V_oa.keep K21 (ninS ne_oa_q (ninS ne_oa_w (ninS ne_oa_x1 nin0)))
      have f_V_sa := f_V_sa.keep K21 (ninS ne_sa_q (ninS ne_sa_w (ninS ne_sa_x1 nin0)))
      have f_V_ta := f_V_ta.keep K21 (ninS ne_ta_q (ninS ne_ta_w (ninS ne_ta_x1 nin0)))
      have f_O_x2 := f_O_x2.keep K21 (ninS ne_x2_q (ninS ne_x2_w (ninS (Ne.symm ne_x1_x2) nin0)))
      have Ox20 := Ox20.keep K21 (ninS (Ne.symm ne_q_x0) (ninS (Ne.symm ne_w_x0) (ninS ne_x0_x1 nin0)))
      have Zn := Nat.le_trans Zn K21.1
      show own_End p e below _ (T21.setTop (mkF m 287 _ [(.ref x1)]))
      refine own_astore X21 hx hby at_287 (pc' := 289) rfl rfl (l' := #[.val (.long p0), .second, .val (.long p1), .second, .val (.long p2), .second, .val (.long p3), .second, .val (.int p4), .val (.int p5), .val (.int (2 : Int32)), .val (.ref oa), .val (.int pm), .val (.ref sa), .val (.long lo), .second, .val (.long hi), .second, .val (.int sw), .val (.ref ta), .val (.ref q), .val (.ref x0), .val (.ref x1), .unset, .unset, .unset]) rfl ?_
      refine own_aload X21 hx hby at_289 (pc' := 291) rfl rfl rfl ?_
      refine own_lk8 hw X21 hx hZ hby (by rw [hml]; rfl) hown at_291 (pc' := 294) rfl rfl Oq21.1 (W := 0) (Nat.le_of_eq rfl) (rmP0 l Z a0 hw [] q w kk T21.heap n0 Zn Oq21 V21 ho) (by decide) (by decide) (by decide) (by decide) (fun v22 T22 L22 X22 hQ22 => ?_)
      obtain ⟨rfl, Nq22, e22⟩ := hQ22
      have N22 := Fr.app N21 Nq22
      show own_End p e below _ (T22.setTop (mkF m 294 _ [.null]))
      refine own_astore X22 hx hby at_294 (pc' := 296) rfl rfl (l' := #[.val (.long p0), .second, .val (.long p1), .second, .val (.long p2), .second, .val (.long p3), .second, .val (.int p4), .val (.int p5), .val (.int (2 : Int32)), .val (.ref oa), .val (.int pm), .val (.ref sa), .val (.long lo), .second, .val (.long hi), .second, .val (.int sw), .val (.ref ta), .val (.ref q), .val (.ref x0), .val (.ref x1), .val .null, .unset, .unset]) rfl ?_
      refine own_aload X22 hx hby at_296 (pc' := 298) rfl rfl rfl ?_
      refine own_aload X22 hx hby at_298 (pc' := 300) rfl rfl rfl ?_
      refine own_aload X22 hx hby at_300 (pc' := 302) rfl rfl rfl ?_
      refine own_iload X22 hx hby at_302 (pc' := 304) rfl rfl ?_
      refine own_iconst X22 hx hby at_304 (pc' := 305) rfl (n := (0 : Int32)) (by decide) ?_
      refine own_aload X22 hx hby at_305 (pc' := 307) rfl rfl rfl ?_
      refine own_lk9 hw X22 hx hZ hby (by rw [hml]; rfl) hown at_307 (pc' := 310) rfl e22 (W := 1) (Nat.le_of_eq rfl) (rmEX2 l Z a0 hw [] oa sa ko ks o0 o1 o2 s0 s1 s2 ta kt x0 x1 x2 (0 : Int32) (1 : Int32) (0 : Int32) T21.heap n0 Zn f_V_oa f_V_sa f_V_ta ht01.1 ht01.2) (by decide) (by decide) (by decide) (by decide) (fun v23 T23 L23 X23 hQ23 => ?_)
      obtain ⟨rfl, Nq23, e23⟩ := hQ23
      have N23 := Fr.app N22 Nq23
      show own_End p e below _ (T23.setTop (mkF m 310 _ [(.ref x0), (.ref x0)]))
      refine own_acmp X23 hx hby at_310 rfl rfl (same := true) (decide_eq_true rfl) (by decide) (pc' := 313) (by decide) ?_
      refine own_aload X23 hx hby at_313 (pc' := 315) rfl rfl rfl ?_
      refine own_aload X23 hx hby at_315 (pc' := 317) rfl rfl rfl ?_
      refine own_aload X23 hx hby at_317 (pc' := 319) rfl rfl rfl ?_
      refine own_iload X23 hx hby at_319 (pc' := 321) rfl rfl ?_
      refine own_iconst X23 hx hby at_321 (pc' := 322) rfl (n := (1 : Int32)) (by decide) ?_
      refine own_aload X23 hx hby at_322 (pc' := 324) rfl rfl rfl ?_
      refine own_lk9 hw X23 hx hZ hby (by rw [hml]; rfl) hown at_324 (pc' := 327) rfl e23 (W := 1) (Nat.le_of_eq rfl) (rmEX2 l Z a0 hw [] oa sa ko ks o0 o1 o2 s0 s1 s2 ta kt x0 x1 x2 (1 : Int32) (1 : Int32) (0 : Int32) T21.heap n0 Zn f_V_oa f_V_sa f_V_ta ht01.1 ht01.2) (by decide) (by decide) (by decide) (by decide) (fun v24 T24 L24 X24 hQ24 => ?_)
      obtain ⟨rfl, Nq24, e24⟩ := hQ24
      have N24 := Fr.app N23 Nq24
      show own_End p e below _ (T24.setTop (mkF m 327 _ [(.ref x1), (.ref x1)]))
      refine own_acmp X24 hx hby at_327 rfl rfl (same := true) (decide_eq_true rfl) (by decide) (pc' := 330) (by decide) ?_
      refine own_aload X24 hx hby at_330 (pc' := 332) rfl rfl rfl ?_
      refine own_aload X24 hx hby at_332 (pc' := 334) rfl rfl rfl ?_
      refine own_aload X24 hx hby at_334 (pc' := 336) rfl rfl rfl ?_
      refine own_iload X24 hx hby at_336 (pc' := 338) rfl rfl ?_
      refine own_iconst X24 hx hby at_338 (pc' := 339) rfl (n := (2 : Int32)) (by decide) ?_
      refine own_aload X24 hx hby at_339 (pc' := 341) rfl rfl rfl ?_
      refine own_lk9 hw X24 hx hZ hby (by rw [hml]; rfl) hown at_341 (pc' := 344) rfl e24 (W := 1) (Nat.le_of_eq rfl) (rmEX2 l Z a0 hw [] oa sa ko ks o0 o1 o2 s0 s1 s2 ta kt x0 x1 x2 (2 : Int32) (1 : Int32) (0 : Int32) T21.heap n0 Zn f_V_oa f_V_sa f_V_ta ht01.1 ht01.2) (by decide) (by decide) (by decide) (by decide) (fun v25 T25 L25 X25 hQ25 => ?_)
      obtain ⟨rfl, Nq25, e25⟩ := hQ25
      have N25 := Fr.app N24 Nq25
      show own_End p e below _ (T25.setTop (mkF m 344 _ [.null, .null]))
      refine own_acmp X25 hx hby at_344 rfl rfl (same := true) (decide_eq_true rfl) (by decide) (pc' := 347) (by decide) ?_
      refine own_iconst X25 hx hby at_347 (pc' := 348) rfl (n := (1 : Int32)) (by decide) ?_
      refine own_goto X25 hx hby at_348 (pc' := 352) (by decide) (by decide) ?_
      refine own_istore X25 hx hby at_352 (pc' := 354) rfl (l' := #[.val (.long p0), .second, .val (.long p1), .second, .val (.long p2), .second, .val (.long p3), .second, .val (.int p4), .val (.int p5), .val (.int (2 : Int32)), .val (.ref oa), .val (.int pm), .val (.ref sa), .val (.long lo), .second, .val (.long hi), .second, .val (.int sw), .val (.ref ta), .val (.ref q), .val (.ref x0), .val (.ref x1), .val .null, .val (.int (1 : Int32)), .unset]) rfl ?_
      refine own_aload X25 hx hby at_354 (pc' := 356) rfl rfl rfl ?_
      refine own_ifnullN X25 hx hby at_356 (pc' := 359) rfl ?_
      refine own_aload X25 hx hby at_359 (pc' := 361) rfl rfl rfl ?_
      refine own_lk11 hw X25 hx hZ hby (by rw [hml]; rfl) hown at_361 (pc' := 364) rfl e25 Ox20.1 (W := 0) (Nat.le_of_eq rfl) (rmGQ l Z a0 hw [] x0 (p0 + o0) s0 (-1 : Int32) T21.heap n0 Zn Ox20) (by decide) (by decide) (by decide) (by decide) (fun v26 T26 L26 X26 hQ26 => ?_)
      obtain ⟨rfl, Nq26, e26⟩ := hQ26
      have N26 := Fr.app N25 Nq26
      show own_End p e below _ (T26.setTop (mkF m 364 _ [(.int (-1 : Int32))]))
      refine own_iconst X26 hx hby at_364 (pc' := 365) rfl (n := (-1 : Int32)) (by decide) ?_
      refine own_icN X26 hx hby at_365 (pc' := 368) rfl (show (-1 : Int32) = (-1 : Int32) by decide) ?_
      refine own_iconst X26 hx hby at_368 (pc' := 369) rfl (n := (1 : Int32)) (by decide) ?_
      refine own_goto X26 hx hby at_369 (pc' := 373) (by decide) (by decide) ?_
      refine own_istore X26 hx hby at_373 (pc' := 375) rfl (l' := #[.val (.long p0), .second, .val (.long p1), .second, .val (.long p2), .second, .val (.long p3), .second, .val (.int p4), .val (.int p5), .val (.int (2 : Int32)), .val (.ref oa), .val (.int pm), .val (.ref sa), .val (.long lo), .second, .val (.long hi), .second, .val (.int sw), .val (.ref ta), .val (.ref q), .val (.ref x0), .val (.ref x1), .val .null, .val (.int (1 : Int32)), .val (.int (1 : Int32))]) rfl ?_
      refine own_iload X26 hx hby at_375 (pc' := 377) rfl rfl ?_
      refine own_ifN X26 hx hby at_377 (pc' := 380) rfl (show ¬ (1 : Int32) = (0 : Int32) by decide) ?_
      refine own_iload X26 hx hby at_380 (pc' := 382) rfl rfl ?_
      refine own_ifN X26 hx hby at_382 (pc' := 385) rfl (show ¬ (1 : Int32) = (0 : Int32) by decide) ?_
      refine own_iconst X26 hx hby at_385 (pc' := 386) rfl (n := (1 : Int32)) (by decide) ?_
      refine own_goto X26 hx hby at_386 (pc' := 390) (by decide) (by decide) ?_
      refine own_zreturn X26 hx hlk hby hret (Or.inr rfl) at_390 (own_lv ?_ (by decide) (by decide))
      show Q0 Z p0 p1 p2 p3 p4 p5  h0 n0 (some (.int (1 : Int32))) T26.heap _
      rw [e26]
      exact ⟨rfl, N26⟩
    · have _ht := ht01
      refine own_iconst X0 hx hby at_232 (pc' := 233) rfl (n := (1 : Int32)) (by decide) ?_
      refine own_icN X0 hx hby at_233 (pc' := 236) rfl (show ¬ (2 : Int32) < (1 : Int32) by decide) ?_
      refine own_aload X0 hx hby at_236 (pc' := 238) rfl rfl rfl ?_
      refine own_aload X0 hx hby at_238 (pc' := 240) rfl rfl rfl ?_
      refine own_iconst X0 hx hby at_240 (pc' := 241) rfl (n := (0 : Int32)) (by decide) ?_
      obtain ⟨cl27, Ar27, q27, S27, M27, H27, G27⟩ := id f_V_ta
      have hin27 : ¬ ((0 : Int32) < 0 ∨ cl27.slots.size ≤ ((0 : Int32)).toNatClampNeg) := inb_of S27 ⟨by decide, by decide⟩
      have hat27 : cl27.slots[((0 : Int32)).toNatClampNeg]? = some (.ref x0) := H27.at hin27 rfl
      refine own_aaload X0 hx hZ hby e1 Ar27 rfl hin27 hat27 at_241 (pc' := 242) rfl ?_
      have ne_oa_q : oa ≠ q := Ne.symm (Exa.neArv f_O_q.1 f_V_oa (wd_26 hw))
      have ne_oa_x0 : oa ≠ x0 := Ne.symm (Exa.neArv f_O_x0.1 f_V_oa (wd_6 hw))
      have ne_sa_q : sa ≠ q := Ne.symm (Exa.neArv f_O_q.1 f_V_sa (wd_26 hw))
      have ne_sa_x0 : sa ≠ x0 := Ne.symm (Exa.neArv f_O_x0.1 f_V_sa (wd_6 hw))
      have ne_ta_q : ta ≠ q := Ne.symm (Exa.neArv f_O_q.1 f_V_ta (wd_26 hw))
      have ne_ta_x0 : ta ≠ x0 := Ne.symm (Exa.neArv f_O_x0.1 f_V_ta (wd_6 hw))
      have ne_q_w : q ≠ w := Exa.neArv f_O_q.1 f_V_w (wd_26 hw)
      have ne_q_x0 : q ≠ x0 := Exa.ne f_O_q.1 f_O_x0.1 (by decide)
      have ne_w_x0 : w ≠ x0 := Ne.symm (Exa.neArv f_O_x0.1 f_V_w (wd_6 hw))
      have ne_x1_q : x1 ≠ q := Exa.ne f_O_x1.1 f_O_q.1 (by decide)
      have ne_x1_w : x1 ≠ w := Exa.neArv f_O_x1.1 f_V_w (wd_6 hw)
      have ne_x2_q : x2 ≠ q := Exa.ne f_O_x2.1 f_O_q.1 (by decide)
      have ne_x2_w : x2 ≠ w := Exa.neArv f_O_x2.1 f_V_w (wd_6 hw)
      refine own_lk10 hw X0 hx hZ hby (by rw [hml]; rfl) hown at_242 (pc' := 245) rfl e1 f_O_q.1 (W := 0) (Nat.le_of_eq rfl) (rmA0 l Z a0 hw [] q w kk x0 (p0 + o0) s0 h1 n0 Z1 f_O_q f_V_w ho f_O_x0 ge_q ge_w ge_x0) (by decide) (by decide) (by decide) (by decide) (fun v28 T28 L28 X28 hQ28 => ?_)
      obtain ⟨rfl, Nq28, K28, Oq28, V28, Ot28⟩ := hQ28
      have N28 := Fr.app N0 Nq28
      have f_V_oa := f_V_oa.keep K28 (ninS ne_oa_q (ninS ne_oa_w (ninS ne_oa_x0 nin0)))
      have f_V_sa := f_V_sa.keep K28 (ninS ne_sa_q (ninS ne_sa_w (ninS ne_sa_x0 nin0)))
      have f_V_ta := f_V_ta.keep K28 (ninS ne_ta_q (ninS ne_ta_w (ninS ne_ta_x0 nin0)))
      have f_O_x1 := f_O_x1.keep K28 (ninS ne_x1_q (ninS ne_x1_w (ninS (Ne.symm ne_x0_x1) nin0)))
      have f_O_x2 := f_O_x2.keep K28 (ninS ne_x2_q (ninS ne_x2_w (ninS (Ne.symm ne_x0_x2) nin0)))
      have Zn := Nat.le_trans Z1 K28.1
      show own_End p e below _ (T28.setTop (mkF m 245 _ []))
      refine own_iload X28 hx hby at_245 (pc' := 247) rfl rfl ?_
      refine own_iconst X28 hx hby at_247 (pc' := 248) rfl (n := (2 : Int32)) (by decide) ?_
      refine own_icN X28 hx hby at_248 (pc' := 251) rfl (show ¬ (2 : Int32) < (2 : Int32) by decide) ?_
      refine own_aload X28 hx hby at_251 (pc' := 253) rfl rfl rfl ?_
      refine own_aload X28 hx hby at_253 (pc' := 255) rfl rfl rfl ?_
      refine own_iconst X28 hx hby at_255 (pc' := 256) rfl (n := (1 : Int32)) (by decide) ?_
      obtain ⟨cl29, Ar29, q29, S29, M29, H29, G29⟩ := id f_V_ta
      have hin29 : ¬ ((1 : Int32) < 0 ∨ cl29.slots.size ≤ ((1 : Int32)).toNatClampNeg) := inb_of S29 ⟨by decide, by decide⟩
      have hat29 : cl29.slots[((1 : Int32)).toNatClampNeg]? = some (.ref x1) := H29.at hin29 rfl
      refine own_aaload X28 hx hZ hby rfl Ar29 rfl hin29 hat29 at_256 (pc' := 257) rfl ?_
      have ne_oa_x1 : oa ≠ x1 := Ne.symm (Exa.neArv f_O_x1.1 f_V_oa (wd_6 hw))
      have ne_sa_x1 : sa ≠ x1 := Ne.symm (Exa.neArv f_O_x1.1 f_V_sa (wd_6 hw))
      have ne_ta_x1 : ta ≠ x1 := Ne.symm (Exa.neArv f_O_x1.1 f_V_ta (wd_6 hw))
      refine own_lk10 hw X28 hx hZ hby (by rw [hml]; rfl) hown at_257 (pc' := 260) rfl rfl Oq28.1 (W := 0) (Nat.le_of_eq rfl) (rmA1b l Z a0 hw [] q w kk x0 (p0 + o0) s0 x1 (p0 + o1) s1 T28.heap n0 Zn Oq28 V28 ho Ot28 f_O_x1 ge_q ge_w ge_x0 ge_x1 ne_x0_x1 ((own_rbbf p0 o1 s1 o0 s0 hb1 hb0).trans ht01.2)) (by decide) (by decide) (by decide) (by decide) (fun v30 T30 L30 X30 hQ30 => ?_)
      obtain ⟨rfl, Nq30, K30, Oq30, V30, Ox30, Ot30⟩ := hQ30
      have N30 := Fr.app N28 Nq30
      have f_V_oa := f_V_oa.keep K30 (ninS ne_oa_q (ninS ne_oa_w (ninS ne_oa_x0 (ninS ne_oa_x1 nin0))))
      have f_V_sa := f_V_sa.keep K30 (ninS ne_sa_q (ninS ne_sa_w (ninS ne_sa_x0 (ninS ne_sa_x1 nin0))))
      have f_V_ta := f_V_ta.keep K30 (ninS ne_ta_q (ninS ne_ta_w (ninS ne_ta_x0 (ninS ne_ta_x1 nin0))))
      have f_O_x2 := f_O_x2.keep K30 (ninS ne_x2_q (ninS ne_x2_w (ninS (Ne.symm ne_x0_x2) (ninS (Ne.symm ne_x1_x2) nin0))))
      have Zn := Nat.le_trans Zn K30.1
      show own_End p e below _ (T30.setTop (mkF m 260 _ []))
      refine own_iload X30 hx hby at_260 (pc' := 262) rfl rfl ?_
      refine own_iconst X30 hx hby at_262 (pc' := 263) rfl (n := (3 : Int32)) (by decide) ?_
      refine own_icY X30 hx hby at_263 (pc' := 275) (by decide) (by decide) (show (2 : Int32) < (3 : Int32) by decide) ?_
      refine own_aload X30 hx hby at_275 (pc' := 277) rfl rfl rfl ?_
      refine own_lk8 hw X30 hx hZ hby (by rw [hml]; rfl) hown at_277 (pc' := 280) rfl rfl Oq30.1 (W := 0) (Nat.le_of_eq rfl) (rmP2 l Z a0 hw [] q w kk x1 (p0 + o1) s1 x0 (p0 + o0) s0 T30.heap n0 Zn Oq30 V30 ho Ot30 Ox30 ge_q ge_w ge_x1 ge_x0 (Ne.symm ne_x0_x1)) (by decide) (by decide) (by decide) (by decide) (fun v31 T31 L31 X31 hQ31 => ?_)
      obtain ⟨rfl, Nq31, K31, Oq31, V31, Ox31, Oy31⟩ := hQ31
      have N31 := Fr.app N30 Nq31
      have f_V_oa := f_V_oa.keep K31 (ninS ne_oa_q (ninS ne_oa_w (ninS ne_oa_x1 (ninS ne_oa_x0 nin0))))
      have f_V_sa := f_V_sa.keep K31 (ninS ne_sa_q (ninS ne_sa_w (ninS ne_sa_x1 (ninS ne_sa_x0 nin0))))
      have f_V_ta := f_V_ta.keep K31 (ninS ne_ta_q (ninS ne_ta_w (ninS ne_ta_x1 (ninS ne_ta_x0 nin0))))
      have f_O_x2 := f_O_x2.keep K31 (ninS ne_x2_q (ninS ne_x2_w (ninS (Ne.symm ne_x1_x2) (ninS (Ne.symm ne_x0_x2) nin0))))
      have Zn := Nat.le_trans Zn K31.1
      show own_End p e below _ (T31.setTop (mkF m 280 _ [(.ref x1)]))
      refine own_astore X31 hx hby at_280 (pc' := 282) rfl rfl (l' := #[.val (.long p0), .second, .val (.long p1), .second, .val (.long p2), .second, .val (.long p3), .second, .val (.int p4), .val (.int p5), .val (.int (2 : Int32)), .val (.ref oa), .val (.int pm), .val (.ref sa), .val (.long lo), .second, .val (.long hi), .second, .val (.int sw), .val (.ref ta), .val (.ref q), .val (.ref x1), .unset, .unset, .unset, .unset]) rfl ?_
      refine own_aload X31 hx hby at_282 (pc' := 284) rfl rfl rfl ?_
      refine own_lk8 hw X31 hx hZ hby (by rw [hml]; rfl) hown at_284 (pc' := 287) rfl rfl Oq31.1 (W := 0) (Nat.le_of_eq rfl) (rmP1 l Z a0 hw [] q w kk x0 (p0 + o0) s0 T31.heap n0 Zn Oq31 V31 ho Oy31 ge_q ge_w ge_x0) (by decide) (by decide) (by decide) (by decide) (fun v32 T32 L32 X32 hQ32 => ?_)
      obtain ⟨rfl, Nq32, K32, Oq32, V32, Ox32⟩ := hQ32
      have N32 := Fr.app N31 Nq32
      have f_V_oa := f_V_oa.keep K32 (ninS ne_oa_q (ninS ne_oa_w (ninS ne_oa_x0 nin0)))
      have f_V_sa := f_V_sa.keep K32 (ninS ne_sa_q (ninS ne_sa_w (ninS ne_sa_x0 nin0)))
      have f_V_ta := f_V_ta.keep K32 (ninS ne_ta_q (ninS ne_ta_w (ninS ne_ta_x0 nin0)))
      have f_O_x2 := f_O_x2.keep K32 (ninS ne_x2_q (ninS ne_x2_w (ninS (Ne.symm ne_x0_x2) nin0)))
      have Ox31 := Ox31.keep K32 (ninS ne_x1_q (ninS ne_x1_w (ninS (Ne.symm ne_x0_x1) nin0)))
      have Zn := Nat.le_trans Zn K32.1
      show own_End p e below _ (T32.setTop (mkF m 287 _ [(.ref x0)]))
      refine own_astore X32 hx hby at_287 (pc' := 289) rfl rfl (l' := #[.val (.long p0), .second, .val (.long p1), .second, .val (.long p2), .second, .val (.long p3), .second, .val (.int p4), .val (.int p5), .val (.int (2 : Int32)), .val (.ref oa), .val (.int pm), .val (.ref sa), .val (.long lo), .second, .val (.long hi), .second, .val (.int sw), .val (.ref ta), .val (.ref q), .val (.ref x1), .val (.ref x0), .unset, .unset, .unset]) rfl ?_
      refine own_aload X32 hx hby at_289 (pc' := 291) rfl rfl rfl ?_
      refine own_lk8 hw X32 hx hZ hby (by rw [hml]; rfl) hown at_291 (pc' := 294) rfl rfl Oq32.1 (W := 0) (Nat.le_of_eq rfl) (rmP0 l Z a0 hw [] q w kk T32.heap n0 Zn Oq32 V32 ho) (by decide) (by decide) (by decide) (by decide) (fun v33 T33 L33 X33 hQ33 => ?_)
      obtain ⟨rfl, Nq33, e33⟩ := hQ33
      have N33 := Fr.app N32 Nq33
      show own_End p e below _ (T33.setTop (mkF m 294 _ [.null]))
      refine own_astore X33 hx hby at_294 (pc' := 296) rfl rfl (l' := #[.val (.long p0), .second, .val (.long p1), .second, .val (.long p2), .second, .val (.long p3), .second, .val (.int p4), .val (.int p5), .val (.int (2 : Int32)), .val (.ref oa), .val (.int pm), .val (.ref sa), .val (.long lo), .second, .val (.long hi), .second, .val (.int sw), .val (.ref ta), .val (.ref q), .val (.ref x1), .val (.ref x0), .val .null, .unset, .unset]) rfl ?_
      refine own_aload X33 hx hby at_296 (pc' := 298) rfl rfl rfl ?_
      refine own_aload X33 hx hby at_298 (pc' := 300) rfl rfl rfl ?_
      refine own_aload X33 hx hby at_300 (pc' := 302) rfl rfl rfl ?_
      refine own_iload X33 hx hby at_302 (pc' := 304) rfl rfl ?_
      refine own_iconst X33 hx hby at_304 (pc' := 305) rfl (n := (0 : Int32)) (by decide) ?_
      refine own_aload X33 hx hby at_305 (pc' := 307) rfl rfl rfl ?_
      refine own_lk9 hw X33 hx hZ hby (by rw [hml]; rfl) hown at_307 (pc' := 310) rfl e33 (W := 1) (Nat.le_of_eq rfl) (rmEX2 l Z a0 hw [] oa sa ko ks o0 o1 o2 s0 s1 s2 ta kt x0 x1 x2 (0 : Int32) (0 : Int32) (1 : Int32) T32.heap n0 Zn f_V_oa f_V_sa f_V_ta ht01.1 ht01.2) (by decide) (by decide) (by decide) (by decide) (fun v34 T34 L34 X34 hQ34 => ?_)
      obtain ⟨rfl, Nq34, e34⟩ := hQ34
      have N34 := Fr.app N33 Nq34
      show own_End p e below _ (T34.setTop (mkF m 310 _ [(.ref x1), (.ref x1)]))
      refine own_acmp X34 hx hby at_310 rfl rfl (same := true) (decide_eq_true rfl) (by decide) (pc' := 313) (by decide) ?_
      refine own_aload X34 hx hby at_313 (pc' := 315) rfl rfl rfl ?_
      refine own_aload X34 hx hby at_315 (pc' := 317) rfl rfl rfl ?_
      refine own_aload X34 hx hby at_317 (pc' := 319) rfl rfl rfl ?_
      refine own_iload X34 hx hby at_319 (pc' := 321) rfl rfl ?_
      refine own_iconst X34 hx hby at_321 (pc' := 322) rfl (n := (1 : Int32)) (by decide) ?_
      refine own_aload X34 hx hby at_322 (pc' := 324) rfl rfl rfl ?_
      refine own_lk9 hw X34 hx hZ hby (by rw [hml]; rfl) hown at_324 (pc' := 327) rfl e34 (W := 1) (Nat.le_of_eq rfl) (rmEX2 l Z a0 hw [] oa sa ko ks o0 o1 o2 s0 s1 s2 ta kt x0 x1 x2 (1 : Int32) (0 : Int32) (1 : Int32) T32.heap n0 Zn f_V_oa f_V_sa f_V_ta ht01.1 ht01.2) (by decide) (by decide) (by decide) (by decide) (fun v35 T35 L35 X35 hQ35 => ?_)
      obtain ⟨rfl, Nq35, e35⟩ := hQ35
      have N35 := Fr.app N34 Nq35
      show own_End p e below _ (T35.setTop (mkF m 327 _ [(.ref x0), (.ref x0)]))
      refine own_acmp X35 hx hby at_327 rfl rfl (same := true) (decide_eq_true rfl) (by decide) (pc' := 330) (by decide) ?_
      refine own_aload X35 hx hby at_330 (pc' := 332) rfl rfl rfl ?_
      refine own_aload X35 hx hby at_332 (pc' := 334) rfl rfl rfl ?_
      refine own_aload X35 hx hby at_334 (pc' := 336) rfl rfl rfl ?_
      refine own_iload X35 hx hby at_336 (pc' := 338) rfl rfl ?_
      refine own_iconst X35 hx hby at_338 (pc' := 339) rfl (n := (2 : Int32)) (by decide) ?_
      refine own_aload X35 hx hby at_339 (pc' := 341) rfl rfl rfl ?_
      refine own_lk9 hw X35 hx hZ hby (by rw [hml]; rfl) hown at_341 (pc' := 344) rfl e35 (W := 1) (Nat.le_of_eq rfl) (rmEX2 l Z a0 hw [] oa sa ko ks o0 o1 o2 s0 s1 s2 ta kt x0 x1 x2 (2 : Int32) (0 : Int32) (1 : Int32) T32.heap n0 Zn f_V_oa f_V_sa f_V_ta ht01.1 ht01.2) (by decide) (by decide) (by decide) (by decide) (fun v36 T36 L36 X36 hQ36 => ?_)
      obtain ⟨rfl, Nq36, e36⟩ := hQ36
      have N36 := Fr.app N35 Nq36
      show own_End p e below _ (T36.setTop (mkF m 344 _ [.null, .null]))
      refine own_acmp X36 hx hby at_344 rfl rfl (same := true) (decide_eq_true rfl) (by decide) (pc' := 347) (by decide) ?_
      refine own_iconst X36 hx hby at_347 (pc' := 348) rfl (n := (1 : Int32)) (by decide) ?_
      refine own_goto X36 hx hby at_348 (pc' := 352) (by decide) (by decide) ?_
      refine own_istore X36 hx hby at_352 (pc' := 354) rfl (l' := #[.val (.long p0), .second, .val (.long p1), .second, .val (.long p2), .second, .val (.long p3), .second, .val (.int p4), .val (.int p5), .val (.int (2 : Int32)), .val (.ref oa), .val (.int pm), .val (.ref sa), .val (.long lo), .second, .val (.long hi), .second, .val (.int sw), .val (.ref ta), .val (.ref q), .val (.ref x1), .val (.ref x0), .val .null, .val (.int (1 : Int32)), .unset]) rfl ?_
      refine own_aload X36 hx hby at_354 (pc' := 356) rfl rfl rfl ?_
      refine own_ifnullN X36 hx hby at_356 (pc' := 359) rfl ?_
      refine own_aload X36 hx hby at_359 (pc' := 361) rfl rfl rfl ?_
      refine own_lk11 hw X36 hx hZ hby (by rw [hml]; rfl) hown at_361 (pc' := 364) rfl e36 Ox31.1 (W := 0) (Nat.le_of_eq rfl) (rmGQ l Z a0 hw [] x1 (p0 + o1) s1 (-1 : Int32) T32.heap n0 Zn Ox31) (by decide) (by decide) (by decide) (by decide) (fun v37 T37 L37 X37 hQ37 => ?_)
      obtain ⟨rfl, Nq37, e37⟩ := hQ37
      have N37 := Fr.app N36 Nq37
      show own_End p e below _ (T37.setTop (mkF m 364 _ [(.int (-1 : Int32))]))
      refine own_iconst X37 hx hby at_364 (pc' := 365) rfl (n := (-1 : Int32)) (by decide) ?_
      refine own_icN X37 hx hby at_365 (pc' := 368) rfl (show (-1 : Int32) = (-1 : Int32) by decide) ?_
      refine own_iconst X37 hx hby at_368 (pc' := 369) rfl (n := (1 : Int32)) (by decide) ?_
      refine own_goto X37 hx hby at_369 (pc' := 373) (by decide) (by decide) ?_
      refine own_istore X37 hx hby at_373 (pc' := 375) rfl (l' := #[.val (.long p0), .second, .val (.long p1), .second, .val (.long p2), .second, .val (.long p3), .second, .val (.int p4), .val (.int p5), .val (.int (2 : Int32)), .val (.ref oa), .val (.int pm), .val (.ref sa), .val (.long lo), .second, .val (.long hi), .second, .val (.int sw), .val (.ref ta), .val (.ref q), .val (.ref x1), .val (.ref x0), .val .null, .val (.int (1 : Int32)), .val (.int (1 : Int32))]) rfl ?_
      refine own_iload X37 hx hby at_375 (pc' := 377) rfl rfl ?_
      refine own_ifN X37 hx hby at_377 (pc' := 380) rfl (show ¬ (1 : Int32) = (0 : Int32) by decide) ?_
      refine own_iload X37 hx hby at_380 (pc' := 382) rfl rfl ?_
      refine own_ifN X37 hx hby at_382 (pc' := 385) rfl (show ¬ (1 : Int32) = (0 : Int32) by decide) ?_
      refine own_iconst X37 hx hby at_385 (pc' := 386) rfl (n := (1 : Int32)) (by decide) ?_
      refine own_goto X37 hx hby at_386 (pc' := 390) (by decide) (by decide) ?_
      refine own_zreturn X37 hx hlk hby hret (Or.inr rfl) at_390 (own_lv ?_ (by decide) (by decide))
      show Q0 Z p0 p1 p2 p3 p4 p5  h0 n0 (some (.int (1 : Int32))) T37.heap _
      rw [e37]
      exact ⟨rfl, N37⟩
  · show own_End p e below _ (T0.setTop (mkF m 232 #[.val (.long p0), .second, .val (.long p1), .second, .val (.long p2), .second, .val (.long p3), .second, .val (.int p4), .val (.int p5), .val (.int (3 : Int32)), .val (.ref oa), .val (.int pm), .val (.ref sa), .val (.long lo), .second, .val (.long hi), .second, .val (.int sw), .val (.ref ta), .val (.ref q), .unset, .unset, .unset, .unset, .unset] [(.int (3 : Int32))]))
    rcases own_bfor (oi := o0) (oj := o1) hs01 with ht01 | ht01
    · have _ht := ht01
      rcases own_bfor (oi := o1) (oj := o2) hs12 with ht12 | ht12
      · have _ht := ht12
        rcases own_bfor (oi := o0) (oj := o2) hs02 with ht02 | ht02
        · have _ht := ht02
          refine own_iconst X0 hx hby at_232 (pc' := 233) rfl (n := (1 : Int32)) (by decide) ?_
          refine own_icN X0 hx hby at_233 (pc' := 236) rfl (show ¬ (3 : Int32) < (1 : Int32) by decide) ?_
          refine own_aload X0 hx hby at_236 (pc' := 238) rfl rfl rfl ?_
          refine own_aload X0 hx hby at_238 (pc' := 240) rfl rfl rfl ?_
          refine own_iconst X0 hx hby at_240 (pc' := 241) rfl (n := (0 : Int32)) (by decide) ?_
          obtain ⟨cl38, Ar38, q38, S38, M38, H38, G38⟩ := id f_V_ta
          have hin38 : ¬ ((0 : Int32) < 0 ∨ cl38.slots.size ≤ ((0 : Int32)).toNatClampNeg) := inb_of S38 ⟨by decide, by decide⟩
          have hat38 : cl38.slots[((0 : Int32)).toNatClampNeg]? = some (.ref x0) := H38.at hin38 rfl
          refine own_aaload X0 hx hZ hby e1 Ar38 rfl hin38 hat38 at_241 (pc' := 242) rfl ?_
          have ne_oa_q : oa ≠ q := Ne.symm (Exa.neArv f_O_q.1 f_V_oa (wd_26 hw))
          have ne_oa_x0 : oa ≠ x0 := Ne.symm (Exa.neArv f_O_x0.1 f_V_oa (wd_6 hw))
          have ne_sa_q : sa ≠ q := Ne.symm (Exa.neArv f_O_q.1 f_V_sa (wd_26 hw))
          have ne_sa_x0 : sa ≠ x0 := Ne.symm (Exa.neArv f_O_x0.1 f_V_sa (wd_6 hw))
          have ne_ta_q : ta ≠ q := Ne.symm (Exa.neArv f_O_q.1 f_V_ta (wd_26 hw))
          have ne_ta_x0 : ta ≠ x0 := Ne.symm (Exa.neArv f_O_x0.1 f_V_ta (wd_6 hw))
          have ne_q_w : q ≠ w := Exa.neArv f_O_q.1 f_V_w (wd_26 hw)
          have ne_q_x0 : q ≠ x0 := Exa.ne f_O_q.1 f_O_x0.1 (by decide)
          have ne_w_x0 : w ≠ x0 := Ne.symm (Exa.neArv f_O_x0.1 f_V_w (wd_6 hw))
          have ne_x1_q : x1 ≠ q := Exa.ne f_O_x1.1 f_O_q.1 (by decide)
          have ne_x1_w : x1 ≠ w := Exa.neArv f_O_x1.1 f_V_w (wd_6 hw)
          have ne_x2_q : x2 ≠ q := Exa.ne f_O_x2.1 f_O_q.1 (by decide)
          have ne_x2_w : x2 ≠ w := Exa.neArv f_O_x2.1 f_V_w (wd_6 hw)
          refine own_lk10 hw X0 hx hZ hby (by rw [hml]; rfl) hown at_242 (pc' := 245) rfl e1 f_O_q.1 (W := 0) (Nat.le_of_eq rfl) (rmA0 l Z a0 hw [] q w kk x0 (p0 + o0) s0 h1 n0 Z1 f_O_q f_V_w ho f_O_x0 ge_q ge_w ge_x0) (by decide) (by decide) (by decide) (by decide) (fun v39 T39 L39 X39 hQ39 => ?_)
          obtain ⟨rfl, Nq39, K39, Oq39, V39, Ot39⟩ := hQ39
          have N39 := Fr.app N0 Nq39
          have f_V_oa := f_V_oa.keep K39 (ninS ne_oa_q (ninS ne_oa_w (ninS ne_oa_x0 nin0)))
          have f_V_sa := f_V_sa.keep K39 (ninS ne_sa_q (ninS ne_sa_w (ninS ne_sa_x0 nin0)))
          have f_V_ta := f_V_ta.keep K39 (ninS ne_ta_q (ninS ne_ta_w (ninS ne_ta_x0 nin0)))
          have f_O_x1 := f_O_x1.keep K39 (ninS ne_x1_q (ninS ne_x1_w (ninS (Ne.symm ne_x0_x1) nin0)))
          have f_O_x2 := f_O_x2.keep K39 (ninS ne_x2_q (ninS ne_x2_w (ninS (Ne.symm ne_x0_x2) nin0)))
          have Zn := Nat.le_trans Z1 K39.1
          show own_End p e below _ (T39.setTop (mkF m 245 _ []))
          refine own_iload X39 hx hby at_245 (pc' := 247) rfl rfl ?_
          refine own_iconst X39 hx hby at_247 (pc' := 248) rfl (n := (2 : Int32)) (by decide) ?_
          refine own_icN X39 hx hby at_248 (pc' := 251) rfl (show ¬ (3 : Int32) < (2 : Int32) by decide) ?_
          refine own_aload X39 hx hby at_251 (pc' := 253) rfl rfl rfl ?_
          refine own_aload X39 hx hby at_253 (pc' := 255) rfl rfl rfl ?_
          refine own_iconst X39 hx hby at_255 (pc' := 256) rfl (n := (1 : Int32)) (by decide) ?_
          obtain ⟨cl40, Ar40, q40, S40, M40, H40, G40⟩ := id f_V_ta
          have hin40 : ¬ ((1 : Int32) < 0 ∨ cl40.slots.size ≤ ((1 : Int32)).toNatClampNeg) := inb_of S40 ⟨by decide, by decide⟩
          have hat40 : cl40.slots[((1 : Int32)).toNatClampNeg]? = some (.ref x1) := H40.at hin40 rfl
          refine own_aaload X39 hx hZ hby rfl Ar40 rfl hin40 hat40 at_256 (pc' := 257) rfl ?_
          have ne_oa_x1 : oa ≠ x1 := Ne.symm (Exa.neArv f_O_x1.1 f_V_oa (wd_6 hw))
          have ne_sa_x1 : sa ≠ x1 := Ne.symm (Exa.neArv f_O_x1.1 f_V_sa (wd_6 hw))
          have ne_ta_x1 : ta ≠ x1 := Ne.symm (Exa.neArv f_O_x1.1 f_V_ta (wd_6 hw))
          refine own_lk10 hw X39 hx hZ hby (by rw [hml]; rfl) hown at_257 (pc' := 260) rfl rfl Oq39.1 (W := 0) (Nat.le_of_eq rfl) (rmA1a l Z a0 hw [] q w kk x0 (p0 + o0) s0 x1 (p0 + o1) s1 T39.heap n0 Zn Oq39 V39 ho Ot39 f_O_x1 ge_q ge_w ge_x1 ne_x0_x1 ((own_rbbf p0 o1 s1 o0 s0 hb1 hb0).trans ht01.2)) (by decide) (by decide) (by decide) (by decide) (fun v41 T41 L41 X41 hQ41 => ?_)
          obtain ⟨rfl, Nq41, K41, Oq41, V41, Ot41⟩ := hQ41
          have N41 := Fr.app N39 Nq41
          have f_V_oa := f_V_oa.keep K41 (ninS ne_oa_q (ninS ne_oa_w (ninS ne_oa_x1 nin0)))
          have f_V_sa := f_V_sa.keep K41 (ninS ne_sa_q (ninS ne_sa_w (ninS ne_sa_x1 nin0)))
          have f_V_ta := f_V_ta.keep K41 (ninS ne_ta_q (ninS ne_ta_w (ninS ne_ta_x1 nin0)))
          have f_O_x2 := f_O_x2.keep K41 (ninS ne_x2_q (ninS ne_x2_w (ninS (Ne.symm ne_x1_x2) nin0)))
          have Ot39 := Ot39.keep K41 (ninS (Ne.symm ne_q_x0) (ninS (Ne.symm ne_w_x0) (ninS ne_x0_x1 nin0)))
          have Zn := Nat.le_trans Zn K41.1
          show own_End p e below _ (T41.setTop (mkF m 260 _ []))
          refine own_iload X41 hx hby at_260 (pc' := 262) rfl rfl ?_
          refine own_iconst X41 hx hby at_262 (pc' := 263) rfl (n := (3 : Int32)) (by decide) ?_
          refine own_icN X41 hx hby at_263 (pc' := 266) rfl (show ¬ (3 : Int32) < (3 : Int32) by decide) ?_
          refine own_aload X41 hx hby at_266 (pc' := 268) rfl rfl rfl ?_
          refine own_aload X41 hx hby at_268 (pc' := 270) rfl rfl rfl ?_
          refine own_iconst X41 hx hby at_270 (pc' := 271) rfl (n := (2 : Int32)) (by decide) ?_
          obtain ⟨cl42, Ar42, q42, S42, M42, H42, G42⟩ := id f_V_ta
          have hin42 : ¬ ((2 : Int32) < 0 ∨ cl42.slots.size ≤ ((2 : Int32)).toNatClampNeg) := inb_of S42 ⟨by decide, by decide⟩
          have hat42 : cl42.slots[((2 : Int32)).toNatClampNeg]? = some (.ref x2) := H42.at hin42 rfl
          refine own_aaload X41 hx hZ hby rfl Ar42 rfl hin42 hat42 at_271 (pc' := 272) rfl ?_
          have ne_oa_x2 : oa ≠ x2 := Ne.symm (Exa.neArv f_O_x2.1 f_V_oa (wd_6 hw))
          have ne_sa_x2 : sa ≠ x2 := Ne.symm (Exa.neArv f_O_x2.1 f_V_sa (wd_6 hw))
          have ne_ta_x2 : ta ≠ x2 := Ne.symm (Exa.neArv f_O_x2.1 f_V_ta (wd_6 hw))
          refine own_lk10 hw X41 hx hZ hby (by rw [hml]; rfl) hown at_272 (pc' := 275) rfl rfl Oq41.1 (W := 0) (Nat.le_of_eq rfl) (rmA2a l Z a0 hw [] q w kk x0 (p0 + o0) s0 x1 (p0 + o1) s1 x2 (p0 + o2) s2 T41.heap n0 Zn Oq41 V41 ho Ot39 Ot41 f_O_x2 ge_q ge_w ge_x2 ne_x0_x1 ne_x0_x2 ne_x1_x2 ((own_rbbf p0 o2 s2 o0 s0 hb2 hb0).trans ht02.2)) (by decide) (by decide) (by decide) (by decide) (fun v43 T43 L43 X43 hQ43 => ?_)
          obtain ⟨rfl, Nq43, K43, Oq43, V43, Ot43⟩ := hQ43
          have N43 := Fr.app N41 Nq43
          have f_V_oa := f_V_oa.keep K43 (ninS ne_oa_q (ninS ne_oa_w (ninS ne_oa_x2 nin0)))
          have f_V_sa := f_V_sa.keep K43 (ninS ne_sa_q (ninS ne_sa_w (ninS ne_sa_x2 nin0)))
          have f_V_ta := f_V_ta.keep K43 (ninS ne_ta_q (ninS ne_ta_w (ninS ne_ta_x2 nin0)))
          have Ot39 := Ot39.keep K43 (ninS (Ne.symm ne_q_x0) (ninS (Ne.symm ne_w_x0) (ninS ne_x0_x2 nin0)))
          have Ot41 := Ot41.keep K43 (ninS ne_x1_q (ninS ne_x1_w (ninS ne_x1_x2 nin0)))
          have Zn := Nat.le_trans Zn K43.1
          show own_End p e below _ (T43.setTop (mkF m 275 _ []))
          refine own_aload X43 hx hby at_275 (pc' := 277) rfl rfl rfl ?_
          refine own_lk8 hw X43 hx hZ hby (by rw [hml]; rfl) hown at_277 (pc' := 280) rfl rfl Oq43.1 (W := 0) (Nat.le_of_eq rfl) (rmP3b l Z a0 hw [] q w kk x0 (p0 + o0) s0 x1 (p0 + o1) s1 x2 (p0 + o2) s2 T43.heap n0 Zn Oq43 V43 ho Ot39 Ot41 Ot43 ge_q ge_w ge_x0 ge_x1 ge_x2 ne_x0_x1 ne_x0_x2 ne_x1_x2 ((own_rbbf p0 o1 s1 o2 s2 hb1 hb2).trans ht12.1)) (by decide) (by decide) (by decide) (by decide) (fun v44 T44 L44 X44 hQ44 => ?_)
          obtain ⟨rfl, Nq44, K44, Oq44, V44, Ox44, Oy44, Oz44⟩ := hQ44
          have N44 := Fr.app N43 Nq44
          have f_V_oa := f_V_oa.keep K44 (ninS ne_oa_q (ninS ne_oa_w (ninS ne_oa_x0 (ninS ne_oa_x1 (ninS ne_oa_x2 nin0)))))
          have f_V_sa := f_V_sa.keep K44 (ninS ne_sa_q (ninS ne_sa_w (ninS ne_sa_x0 (ninS ne_sa_x1 (ninS ne_sa_x2 nin0)))))
          have f_V_ta := f_V_ta.keep K44 (ninS ne_ta_q (ninS ne_ta_w (ninS ne_ta_x0 (ninS ne_ta_x1 (ninS ne_ta_x2 nin0)))))
          have Zn := Nat.le_trans Zn K44.1
          show own_End p e below _ (T44.setTop (mkF m 280 _ [(.ref x0)]))
          refine own_astore X44 hx hby at_280 (pc' := 282) rfl rfl (l' := #[.val (.long p0), .second, .val (.long p1), .second, .val (.long p2), .second, .val (.long p3), .second, .val (.int p4), .val (.int p5), .val (.int (3 : Int32)), .val (.ref oa), .val (.int pm), .val (.ref sa), .val (.long lo), .second, .val (.long hi), .second, .val (.int sw), .val (.ref ta), .val (.ref q), .val (.ref x0), .unset, .unset, .unset, .unset]) rfl ?_
          refine own_aload X44 hx hby at_282 (pc' := 284) rfl rfl rfl ?_
          refine own_lk8 hw X44 hx hZ hby (by rw [hml]; rfl) hown at_284 (pc' := 287) rfl rfl Oq44.1 (W := 0) (Nat.le_of_eq rfl) (rmP2 l Z a0 hw [] q w kk x1 (p0 + o1) s1 x2 (p0 + o2) s2 T44.heap n0 Zn Oq44 V44 ho Oy44 Oz44 ge_q ge_w ge_x1 ge_x2 ne_x1_x2) (by decide) (by decide) (by decide) (by decide) (fun v45 T45 L45 X45 hQ45 => ?_)
          obtain ⟨rfl, Nq45, K45, Oq45, V45, Ox45, Oy45⟩ := hQ45
          have N45 := Fr.app N44 Nq45
          have f_V_oa := f_V_oa.keep K45 (ninS ne_oa_q (ninS ne_oa_w (ninS ne_oa_x1 (ninS ne_oa_x2 nin0))))
          have f_V_sa := f_V_sa.keep K45 (ninS ne_sa_q (ninS ne_sa_w (ninS ne_sa_x1 (ninS ne_sa_x2 nin0))))
          have f_V_ta := f_V_ta.keep K45 (ninS ne_ta_q (ninS ne_ta_w (ninS ne_ta_x1 (ninS ne_ta_x2 nin0))))
          have Ox44 := Ox44.keep K45 (ninS (Ne.symm ne_q_x0) (ninS (Ne.symm ne_w_x0) (ninS ne_x0_x1 (ninS ne_x0_x2 nin0))))
          have Zn := Nat.le_trans Zn K45.1
          show own_End p e below _ (T45.setTop (mkF m 287 _ [(.ref x1)]))
          refine own_astore X45 hx hby at_287 (pc' := 289) rfl rfl (l' := #[.val (.long p0), .second, .val (.long p1), .second, .val (.long p2), .second, .val (.long p3), .second, .val (.int p4), .val (.int p5), .val (.int (3 : Int32)), .val (.ref oa), .val (.int pm), .val (.ref sa), .val (.long lo), .second, .val (.long hi), .second, .val (.int sw), .val (.ref ta), .val (.ref q), .val (.ref x0), .val (.ref x1), .unset, .unset, .unset]) rfl ?_
          refine own_aload X45 hx hby at_289 (pc' := 291) rfl rfl rfl ?_
          refine own_lk8 hw X45 hx hZ hby (by rw [hml]; rfl) hown at_291 (pc' := 294) rfl rfl Oq45.1 (W := 0) (Nat.le_of_eq rfl) (rmP1 l Z a0 hw [] q w kk x2 (p0 + o2) s2 T45.heap n0 Zn Oq45 V45 ho Oy45 ge_q ge_w ge_x2) (by decide) (by decide) (by decide) (by decide) (fun v46 T46 L46 X46 hQ46 => ?_)
          obtain ⟨rfl, Nq46, K46, Oq46, V46, Ox46⟩ := hQ46
          have N46 := Fr.app N45 Nq46
          have f_V_oa := f_V_oa.keep K46 (ninS ne_oa_q (ninS ne_oa_w (ninS ne_oa_x2 nin0)))
          have f_V_sa := f_V_sa.keep K46 (ninS ne_sa_q (ninS ne_sa_w (ninS ne_sa_x2 nin0)))
          have f_V_ta := f_V_ta.keep K46 (ninS ne_ta_q (ninS ne_ta_w (ninS ne_ta_x2 nin0)))
          have Ox44 := Ox44.keep K46 (ninS (Ne.symm ne_q_x0) (ninS (Ne.symm ne_w_x0) (ninS ne_x0_x2 nin0)))
          have Ox45 := Ox45.keep K46 (ninS ne_x1_q (ninS ne_x1_w (ninS ne_x1_x2 nin0)))
          have Zn := Nat.le_trans Zn K46.1
          show own_End p e below _ (T46.setTop (mkF m 294 _ [(.ref x2)]))
          refine own_astore X46 hx hby at_294 (pc' := 296) rfl rfl (l' := #[.val (.long p0), .second, .val (.long p1), .second, .val (.long p2), .second, .val (.long p3), .second, .val (.int p4), .val (.int p5), .val (.int (3 : Int32)), .val (.ref oa), .val (.int pm), .val (.ref sa), .val (.long lo), .second, .val (.long hi), .second, .val (.int sw), .val (.ref ta), .val (.ref q), .val (.ref x0), .val (.ref x1), .val (.ref x2), .unset, .unset]) rfl ?_
          refine own_aload X46 hx hby at_296 (pc' := 298) rfl rfl rfl ?_
          refine own_aload X46 hx hby at_298 (pc' := 300) rfl rfl rfl ?_
          refine own_aload X46 hx hby at_300 (pc' := 302) rfl rfl rfl ?_
          refine own_iload X46 hx hby at_302 (pc' := 304) rfl rfl ?_
          refine own_iconst X46 hx hby at_304 (pc' := 305) rfl (n := (0 : Int32)) (by decide) ?_
          refine own_aload X46 hx hby at_305 (pc' := 307) rfl rfl rfl ?_
          refine own_lk9 hw X46 hx hZ hby (by rw [hml]; rfl) hown at_307 (pc' := 310) rfl rfl (W := 1) (Nat.le_of_eq rfl) (rmEX3 l Z a0 hw [] oa sa ko ks o0 o1 o2 s0 s1 s2 ta kt x0 x1 x2 (0 : Int32) (1 : Int32) (1 : Int32) (0 : Int32) (1 : Int32) (0 : Int32) (0 : Int32) T46.heap n0 Zn f_V_oa f_V_sa f_V_ta ht01.1 ht02.1 ht01.2 ht12.1 ht02.2 ht12.2) (by decide) (by decide) (by decide) (by decide) (fun v47 T47 L47 X47 hQ47 => ?_)
          obtain ⟨rfl, Nq47, e47⟩ := hQ47
          have N47 := Fr.app N46 Nq47
          show own_End p e below _ (T47.setTop (mkF m 310 _ [(.ref x0), (.ref x0)]))
          refine own_acmp X47 hx hby at_310 rfl rfl (same := true) (decide_eq_true rfl) (by decide) (pc' := 313) (by decide) ?_
          refine own_aload X47 hx hby at_313 (pc' := 315) rfl rfl rfl ?_
          refine own_aload X47 hx hby at_315 (pc' := 317) rfl rfl rfl ?_
          refine own_aload X47 hx hby at_317 (pc' := 319) rfl rfl rfl ?_
          refine own_iload X47 hx hby at_319 (pc' := 321) rfl rfl ?_
          refine own_iconst X47 hx hby at_321 (pc' := 322) rfl (n := (1 : Int32)) (by decide) ?_
          refine own_aload X47 hx hby at_322 (pc' := 324) rfl rfl rfl ?_
          refine own_lk9 hw X47 hx hZ hby (by rw [hml]; rfl) hown at_324 (pc' := 327) rfl e47 (W := 1) (Nat.le_of_eq rfl) (rmEX3 l Z a0 hw [] oa sa ko ks o0 o1 o2 s0 s1 s2 ta kt x0 x1 x2 (1 : Int32) (1 : Int32) (1 : Int32) (0 : Int32) (1 : Int32) (0 : Int32) (0 : Int32) T46.heap n0 Zn f_V_oa f_V_sa f_V_ta ht01.1 ht02.1 ht01.2 ht12.1 ht02.2 ht12.2) (by decide) (by decide) (by decide) (by decide) (fun v48 T48 L48 X48 hQ48 => ?_)
          obtain ⟨rfl, Nq48, e48⟩ := hQ48
          have N48 := Fr.app N47 Nq48
          show own_End p e below _ (T48.setTop (mkF m 327 _ [(.ref x1), (.ref x1)]))
          refine own_acmp X48 hx hby at_327 rfl rfl (same := true) (decide_eq_true rfl) (by decide) (pc' := 330) (by decide) ?_
          refine own_aload X48 hx hby at_330 (pc' := 332) rfl rfl rfl ?_
          refine own_aload X48 hx hby at_332 (pc' := 334) rfl rfl rfl ?_
          refine own_aload X48 hx hby at_334 (pc' := 336) rfl rfl rfl ?_
          refine own_iload X48 hx hby at_336 (pc' := 338) rfl rfl ?_
          refine own_iconst X48 hx hby at_338 (pc' := 339) rfl (n := (2 : Int32)) (by decide) ?_
          refine own_aload X48 hx hby at_339 (pc' := 341) rfl rfl rfl ?_
          refine own_lk9 hw X48 hx hZ hby (by rw [hml]; rfl) hown at_341 (pc' := 344) rfl e48 (W := 1) (Nat.le_of_eq rfl) (rmEX3 l Z a0 hw [] oa sa ko ks o0 o1 o2 s0 s1 s2 ta kt x0 x1 x2 (2 : Int32) (1 : Int32) (1 : Int32) (0 : Int32) (1 : Int32) (0 : Int32) (0 : Int32) T46.heap n0 Zn f_V_oa f_V_sa f_V_ta ht01.1 ht02.1 ht01.2 ht12.1 ht02.2 ht12.2) (by decide) (by decide) (by decide) (by decide) (fun v49 T49 L49 X49 hQ49 => ?_)
          obtain ⟨rfl, Nq49, e49⟩ := hQ49
          have N49 := Fr.app N48 Nq49
          show own_End p e below _ (T49.setTop (mkF m 344 _ [(.ref x2), (.ref x2)]))
          refine own_acmp X49 hx hby at_344 rfl rfl (same := true) (decide_eq_true rfl) (by decide) (pc' := 347) (by decide) ?_
          refine own_iconst X49 hx hby at_347 (pc' := 348) rfl (n := (1 : Int32)) (by decide) ?_
          refine own_goto X49 hx hby at_348 (pc' := 352) (by decide) (by decide) ?_
          refine own_istore X49 hx hby at_352 (pc' := 354) rfl (l' := #[.val (.long p0), .second, .val (.long p1), .second, .val (.long p2), .second, .val (.long p3), .second, .val (.int p4), .val (.int p5), .val (.int (3 : Int32)), .val (.ref oa), .val (.int pm), .val (.ref sa), .val (.long lo), .second, .val (.long hi), .second, .val (.int sw), .val (.ref ta), .val (.ref q), .val (.ref x0), .val (.ref x1), .val (.ref x2), .val (.int (1 : Int32)), .unset]) rfl ?_
          refine own_aload X49 hx hby at_354 (pc' := 356) rfl rfl rfl ?_
          refine own_ifnullN X49 hx hby at_356 (pc' := 359) rfl ?_
          refine own_aload X49 hx hby at_359 (pc' := 361) rfl rfl rfl ?_
          refine own_lk11 hw X49 hx hZ hby (by rw [hml]; rfl) hown at_361 (pc' := 364) rfl e49 Ox44.1 (W := 0) (Nat.le_of_eq rfl) (rmGQ l Z a0 hw [] x0 (p0 + o0) s0 (-1 : Int32) T46.heap n0 Zn Ox44) (by decide) (by decide) (by decide) (by decide) (fun v50 T50 L50 X50 hQ50 => ?_)
          obtain ⟨rfl, Nq50, e50⟩ := hQ50
          have N50 := Fr.app N49 Nq50
          show own_End p e below _ (T50.setTop (mkF m 364 _ [(.int (-1 : Int32))]))
          refine own_iconst X50 hx hby at_364 (pc' := 365) rfl (n := (-1 : Int32)) (by decide) ?_
          refine own_icN X50 hx hby at_365 (pc' := 368) rfl (show (-1 : Int32) = (-1 : Int32) by decide) ?_
          refine own_iconst X50 hx hby at_368 (pc' := 369) rfl (n := (1 : Int32)) (by decide) ?_
          refine own_goto X50 hx hby at_369 (pc' := 373) (by decide) (by decide) ?_
          refine own_istore X50 hx hby at_373 (pc' := 375) rfl (l' := #[.val (.long p0), .second, .val (.long p1), .second, .val (.long p2), .second, .val (.long p3), .second, .val (.int p4), .val (.int p5), .val (.int (3 : Int32)), .val (.ref oa), .val (.int pm), .val (.ref sa), .val (.long lo), .second, .val (.long hi), .second, .val (.int sw), .val (.ref ta), .val (.ref q), .val (.ref x0), .val (.ref x1), .val (.ref x2), .val (.int (1 : Int32)), .val (.int (1 : Int32))]) rfl ?_
          refine own_iload X50 hx hby at_375 (pc' := 377) rfl rfl ?_
          refine own_ifN X50 hx hby at_377 (pc' := 380) rfl (show ¬ (1 : Int32) = (0 : Int32) by decide) ?_
          refine own_iload X50 hx hby at_380 (pc' := 382) rfl rfl ?_
          refine own_ifN X50 hx hby at_382 (pc' := 385) rfl (show ¬ (1 : Int32) = (0 : Int32) by decide) ?_
          refine own_iconst X50 hx hby at_385 (pc' := 386) rfl (n := (1 : Int32)) (by decide) ?_
          refine own_goto X50 hx hby at_386 (pc' := 390) (by decide) (by decide) ?_
          refine own_zreturn X50 hx hlk hby hret (Or.inr rfl) at_390 (own_lv ?_ (by decide) (by decide))
          show Q0 Z p0 p1 p2 p3 p4 p5  h0 n0 (some (.int (1 : Int32))) T50.heap _
          rw [e50]
          exact ⟨rfl, N50⟩
        · have _ht := ht02
          exact (own_bftr ht01.1 ht12.1 ht02.2).elim
      · have _ht := ht12
        rcases own_bfor (oi := o0) (oj := o2) hs02 with ht02 | ht02
        · have _ht := ht02
          refine own_iconst X0 hx hby at_232 (pc' := 233) rfl (n := (1 : Int32)) (by decide) ?_
          refine own_icN X0 hx hby at_233 (pc' := 236) rfl (show ¬ (3 : Int32) < (1 : Int32) by decide) ?_
          refine own_aload X0 hx hby at_236 (pc' := 238) rfl rfl rfl ?_
          refine own_aload X0 hx hby at_238 (pc' := 240) rfl rfl rfl ?_
          refine own_iconst X0 hx hby at_240 (pc' := 241) rfl (n := (0 : Int32)) (by decide) ?_
          obtain ⟨cl51, Ar51, q51, S51, M51, H51, G51⟩ := id f_V_ta
          have hin51 : ¬ ((0 : Int32) < 0 ∨ cl51.slots.size ≤ ((0 : Int32)).toNatClampNeg) := inb_of S51 ⟨by decide, by decide⟩
          have hat51 : cl51.slots[((0 : Int32)).toNatClampNeg]? = some (.ref x0) := H51.at hin51 rfl
          refine own_aaload X0 hx hZ hby e1 Ar51 rfl hin51 hat51 at_241 (pc' := 242) rfl ?_
          have ne_oa_q : oa ≠ q := Ne.symm (Exa.neArv f_O_q.1 f_V_oa (wd_26 hw))
          have ne_oa_x0 : oa ≠ x0 := Ne.symm (Exa.neArv f_O_x0.1 f_V_oa (wd_6 hw))
          have ne_sa_q : sa ≠ q := Ne.symm (Exa.neArv f_O_q.1 f_V_sa (wd_26 hw))
          have ne_sa_x0 : sa ≠ x0 := Ne.symm (Exa.neArv f_O_x0.1 f_V_sa (wd_6 hw))
          have ne_ta_q : ta ≠ q := Ne.symm (Exa.neArv f_O_q.1 f_V_ta (wd_26 hw))
          have ne_ta_x0 : ta ≠ x0 := Ne.symm (Exa.neArv f_O_x0.1 f_V_ta (wd_6 hw))
          have ne_q_w : q ≠ w := Exa.neArv f_O_q.1 f_V_w (wd_26 hw)
          have ne_q_x0 : q ≠ x0 := Exa.ne f_O_q.1 f_O_x0.1 (by decide)
          have ne_w_x0 : w ≠ x0 := Ne.symm (Exa.neArv f_O_x0.1 f_V_w (wd_6 hw))
          have ne_x1_q : x1 ≠ q := Exa.ne f_O_x1.1 f_O_q.1 (by decide)
          have ne_x1_w : x1 ≠ w := Exa.neArv f_O_x1.1 f_V_w (wd_6 hw)
          have ne_x2_q : x2 ≠ q := Exa.ne f_O_x2.1 f_O_q.1 (by decide)
          have ne_x2_w : x2 ≠ w := Exa.neArv f_O_x2.1 f_V_w (wd_6 hw)
          refine own_lk10 hw X0 hx hZ hby (by rw [hml]; rfl) hown at_242 (pc' := 245) rfl e1 f_O_q.1 (W := 0) (Nat.le_of_eq rfl) (rmA0 l Z a0 hw [] q w kk x0 (p0 + o0) s0 h1 n0 Z1 f_O_q f_V_w ho f_O_x0 ge_q ge_w ge_x0) (by decide) (by decide) (by decide) (by decide) (fun v52 T52 L52 X52 hQ52 => ?_)
          obtain ⟨rfl, Nq52, K52, Oq52, V52, Ot52⟩ := hQ52
          have N52 := Fr.app N0 Nq52
          have f_V_oa := f_V_oa.keep K52 (ninS ne_oa_q (ninS ne_oa_w (ninS ne_oa_x0 nin0)))
          have f_V_sa := f_V_sa.keep K52 (ninS ne_sa_q (ninS ne_sa_w (ninS ne_sa_x0 nin0)))
          have f_V_ta := f_V_ta.keep K52 (ninS ne_ta_q (ninS ne_ta_w (ninS ne_ta_x0 nin0)))
          have f_O_x1 := f_O_x1.keep K52 (ninS ne_x1_q (ninS ne_x1_w (ninS (Ne.symm ne_x0_x1) nin0)))
          have f_O_x2 := f_O_x2.keep K52 (ninS ne_x2_q (ninS ne_x2_w (ninS (Ne.symm ne_x0_x2) nin0)))
          have Zn := Nat.le_trans Z1 K52.1
          show own_End p e below _ (T52.setTop (mkF m 245 _ []))
          refine own_iload X52 hx hby at_245 (pc' := 247) rfl rfl ?_
          refine own_iconst X52 hx hby at_247 (pc' := 248) rfl (n := (2 : Int32)) (by decide) ?_
          refine own_icN X52 hx hby at_248 (pc' := 251) rfl (show ¬ (3 : Int32) < (2 : Int32) by decide) ?_
          refine own_aload X52 hx hby at_251 (pc' := 253) rfl rfl rfl ?_
          refine own_aload X52 hx hby at_253 (pc' := 255) rfl rfl rfl ?_
          refine own_iconst X52 hx hby at_255 (pc' := 256) rfl (n := (1 : Int32)) (by decide) ?_
          obtain ⟨cl53, Ar53, q53, S53, M53, H53, G53⟩ := id f_V_ta
          have hin53 : ¬ ((1 : Int32) < 0 ∨ cl53.slots.size ≤ ((1 : Int32)).toNatClampNeg) := inb_of S53 ⟨by decide, by decide⟩
          have hat53 : cl53.slots[((1 : Int32)).toNatClampNeg]? = some (.ref x1) := H53.at hin53 rfl
          refine own_aaload X52 hx hZ hby rfl Ar53 rfl hin53 hat53 at_256 (pc' := 257) rfl ?_
          have ne_oa_x1 : oa ≠ x1 := Ne.symm (Exa.neArv f_O_x1.1 f_V_oa (wd_6 hw))
          have ne_sa_x1 : sa ≠ x1 := Ne.symm (Exa.neArv f_O_x1.1 f_V_sa (wd_6 hw))
          have ne_ta_x1 : ta ≠ x1 := Ne.symm (Exa.neArv f_O_x1.1 f_V_ta (wd_6 hw))
          refine own_lk10 hw X52 hx hZ hby (by rw [hml]; rfl) hown at_257 (pc' := 260) rfl rfl Oq52.1 (W := 0) (Nat.le_of_eq rfl) (rmA1a l Z a0 hw [] q w kk x0 (p0 + o0) s0 x1 (p0 + o1) s1 T52.heap n0 Zn Oq52 V52 ho Ot52 f_O_x1 ge_q ge_w ge_x1 ne_x0_x1 ((own_rbbf p0 o1 s1 o0 s0 hb1 hb0).trans ht01.2)) (by decide) (by decide) (by decide) (by decide) (fun v54 T54 L54 X54 hQ54 => ?_)
          obtain ⟨rfl, Nq54, K54, Oq54, V54, Ot54⟩ := hQ54
          have N54 := Fr.app N52 Nq54
          have f_V_oa := f_V_oa.keep K54 (ninS ne_oa_q (ninS ne_oa_w (ninS ne_oa_x1 nin0)))
          have f_V_sa := f_V_sa.keep K54 (ninS ne_sa_q (ninS ne_sa_w (ninS ne_sa_x1 nin0)))
          have f_V_ta := f_V_ta.keep K54 (ninS ne_ta_q (ninS ne_ta_w (ninS ne_ta_x1 nin0)))
          have f_O_x2 := f_O_x2.keep K54 (ninS ne_x2_q (ninS ne_x2_w (ninS (Ne.symm ne_x1_x2) nin0)))
          have Ot52 := Ot52.keep K54 (ninS (Ne.symm ne_q_x0) (ninS (Ne.symm ne_w_x0) (ninS ne_x0_x1 nin0)))
          have Zn := Nat.le_trans Zn K54.1
          show own_End p e below _ (T54.setTop (mkF m 260 _ []))
          refine own_iload X54 hx hby at_260 (pc' := 262) rfl rfl ?_
          refine own_iconst X54 hx hby at_262 (pc' := 263) rfl (n := (3 : Int32)) (by decide) ?_
          refine own_icN X54 hx hby at_263 (pc' := 266) rfl (show ¬ (3 : Int32) < (3 : Int32) by decide) ?_
          refine own_aload X54 hx hby at_266 (pc' := 268) rfl rfl rfl ?_
          refine own_aload X54 hx hby at_268 (pc' := 270) rfl rfl rfl ?_
          refine own_iconst X54 hx hby at_270 (pc' := 271) rfl (n := (2 : Int32)) (by decide) ?_
          obtain ⟨cl55, Ar55, q55, S55, M55, H55, G55⟩ := id f_V_ta
          have hin55 : ¬ ((2 : Int32) < 0 ∨ cl55.slots.size ≤ ((2 : Int32)).toNatClampNeg) := inb_of S55 ⟨by decide, by decide⟩
          have hat55 : cl55.slots[((2 : Int32)).toNatClampNeg]? = some (.ref x2) := H55.at hin55 rfl
          refine own_aaload X54 hx hZ hby rfl Ar55 rfl hin55 hat55 at_271 (pc' := 272) rfl ?_
          have ne_oa_x2 : oa ≠ x2 := Ne.symm (Exa.neArv f_O_x2.1 f_V_oa (wd_6 hw))
          have ne_sa_x2 : sa ≠ x2 := Ne.symm (Exa.neArv f_O_x2.1 f_V_sa (wd_6 hw))
          have ne_ta_x2 : ta ≠ x2 := Ne.symm (Exa.neArv f_O_x2.1 f_V_ta (wd_6 hw))
          refine own_lk10 hw X54 hx hZ hby (by rw [hml]; rfl) hown at_272 (pc' := 275) rfl rfl Oq54.1 (W := 0) (Nat.le_of_eq rfl) (rmA2a l Z a0 hw [] q w kk x0 (p0 + o0) s0 x1 (p0 + o1) s1 x2 (p0 + o2) s2 T54.heap n0 Zn Oq54 V54 ho Ot52 Ot54 f_O_x2 ge_q ge_w ge_x2 ne_x0_x1 ne_x0_x2 ne_x1_x2 ((own_rbbf p0 o2 s2 o0 s0 hb2 hb0).trans ht02.2)) (by decide) (by decide) (by decide) (by decide) (fun v56 T56 L56 X56 hQ56 => ?_)
          obtain ⟨rfl, Nq56, K56, Oq56, V56, Ot56⟩ := hQ56
          have N56 := Fr.app N54 Nq56
          have f_V_oa := f_V_oa.keep K56 (ninS ne_oa_q (ninS ne_oa_w (ninS ne_oa_x2 nin0)))
          have f_V_sa := f_V_sa.keep K56 (ninS ne_sa_q (ninS ne_sa_w (ninS ne_sa_x2 nin0)))
          have f_V_ta := f_V_ta.keep K56 (ninS ne_ta_q (ninS ne_ta_w (ninS ne_ta_x2 nin0)))
          have Ot52 := Ot52.keep K56 (ninS (Ne.symm ne_q_x0) (ninS (Ne.symm ne_w_x0) (ninS ne_x0_x2 nin0)))
          have Ot54 := Ot54.keep K56 (ninS ne_x1_q (ninS ne_x1_w (ninS ne_x1_x2 nin0)))
          have Zn := Nat.le_trans Zn K56.1
          show own_End p e below _ (T56.setTop (mkF m 275 _ []))
          refine own_aload X56 hx hby at_275 (pc' := 277) rfl rfl rfl ?_
          refine own_lk8 hw X56 hx hZ hby (by rw [hml]; rfl) hown at_277 (pc' := 280) rfl rfl Oq56.1 (W := 0) (Nat.le_of_eq rfl) (rmP3a l Z a0 hw [] q w kk x0 (p0 + o0) s0 x1 (p0 + o1) s1 x2 (p0 + o2) s2 T56.heap n0 Zn Oq56 V56 ho Ot52 Ot54 Ot56 ge_q ge_w ge_x0 ge_x2 ne_x0_x1 ne_x0_x2 ne_x1_x2 ((own_rbbf p0 o1 s1 o2 s2 hb1 hb2).trans ht12.1)) (by decide) (by decide) (by decide) (by decide) (fun v57 T57 L57 X57 hQ57 => ?_)
          obtain ⟨rfl, Nq57, K57, Oq57, V57, Ox57, Oz57⟩ := hQ57
          have N57 := Fr.app N56 Nq57
          have f_V_oa := f_V_oa.keep K57 (ninS ne_oa_q (ninS ne_oa_w (ninS ne_oa_x0 (ninS ne_oa_x2 nin0))))
          have f_V_sa := f_V_sa.keep K57 (ninS ne_sa_q (ninS ne_sa_w (ninS ne_sa_x0 (ninS ne_sa_x2 nin0))))
          have f_V_ta := f_V_ta.keep K57 (ninS ne_ta_q (ninS ne_ta_w (ninS ne_ta_x0 (ninS ne_ta_x2 nin0))))
          have Ot54 := Ot54.keep K57 (ninS ne_x1_q (ninS ne_x1_w (ninS (Ne.symm ne_x0_x1) (ninS ne_x1_x2 nin0))))
          have Zn := Nat.le_trans Zn K57.1
          show own_End p e below _ (T57.setTop (mkF m 280 _ [(.ref x0)]))
          refine own_astore X57 hx hby at_280 (pc' := 282) rfl rfl (l' := #[.val (.long p0), .second, .val (.long p1), .second, .val (.long p2), .second, .val (.long p3), .second, .val (.int p4), .val (.int p5), .val (.int (3 : Int32)), .val (.ref oa), .val (.int pm), .val (.ref sa), .val (.long lo), .second, .val (.long hi), .second, .val (.int sw), .val (.ref ta), .val (.ref q), .val (.ref x0), .unset, .unset, .unset, .unset]) rfl ?_
          refine own_aload X57 hx hby at_282 (pc' := 284) rfl rfl rfl ?_
          refine own_lk8 hw X57 hx hZ hby (by rw [hml]; rfl) hown at_284 (pc' := 287) rfl rfl Oq57.1 (W := 0) (Nat.le_of_eq rfl) (rmP2 l Z a0 hw [] q w kk x2 (p0 + o2) s2 x1 (p0 + o1) s1 T57.heap n0 Zn Oq57 V57 ho Oz57 Ot54 ge_q ge_w ge_x2 ge_x1 (Ne.symm ne_x1_x2)) (by decide) (by decide) (by decide) (by decide) (fun v58 T58 L58 X58 hQ58 => ?_)
          obtain ⟨rfl, Nq58, K58, Oq58, V58, Ox58, Oy58⟩ := hQ58
          have N58 := Fr.app N57 Nq58
          have f_V_oa := f_V_oa.keep K58 (ninS ne_oa_q (ninS ne_oa_w (ninS ne_oa_x2 (ninS ne_oa_x1 nin0))))
          have f_V_sa := f_V_sa.keep K58 (ninS ne_sa_q (ninS ne_sa_w (ninS ne_sa_x2 (ninS ne_sa_x1 nin0))))
          have f_V_ta := f_V_ta.keep K58 (ninS ne_ta_q (ninS ne_ta_w (ninS ne_ta_x2 (ninS ne_ta_x1 nin0))))
          have Ox57 := Ox57.keep K58 (ninS (Ne.symm ne_q_x0) (ninS (Ne.symm ne_w_x0) (ninS ne_x0_x2 (ninS ne_x0_x1 nin0))))
          have Zn := Nat.le_trans Zn K58.1
          show own_End p e below _ (T58.setTop (mkF m 287 _ [(.ref x2)]))
          refine own_astore X58 hx hby at_287 (pc' := 289) rfl rfl (l' := #[.val (.long p0), .second, .val (.long p1), .second, .val (.long p2), .second, .val (.long p3), .second, .val (.int p4), .val (.int p5), .val (.int (3 : Int32)), .val (.ref oa), .val (.int pm), .val (.ref sa), .val (.long lo), .second, .val (.long hi), .second, .val (.int sw), .val (.ref ta), .val (.ref q), .val (.ref x0), .val (.ref x2), .unset, .unset, .unset]) rfl ?_
          refine own_aload X58 hx hby at_289 (pc' := 291) rfl rfl rfl ?_
          refine own_lk8 hw X58 hx hZ hby (by rw [hml]; rfl) hown at_291 (pc' := 294) rfl rfl Oq58.1 (W := 0) (Nat.le_of_eq rfl) (rmP1 l Z a0 hw [] q w kk x1 (p0 + o1) s1 T58.heap n0 Zn Oq58 V58 ho Oy58 ge_q ge_w ge_x1) (by decide) (by decide) (by decide) (by decide) (fun v59 T59 L59 X59 hQ59 => ?_)
          obtain ⟨rfl, Nq59, K59, Oq59, V59, Ox59⟩ := hQ59
          have N59 := Fr.app N58 Nq59
          have f_V_oa := f_V_oa.keep K59 (ninS ne_oa_q (ninS ne_oa_w (ninS ne_oa_x1 nin0)))
          have f_V_sa := f_V_sa.keep K59 (ninS ne_sa_q (ninS ne_sa_w (ninS ne_sa_x1 nin0)))
          have f_V_ta := f_V_ta.keep K59 (ninS ne_ta_q (ninS ne_ta_w (ninS ne_ta_x1 nin0)))
          have Ox57 := Ox57.keep K59 (ninS (Ne.symm ne_q_x0) (ninS (Ne.symm ne_w_x0) (ninS ne_x0_x1 nin0)))
          have Ox58 := Ox58.keep K59 (ninS ne_x2_q (ninS ne_x2_w (ninS (Ne.symm ne_x1_x2) nin0)))
          have Zn := Nat.le_trans Zn K59.1
          show own_End p e below _ (T59.setTop (mkF m 294 _ [(.ref x1)]))
          refine own_astore X59 hx hby at_294 (pc' := 296) rfl rfl (l' := #[.val (.long p0), .second, .val (.long p1), .second, .val (.long p2), .second, .val (.long p3), .second, .val (.int p4), .val (.int p5), .val (.int (3 : Int32)), .val (.ref oa), .val (.int pm), .val (.ref sa), .val (.long lo), .second, .val (.long hi), .second, .val (.int sw), .val (.ref ta), .val (.ref q), .val (.ref x0), .val (.ref x2), .val (.ref x1), .unset, .unset]) rfl ?_
          refine own_aload X59 hx hby at_296 (pc' := 298) rfl rfl rfl ?_
          refine own_aload X59 hx hby at_298 (pc' := 300) rfl rfl rfl ?_
          refine own_aload X59 hx hby at_300 (pc' := 302) rfl rfl rfl ?_
          refine own_iload X59 hx hby at_302 (pc' := 304) rfl rfl ?_
          refine own_iconst X59 hx hby at_304 (pc' := 305) rfl (n := (0 : Int32)) (by decide) ?_
          refine own_aload X59 hx hby at_305 (pc' := 307) rfl rfl rfl ?_
          refine own_lk9 hw X59 hx hZ hby (by rw [hml]; rfl) hown at_307 (pc' := 310) rfl rfl (W := 1) (Nat.le_of_eq rfl) (rmEX3 l Z a0 hw [] oa sa ko ks o0 o1 o2 s0 s1 s2 ta kt x0 x1 x2 (0 : Int32) (1 : Int32) (1 : Int32) (0 : Int32) (0 : Int32) (0 : Int32) (1 : Int32) T59.heap n0 Zn f_V_oa f_V_sa f_V_ta ht01.1 ht02.1 ht01.2 ht12.1 ht02.2 ht12.2) (by decide) (by decide) (by decide) (by decide) (fun v60 T60 L60 X60 hQ60 => ?_)
          obtain ⟨rfl, Nq60, e60⟩ := hQ60
          have N60 := Fr.app N59 Nq60
          show own_End p e below _ (T60.setTop (mkF m 310 _ [(.ref x0), (.ref x0)]))
          refine own_acmp X60 hx hby at_310 rfl rfl (same := true) (decide_eq_true rfl) (by decide) (pc' := 313) (by decide) ?_
          refine own_aload X60 hx hby at_313 (pc' := 315) rfl rfl rfl ?_
          refine own_aload X60 hx hby at_315 (pc' := 317) rfl rfl rfl ?_
          refine own_aload X60 hx hby at_317 (pc' := 319) rfl rfl rfl ?_
          refine own_iload X60 hx hby at_319 (pc' := 321) rfl rfl ?_
          refine own_iconst X60 hx hby at_321 (pc' := 322) rfl (n := (1 : Int32)) (by decide) ?_
          refine own_aload X60 hx hby at_322 (pc' := 324) rfl rfl rfl ?_
          refine own_lk9 hw X60 hx hZ hby (by rw [hml]; rfl) hown at_324 (pc' := 327) rfl e60 (W := 1) (Nat.le_of_eq rfl) (rmEX3 l Z a0 hw [] oa sa ko ks o0 o1 o2 s0 s1 s2 ta kt x0 x1 x2 (1 : Int32) (1 : Int32) (1 : Int32) (0 : Int32) (0 : Int32) (0 : Int32) (1 : Int32) T59.heap n0 Zn f_V_oa f_V_sa f_V_ta ht01.1 ht02.1 ht01.2 ht12.1 ht02.2 ht12.2) (by decide) (by decide) (by decide) (by decide) (fun v61 T61 L61 X61 hQ61 => ?_)
          obtain ⟨rfl, Nq61, e61⟩ := hQ61
          have N61 := Fr.app N60 Nq61
          show own_End p e below _ (T61.setTop (mkF m 327 _ [(.ref x2), (.ref x2)]))
          refine own_acmp X61 hx hby at_327 rfl rfl (same := true) (decide_eq_true rfl) (by decide) (pc' := 330) (by decide) ?_
          refine own_aload X61 hx hby at_330 (pc' := 332) rfl rfl rfl ?_
          refine own_aload X61 hx hby at_332 (pc' := 334) rfl rfl rfl ?_
          refine own_aload X61 hx hby at_334 (pc' := 336) rfl rfl rfl ?_
          refine own_iload X61 hx hby at_336 (pc' := 338) rfl rfl ?_
          refine own_iconst X61 hx hby at_338 (pc' := 339) rfl (n := (2 : Int32)) (by decide) ?_
          refine own_aload X61 hx hby at_339 (pc' := 341) rfl rfl rfl ?_
          refine own_lk9 hw X61 hx hZ hby (by rw [hml]; rfl) hown at_341 (pc' := 344) rfl e61 (W := 1) (Nat.le_of_eq rfl) (rmEX3 l Z a0 hw [] oa sa ko ks o0 o1 o2 s0 s1 s2 ta kt x0 x1 x2 (2 : Int32) (1 : Int32) (1 : Int32) (0 : Int32) (0 : Int32) (0 : Int32) (1 : Int32) T59.heap n0 Zn f_V_oa f_V_sa f_V_ta ht01.1 ht02.1 ht01.2 ht12.1 ht02.2 ht12.2) (by decide) (by decide) (by decide) (by decide) (fun v62 T62 L62 X62 hQ62 => ?_)
          obtain ⟨rfl, Nq62, e62⟩ := hQ62
          have N62 := Fr.app N61 Nq62
          show own_End p e below _ (T62.setTop (mkF m 344 _ [(.ref x1), (.ref x1)]))
          refine own_acmp X62 hx hby at_344 rfl rfl (same := true) (decide_eq_true rfl) (by decide) (pc' := 347) (by decide) ?_
          refine own_iconst X62 hx hby at_347 (pc' := 348) rfl (n := (1 : Int32)) (by decide) ?_
          refine own_goto X62 hx hby at_348 (pc' := 352) (by decide) (by decide) ?_
          refine own_istore X62 hx hby at_352 (pc' := 354) rfl (l' := #[.val (.long p0), .second, .val (.long p1), .second, .val (.long p2), .second, .val (.long p3), .second, .val (.int p4), .val (.int p5), .val (.int (3 : Int32)), .val (.ref oa), .val (.int pm), .val (.ref sa), .val (.long lo), .second, .val (.long hi), .second, .val (.int sw), .val (.ref ta), .val (.ref q), .val (.ref x0), .val (.ref x2), .val (.ref x1), .val (.int (1 : Int32)), .unset]) rfl ?_
          refine own_aload X62 hx hby at_354 (pc' := 356) rfl rfl rfl ?_
          refine own_ifnullN X62 hx hby at_356 (pc' := 359) rfl ?_
          refine own_aload X62 hx hby at_359 (pc' := 361) rfl rfl rfl ?_
          refine own_lk11 hw X62 hx hZ hby (by rw [hml]; rfl) hown at_361 (pc' := 364) rfl e62 Ox57.1 (W := 0) (Nat.le_of_eq rfl) (rmGQ l Z a0 hw [] x0 (p0 + o0) s0 (-1 : Int32) T59.heap n0 Zn Ox57) (by decide) (by decide) (by decide) (by decide) (fun v63 T63 L63 X63 hQ63 => ?_)
          obtain ⟨rfl, Nq63, e63⟩ := hQ63
          have N63 := Fr.app N62 Nq63
          show own_End p e below _ (T63.setTop (mkF m 364 _ [(.int (-1 : Int32))]))
          refine own_iconst X63 hx hby at_364 (pc' := 365) rfl (n := (-1 : Int32)) (by decide) ?_
          refine own_icN X63 hx hby at_365 (pc' := 368) rfl (show (-1 : Int32) = (-1 : Int32) by decide) ?_
          refine own_iconst X63 hx hby at_368 (pc' := 369) rfl (n := (1 : Int32)) (by decide) ?_
          refine own_goto X63 hx hby at_369 (pc' := 373) (by decide) (by decide) ?_
          refine own_istore X63 hx hby at_373 (pc' := 375) rfl (l' := #[.val (.long p0), .second, .val (.long p1), .second, .val (.long p2), .second, .val (.long p3), .second, .val (.int p4), .val (.int p5), .val (.int (3 : Int32)), .val (.ref oa), .val (.int pm), .val (.ref sa), .val (.long lo), .second, .val (.long hi), .second, .val (.int sw), .val (.ref ta), .val (.ref q), .val (.ref x0), .val (.ref x2), .val (.ref x1), .val (.int (1 : Int32)), .val (.int (1 : Int32))]) rfl ?_
          refine own_iload X63 hx hby at_375 (pc' := 377) rfl rfl ?_
          refine own_ifN X63 hx hby at_377 (pc' := 380) rfl (show ¬ (1 : Int32) = (0 : Int32) by decide) ?_
          refine own_iload X63 hx hby at_380 (pc' := 382) rfl rfl ?_
          refine own_ifN X63 hx hby at_382 (pc' := 385) rfl (show ¬ (1 : Int32) = (0 : Int32) by decide) ?_
          refine own_iconst X63 hx hby at_385 (pc' := 386) rfl (n := (1 : Int32)) (by decide) ?_
          refine own_goto X63 hx hby at_386 (pc' := 390) (by decide) (by decide) ?_
          refine own_zreturn X63 hx hlk hby hret (Or.inr rfl) at_390 (own_lv ?_ (by decide) (by decide))
          show Q0 Z p0 p1 p2 p3 p4 p5  h0 n0 (some (.int (1 : Int32))) T63.heap _
          rw [e63]
          exact ⟨rfl, N63⟩
        · have _ht := ht02
          refine own_iconst X0 hx hby at_232 (pc' := 233) rfl (n := (1 : Int32)) (by decide) ?_
          refine own_icN X0 hx hby at_233 (pc' := 236) rfl (show ¬ (3 : Int32) < (1 : Int32) by decide) ?_
          refine own_aload X0 hx hby at_236 (pc' := 238) rfl rfl rfl ?_
          refine own_aload X0 hx hby at_238 (pc' := 240) rfl rfl rfl ?_
          refine own_iconst X0 hx hby at_240 (pc' := 241) rfl (n := (0 : Int32)) (by decide) ?_
          obtain ⟨cl64, Ar64, q64, S64, M64, H64, G64⟩ := id f_V_ta
          have hin64 : ¬ ((0 : Int32) < 0 ∨ cl64.slots.size ≤ ((0 : Int32)).toNatClampNeg) := inb_of S64 ⟨by decide, by decide⟩
          have hat64 : cl64.slots[((0 : Int32)).toNatClampNeg]? = some (.ref x0) := H64.at hin64 rfl
          refine own_aaload X0 hx hZ hby e1 Ar64 rfl hin64 hat64 at_241 (pc' := 242) rfl ?_
          have ne_oa_q : oa ≠ q := Ne.symm (Exa.neArv f_O_q.1 f_V_oa (wd_26 hw))
          have ne_oa_x0 : oa ≠ x0 := Ne.symm (Exa.neArv f_O_x0.1 f_V_oa (wd_6 hw))
          have ne_sa_q : sa ≠ q := Ne.symm (Exa.neArv f_O_q.1 f_V_sa (wd_26 hw))
          have ne_sa_x0 : sa ≠ x0 := Ne.symm (Exa.neArv f_O_x0.1 f_V_sa (wd_6 hw))
          have ne_ta_q : ta ≠ q := Ne.symm (Exa.neArv f_O_q.1 f_V_ta (wd_26 hw))
          have ne_ta_x0 : ta ≠ x0 := Ne.symm (Exa.neArv f_O_x0.1 f_V_ta (wd_6 hw))
          have ne_q_w : q ≠ w := Exa.neArv f_O_q.1 f_V_w (wd_26 hw)
          have ne_q_x0 : q ≠ x0 := Exa.ne f_O_q.1 f_O_x0.1 (by decide)
          have ne_w_x0 : w ≠ x0 := Ne.symm (Exa.neArv f_O_x0.1 f_V_w (wd_6 hw))
          have ne_x1_q : x1 ≠ q := Exa.ne f_O_x1.1 f_O_q.1 (by decide)
          have ne_x1_w : x1 ≠ w := Exa.neArv f_O_x1.1 f_V_w (wd_6 hw)
          have ne_x2_q : x2 ≠ q := Exa.ne f_O_x2.1 f_O_q.1 (by decide)
          have ne_x2_w : x2 ≠ w := Exa.neArv f_O_x2.1 f_V_w (wd_6 hw)
          refine own_lk10 hw X0 hx hZ hby (by rw [hml]; rfl) hown at_242 (pc' := 245) rfl e1 f_O_q.1 (W := 0) (Nat.le_of_eq rfl) (rmA0 l Z a0 hw [] q w kk x0 (p0 + o0) s0 h1 n0 Z1 f_O_q f_V_w ho f_O_x0 ge_q ge_w ge_x0) (by decide) (by decide) (by decide) (by decide) (fun v65 T65 L65 X65 hQ65 => ?_)
          obtain ⟨rfl, Nq65, K65, Oq65, V65, Ot65⟩ := hQ65
          have N65 := Fr.app N0 Nq65
          have f_V_oa := f_V_oa.keep K65 (ninS ne_oa_q (ninS ne_oa_w (ninS ne_oa_x0 nin0)))
          have f_V_sa := f_V_sa.keep K65 (ninS ne_sa_q (ninS ne_sa_w (ninS ne_sa_x0 nin0)))
          have f_V_ta := f_V_ta.keep K65 (ninS ne_ta_q (ninS ne_ta_w (ninS ne_ta_x0 nin0)))
          have f_O_x1 := f_O_x1.keep K65 (ninS ne_x1_q (ninS ne_x1_w (ninS (Ne.symm ne_x0_x1) nin0)))
          have f_O_x2 := f_O_x2.keep K65 (ninS ne_x2_q (ninS ne_x2_w (ninS (Ne.symm ne_x0_x2) nin0)))
          have Zn := Nat.le_trans Z1 K65.1
          show own_End p e below _ (T65.setTop (mkF m 245 _ []))
          refine own_iload X65 hx hby at_245 (pc' := 247) rfl rfl ?_
          refine own_iconst X65 hx hby at_247 (pc' := 248) rfl (n := (2 : Int32)) (by decide) ?_
          refine own_icN X65 hx hby at_248 (pc' := 251) rfl (show ¬ (3 : Int32) < (2 : Int32) by decide) ?_
          refine own_aload X65 hx hby at_251 (pc' := 253) rfl rfl rfl ?_
          refine own_aload X65 hx hby at_253 (pc' := 255) rfl rfl rfl ?_
          refine own_iconst X65 hx hby at_255 (pc' := 256) rfl (n := (1 : Int32)) (by decide) ?_
          obtain ⟨cl66, Ar66, q66, S66, M66, H66, G66⟩ := id f_V_ta
          have hin66 : ¬ ((1 : Int32) < 0 ∨ cl66.slots.size ≤ ((1 : Int32)).toNatClampNeg) := inb_of S66 ⟨by decide, by decide⟩
          have hat66 : cl66.slots[((1 : Int32)).toNatClampNeg]? = some (.ref x1) := H66.at hin66 rfl
          refine own_aaload X65 hx hZ hby rfl Ar66 rfl hin66 hat66 at_256 (pc' := 257) rfl ?_
          have ne_oa_x1 : oa ≠ x1 := Ne.symm (Exa.neArv f_O_x1.1 f_V_oa (wd_6 hw))
          have ne_sa_x1 : sa ≠ x1 := Ne.symm (Exa.neArv f_O_x1.1 f_V_sa (wd_6 hw))
          have ne_ta_x1 : ta ≠ x1 := Ne.symm (Exa.neArv f_O_x1.1 f_V_ta (wd_6 hw))
          refine own_lk10 hw X65 hx hZ hby (by rw [hml]; rfl) hown at_257 (pc' := 260) rfl rfl Oq65.1 (W := 0) (Nat.le_of_eq rfl) (rmA1a l Z a0 hw [] q w kk x0 (p0 + o0) s0 x1 (p0 + o1) s1 T65.heap n0 Zn Oq65 V65 ho Ot65 f_O_x1 ge_q ge_w ge_x1 ne_x0_x1 ((own_rbbf p0 o1 s1 o0 s0 hb1 hb0).trans ht01.2)) (by decide) (by decide) (by decide) (by decide) (fun v67 T67 L67 X67 hQ67 => ?_)
          obtain ⟨rfl, Nq67, K67, Oq67, V67, Ot67⟩ := hQ67
          have N67 := Fr.app N65 Nq67
          have f_V_oa := f_V_oa.keep K67 (ninS ne_oa_q (ninS ne_oa_w (ninS ne_oa_x1 nin0)))
          have f_V_sa := f_V_sa.keep K67 (ninS ne_sa_q (ninS ne_sa_w (ninS ne_sa_x1 nin0)))
          have f_V_ta := f_V_ta.keep K67 (ninS ne_ta_q (ninS ne_ta_w (ninS ne_ta_x1 nin0)))
          have f_O_x2 := f_O_x2.keep K67 (ninS ne_x2_q (ninS ne_x2_w (ninS (Ne.symm ne_x1_x2) nin0)))
          have Ot65 := Ot65.keep K67 (ninS (Ne.symm ne_q_x0) (ninS (Ne.symm ne_w_x0) (ninS ne_x0_x1 nin0)))
          have Zn := Nat.le_trans Zn K67.1
          show own_End p e below _ (T67.setTop (mkF m 260 _ []))
          refine own_iload X67 hx hby at_260 (pc' := 262) rfl rfl ?_
          refine own_iconst X67 hx hby at_262 (pc' := 263) rfl (n := (3 : Int32)) (by decide) ?_
          refine own_icN X67 hx hby at_263 (pc' := 266) rfl (show ¬ (3 : Int32) < (3 : Int32) by decide) ?_
          refine own_aload X67 hx hby at_266 (pc' := 268) rfl rfl rfl ?_
          refine own_aload X67 hx hby at_268 (pc' := 270) rfl rfl rfl ?_
          refine own_iconst X67 hx hby at_270 (pc' := 271) rfl (n := (2 : Int32)) (by decide) ?_
          obtain ⟨cl68, Ar68, q68, S68, M68, H68, G68⟩ := id f_V_ta
          have hin68 : ¬ ((2 : Int32) < 0 ∨ cl68.slots.size ≤ ((2 : Int32)).toNatClampNeg) := inb_of S68 ⟨by decide, by decide⟩
          have hat68 : cl68.slots[((2 : Int32)).toNatClampNeg]? = some (.ref x2) := H68.at hin68 rfl
          refine own_aaload X67 hx hZ hby rfl Ar68 rfl hin68 hat68 at_271 (pc' := 272) rfl ?_
          have ne_oa_x2 : oa ≠ x2 := Ne.symm (Exa.neArv f_O_x2.1 f_V_oa (wd_6 hw))
          have ne_sa_x2 : sa ≠ x2 := Ne.symm (Exa.neArv f_O_x2.1 f_V_sa (wd_6 hw))
          have ne_ta_x2 : ta ≠ x2 := Ne.symm (Exa.neArv f_O_x2.1 f_V_ta (wd_6 hw))
          refine own_lk10 hw X67 hx hZ hby (by rw [hml]; rfl) hown at_272 (pc' := 275) rfl rfl Oq67.1 (W := 0) (Nat.le_of_eq rfl) (rmA2b l Z a0 hw [] q w kk x0 (p0 + o0) s0 x1 (p0 + o1) s1 x2 (p0 + o2) s2 T67.heap n0 Zn Oq67 V67 ho Ot65 Ot67 f_O_x2 ge_q ge_w ge_x0 ge_x2 ne_x0_x1 ne_x0_x2 ne_x1_x2 ((own_rbbf p0 o2 s2 o0 s0 hb2 hb0).trans ht02.2)) (by decide) (by decide) (by decide) (by decide) (fun v69 T69 L69 X69 hQ69 => ?_)
          obtain ⟨rfl, Nq69, K69, Oq69, V69, Ox69, Ot69⟩ := hQ69
          have N69 := Fr.app N67 Nq69
          have f_V_oa := f_V_oa.keep K69 (ninS ne_oa_q (ninS ne_oa_w (ninS ne_oa_x0 (ninS ne_oa_x2 nin0))))
          have f_V_sa := f_V_sa.keep K69 (ninS ne_sa_q (ninS ne_sa_w (ninS ne_sa_x0 (ninS ne_sa_x2 nin0))))
          have f_V_ta := f_V_ta.keep K69 (ninS ne_ta_q (ninS ne_ta_w (ninS ne_ta_x0 (ninS ne_ta_x2 nin0))))
          have Ot67 := Ot67.keep K69 (ninS ne_x1_q (ninS ne_x1_w (ninS (Ne.symm ne_x0_x1) (ninS ne_x1_x2 nin0))))
          have Zn := Nat.le_trans Zn K69.1
          show own_End p e below _ (T69.setTop (mkF m 275 _ []))
          refine own_aload X69 hx hby at_275 (pc' := 277) rfl rfl rfl ?_
          refine own_lk8 hw X69 hx hZ hby (by rw [hml]; rfl) hown at_277 (pc' := 280) rfl rfl Oq69.1 (W := 0) (Nat.le_of_eq rfl) (rmP3a l Z a0 hw [] q w kk x2 (p0 + o2) s2 x1 (p0 + o1) s1 x0 (p0 + o0) s0 T69.heap n0 Zn Oq69 V69 ho Ot69 Ot67 Ox69 ge_q ge_w ge_x2 ge_x0 (Ne.symm ne_x1_x2) (Ne.symm ne_x0_x2) (Ne.symm ne_x0_x1) ((own_rbbf p0 o1 s1 o0 s0 hb1 hb0).trans ht01.2)) (by decide) (by decide) (by decide) (by decide) (fun v70 T70 L70 X70 hQ70 => ?_)
          obtain ⟨rfl, Nq70, K70, Oq70, V70, Ox70, Oz70⟩ := hQ70
          have N70 := Fr.app N69 Nq70
          have f_V_oa := f_V_oa.keep K70 (ninS ne_oa_q (ninS ne_oa_w (ninS ne_oa_x2 (ninS ne_oa_x0 nin0))))
          have f_V_sa := f_V_sa.keep K70 (ninS ne_sa_q (ninS ne_sa_w (ninS ne_sa_x2 (ninS ne_sa_x0 nin0))))
          have f_V_ta := f_V_ta.keep K70 (ninS ne_ta_q (ninS ne_ta_w (ninS ne_ta_x2 (ninS ne_ta_x0 nin0))))
          have Ot67 := Ot67.keep K70 (ninS ne_x1_q (ninS ne_x1_w (ninS ne_x1_x2 (ninS (Ne.symm ne_x0_x1) nin0))))
          have Zn := Nat.le_trans Zn K70.1
          show own_End p e below _ (T70.setTop (mkF m 280 _ [(.ref x2)]))
          refine own_astore X70 hx hby at_280 (pc' := 282) rfl rfl (l' := #[.val (.long p0), .second, .val (.long p1), .second, .val (.long p2), .second, .val (.long p3), .second, .val (.int p4), .val (.int p5), .val (.int (3 : Int32)), .val (.ref oa), .val (.int pm), .val (.ref sa), .val (.long lo), .second, .val (.long hi), .second, .val (.int sw), .val (.ref ta), .val (.ref q), .val (.ref x2), .unset, .unset, .unset, .unset]) rfl ?_
          refine own_aload X70 hx hby at_282 (pc' := 284) rfl rfl rfl ?_
          refine own_lk8 hw X70 hx hZ hby (by rw [hml]; rfl) hown at_284 (pc' := 287) rfl rfl Oq70.1 (W := 0) (Nat.le_of_eq rfl) (rmP2 l Z a0 hw [] q w kk x0 (p0 + o0) s0 x1 (p0 + o1) s1 T70.heap n0 Zn Oq70 V70 ho Oz70 Ot67 ge_q ge_w ge_x0 ge_x1 ne_x0_x1) (by decide) (by decide) (by decide) (by decide) (fun v71 T71 L71 X71 hQ71 => ?_)
          obtain ⟨rfl, Nq71, K71, Oq71, V71, Ox71, Oy71⟩ := hQ71
          have N71 := Fr.app N70 Nq71
          have f_V_oa := f_V_oa.keep K71 (ninS ne_oa_q (ninS ne_oa_w (ninS ne_oa_x0 (ninS ne_oa_x1 nin0))))
          have f_V_sa := f_V_sa.keep K71 (ninS ne_sa_q (ninS ne_sa_w (ninS ne_sa_x0 (ninS ne_sa_x1 nin0))))
          have f_V_ta := f_V_ta.keep K71 (ninS ne_ta_q (ninS ne_ta_w (ninS ne_ta_x0 (ninS ne_ta_x1 nin0))))
          have Ox70 := Ox70.keep K71 (ninS ne_x2_q (ninS ne_x2_w (ninS (Ne.symm ne_x0_x2) (ninS (Ne.symm ne_x1_x2) nin0))))
          have Zn := Nat.le_trans Zn K71.1
          show own_End p e below _ (T71.setTop (mkF m 287 _ [(.ref x0)]))
          refine own_astore X71 hx hby at_287 (pc' := 289) rfl rfl (l' := #[.val (.long p0), .second, .val (.long p1), .second, .val (.long p2), .second, .val (.long p3), .second, .val (.int p4), .val (.int p5), .val (.int (3 : Int32)), .val (.ref oa), .val (.int pm), .val (.ref sa), .val (.long lo), .second, .val (.long hi), .second, .val (.int sw), .val (.ref ta), .val (.ref q), .val (.ref x2), .val (.ref x0), .unset, .unset, .unset]) rfl ?_
          refine own_aload X71 hx hby at_289 (pc' := 291) rfl rfl rfl ?_
          refine own_lk8 hw X71 hx hZ hby (by rw [hml]; rfl) hown at_291 (pc' := 294) rfl rfl Oq71.1 (W := 0) (Nat.le_of_eq rfl) (rmP1 l Z a0 hw [] q w kk x1 (p0 + o1) s1 T71.heap n0 Zn Oq71 V71 ho Oy71 ge_q ge_w ge_x1) (by decide) (by decide) (by decide) (by decide) (fun v72 T72 L72 X72 hQ72 => ?_)
          obtain ⟨rfl, Nq72, K72, Oq72, V72, Ox72⟩ := hQ72
          have N72 := Fr.app N71 Nq72
          have f_V_oa := f_V_oa.keep K72 (ninS ne_oa_q (ninS ne_oa_w (ninS ne_oa_x1 nin0)))
          have f_V_sa := f_V_sa.keep K72 (ninS ne_sa_q (ninS ne_sa_w (ninS ne_sa_x1 nin0)))
          have f_V_ta := f_V_ta.keep K72 (ninS ne_ta_q (ninS ne_ta_w (ninS ne_ta_x1 nin0)))
          have Ox70 := Ox70.keep K72 (ninS ne_x2_q (ninS ne_x2_w (ninS (Ne.symm ne_x1_x2) nin0)))
          have Ox71 := Ox71.keep K72 (ninS (Ne.symm ne_q_x0) (ninS (Ne.symm ne_w_x0) (ninS ne_x0_x1 nin0)))
          have Zn := Nat.le_trans Zn K72.1
          show own_End p e below _ (T72.setTop (mkF m 294 _ [(.ref x1)]))
          refine own_astore X72 hx hby at_294 (pc' := 296) rfl rfl (l' := #[.val (.long p0), .second, .val (.long p1), .second, .val (.long p2), .second, .val (.long p3), .second, .val (.int p4), .val (.int p5), .val (.int (3 : Int32)), .val (.ref oa), .val (.int pm), .val (.ref sa), .val (.long lo), .second, .val (.long hi), .second, .val (.int sw), .val (.ref ta), .val (.ref q), .val (.ref x2), .val (.ref x0), .val (.ref x1), .unset, .unset]) rfl ?_
          refine own_aload X72 hx hby at_296 (pc' := 298) rfl rfl rfl ?_
          refine own_aload X72 hx hby at_298 (pc' := 300) rfl rfl rfl ?_
          refine own_aload X72 hx hby at_300 (pc' := 302) rfl rfl rfl ?_
          refine own_iload X72 hx hby at_302 (pc' := 304) rfl rfl ?_
          refine own_iconst X72 hx hby at_304 (pc' := 305) rfl (n := (0 : Int32)) (by decide) ?_
          refine own_aload X72 hx hby at_305 (pc' := 307) rfl rfl rfl ?_
          refine own_lk9 hw X72 hx hZ hby (by rw [hml]; rfl) hown at_307 (pc' := 310) rfl rfl (W := 1) (Nat.le_of_eq rfl) (rmEX3 l Z a0 hw [] oa sa ko ks o0 o1 o2 s0 s1 s2 ta kt x0 x1 x2 (0 : Int32) (1 : Int32) (0 : Int32) (0 : Int32) (0 : Int32) (1 : Int32) (1 : Int32) T72.heap n0 Zn f_V_oa f_V_sa f_V_ta ht01.1 ht02.1 ht01.2 ht12.1 ht02.2 ht12.2) (by decide) (by decide) (by decide) (by decide) (fun v73 T73 L73 X73 hQ73 => ?_)
          obtain ⟨rfl, Nq73, e73⟩ := hQ73
          have N73 := Fr.app N72 Nq73
          show own_End p e below _ (T73.setTop (mkF m 310 _ [(.ref x2), (.ref x2)]))
          refine own_acmp X73 hx hby at_310 rfl rfl (same := true) (decide_eq_true rfl) (by decide) (pc' := 313) (by decide) ?_
          refine own_aload X73 hx hby at_313 (pc' := 315) rfl rfl rfl ?_
          refine own_aload X73 hx hby at_315 (pc' := 317) rfl rfl rfl ?_
          refine own_aload X73 hx hby at_317 (pc' := 319) rfl rfl rfl ?_
          refine own_iload X73 hx hby at_319 (pc' := 321) rfl rfl ?_
          refine own_iconst X73 hx hby at_321 (pc' := 322) rfl (n := (1 : Int32)) (by decide) ?_
          refine own_aload X73 hx hby at_322 (pc' := 324) rfl rfl rfl ?_
          refine own_lk9 hw X73 hx hZ hby (by rw [hml]; rfl) hown at_324 (pc' := 327) rfl e73 (W := 1) (Nat.le_of_eq rfl) (rmEX3 l Z a0 hw [] oa sa ko ks o0 o1 o2 s0 s1 s2 ta kt x0 x1 x2 (1 : Int32) (1 : Int32) (0 : Int32) (0 : Int32) (0 : Int32) (1 : Int32) (1 : Int32) T72.heap n0 Zn f_V_oa f_V_sa f_V_ta ht01.1 ht02.1 ht01.2 ht12.1 ht02.2 ht12.2) (by decide) (by decide) (by decide) (by decide) (fun v74 T74 L74 X74 hQ74 => ?_)
          obtain ⟨rfl, Nq74, e74⟩ := hQ74
          have N74 := Fr.app N73 Nq74
          show own_End p e below _ (T74.setTop (mkF m 327 _ [(.ref x0), (.ref x0)]))
          refine own_acmp X74 hx hby at_327 rfl rfl (same := true) (decide_eq_true rfl) (by decide) (pc' := 330) (by decide) ?_
          refine own_aload X74 hx hby at_330 (pc' := 332) rfl rfl rfl ?_
          refine own_aload X74 hx hby at_332 (pc' := 334) rfl rfl rfl ?_
          refine own_aload X74 hx hby at_334 (pc' := 336) rfl rfl rfl ?_
          refine own_iload X74 hx hby at_336 (pc' := 338) rfl rfl ?_
          refine own_iconst X74 hx hby at_338 (pc' := 339) rfl (n := (2 : Int32)) (by decide) ?_
          refine own_aload X74 hx hby at_339 (pc' := 341) rfl rfl rfl ?_
          refine own_lk9 hw X74 hx hZ hby (by rw [hml]; rfl) hown at_341 (pc' := 344) rfl e74 (W := 1) (Nat.le_of_eq rfl) (rmEX3 l Z a0 hw [] oa sa ko ks o0 o1 o2 s0 s1 s2 ta kt x0 x1 x2 (2 : Int32) (1 : Int32) (0 : Int32) (0 : Int32) (0 : Int32) (1 : Int32) (1 : Int32) T72.heap n0 Zn f_V_oa f_V_sa f_V_ta ht01.1 ht02.1 ht01.2 ht12.1 ht02.2 ht12.2) (by decide) (by decide) (by decide) (by decide) (fun v75 T75 L75 X75 hQ75 => ?_)
          obtain ⟨rfl, Nq75, e75⟩ := hQ75
          have N75 := Fr.app N74 Nq75
          show own_End p e below _ (T75.setTop (mkF m 344 _ [(.ref x1), (.ref x1)]))
          refine own_acmp X75 hx hby at_344 rfl rfl (same := true) (decide_eq_true rfl) (by decide) (pc' := 347) (by decide) ?_
          refine own_iconst X75 hx hby at_347 (pc' := 348) rfl (n := (1 : Int32)) (by decide) ?_
          refine own_goto X75 hx hby at_348 (pc' := 352) (by decide) (by decide) ?_
          refine own_istore X75 hx hby at_352 (pc' := 354) rfl (l' := #[.val (.long p0), .second, .val (.long p1), .second, .val (.long p2), .second, .val (.long p3), .second, .val (.int p4), .val (.int p5), .val (.int (3 : Int32)), .val (.ref oa), .val (.int pm), .val (.ref sa), .val (.long lo), .second, .val (.long hi), .second, .val (.int sw), .val (.ref ta), .val (.ref q), .val (.ref x2), .val (.ref x0), .val (.ref x1), .val (.int (1 : Int32)), .unset]) rfl ?_
          refine own_aload X75 hx hby at_354 (pc' := 356) rfl rfl rfl ?_
          refine own_ifnullN X75 hx hby at_356 (pc' := 359) rfl ?_
          refine own_aload X75 hx hby at_359 (pc' := 361) rfl rfl rfl ?_
          refine own_lk11 hw X75 hx hZ hby (by rw [hml]; rfl) hown at_361 (pc' := 364) rfl e75 Ox70.1 (W := 0) (Nat.le_of_eq rfl) (rmGQ l Z a0 hw [] x2 (p0 + o2) s2 (-1 : Int32) T72.heap n0 Zn Ox70) (by decide) (by decide) (by decide) (by decide) (fun v76 T76 L76 X76 hQ76 => ?_)
          obtain ⟨rfl, Nq76, e76⟩ := hQ76
          have N76 := Fr.app N75 Nq76
          show own_End p e below _ (T76.setTop (mkF m 364 _ [(.int (-1 : Int32))]))
          refine own_iconst X76 hx hby at_364 (pc' := 365) rfl (n := (-1 : Int32)) (by decide) ?_
          refine own_icN X76 hx hby at_365 (pc' := 368) rfl (show (-1 : Int32) = (-1 : Int32) by decide) ?_
          refine own_iconst X76 hx hby at_368 (pc' := 369) rfl (n := (1 : Int32)) (by decide) ?_
          refine own_goto X76 hx hby at_369 (pc' := 373) (by decide) (by decide) ?_
          refine own_istore X76 hx hby at_373 (pc' := 375) rfl (l' := #[.val (.long p0), .second, .val (.long p1), .second, .val (.long p2), .second, .val (.long p3), .second, .val (.int p4), .val (.int p5), .val (.int (3 : Int32)), .val (.ref oa), .val (.int pm), .val (.ref sa), .val (.long lo), .second, .val (.long hi), .second, .val (.int sw), .val (.ref ta), .val (.ref q), .val (.ref x2), .val (.ref x0), .val (.ref x1), .val (.int (1 : Int32)), .val (.int (1 : Int32))]) rfl ?_
          refine own_iload X76 hx hby at_375 (pc' := 377) rfl rfl ?_
          refine own_ifN X76 hx hby at_377 (pc' := 380) rfl (show ¬ (1 : Int32) = (0 : Int32) by decide) ?_
          refine own_iload X76 hx hby at_380 (pc' := 382) rfl rfl ?_
          refine own_ifN X76 hx hby at_382 (pc' := 385) rfl (show ¬ (1 : Int32) = (0 : Int32) by decide) ?_
          refine own_iconst X76 hx hby at_385 (pc' := 386) rfl (n := (1 : Int32)) (by decide) ?_
          refine own_goto X76 hx hby at_386 (pc' := 390) (by decide) (by decide) ?_
          refine own_zreturn X76 hx hlk hby hret (Or.inr rfl) at_390 (own_lv ?_ (by decide) (by decide))
          show Q0 Z p0 p1 p2 p3 p4 p5  h0 n0 (some (.int (1 : Int32))) T76.heap _
          rw [e76]
          exact ⟨rfl, N76⟩
    · have _ht := ht01
      rcases own_bfor (oi := o1) (oj := o2) hs12 with ht12 | ht12
      · have _ht := ht12
        rcases own_bfor (oi := o0) (oj := o2) hs02 with ht02 | ht02
        · have _ht := ht02
          refine own_iconst X0 hx hby at_232 (pc' := 233) rfl (n := (1 : Int32)) (by decide) ?_
          refine own_icN X0 hx hby at_233 (pc' := 236) rfl (show ¬ (3 : Int32) < (1 : Int32) by decide) ?_
          refine own_aload X0 hx hby at_236 (pc' := 238) rfl rfl rfl ?_
          refine own_aload X0 hx hby at_238 (pc' := 240) rfl rfl rfl ?_
          refine own_iconst X0 hx hby at_240 (pc' := 241) rfl (n := (0 : Int32)) (by decide) ?_
          obtain ⟨cl77, Ar77, q77, S77, M77, H77, G77⟩ := id f_V_ta
          have hin77 : ¬ ((0 : Int32) < 0 ∨ cl77.slots.size ≤ ((0 : Int32)).toNatClampNeg) := inb_of S77 ⟨by decide, by decide⟩
          have hat77 : cl77.slots[((0 : Int32)).toNatClampNeg]? = some (.ref x0) := H77.at hin77 rfl
          refine own_aaload X0 hx hZ hby e1 Ar77 rfl hin77 hat77 at_241 (pc' := 242) rfl ?_
          have ne_oa_q : oa ≠ q := Ne.symm (Exa.neArv f_O_q.1 f_V_oa (wd_26 hw))
          have ne_oa_x0 : oa ≠ x0 := Ne.symm (Exa.neArv f_O_x0.1 f_V_oa (wd_6 hw))
          have ne_sa_q : sa ≠ q := Ne.symm (Exa.neArv f_O_q.1 f_V_sa (wd_26 hw))
          have ne_sa_x0 : sa ≠ x0 := Ne.symm (Exa.neArv f_O_x0.1 f_V_sa (wd_6 hw))
          have ne_ta_q : ta ≠ q := Ne.symm (Exa.neArv f_O_q.1 f_V_ta (wd_26 hw))
          have ne_ta_x0 : ta ≠ x0 := Ne.symm (Exa.neArv f_O_x0.1 f_V_ta (wd_6 hw))
          have ne_q_w : q ≠ w := Exa.neArv f_O_q.1 f_V_w (wd_26 hw)
          have ne_q_x0 : q ≠ x0 := Exa.ne f_O_q.1 f_O_x0.1 (by decide)
          have ne_w_x0 : w ≠ x0 := Ne.symm (Exa.neArv f_O_x0.1 f_V_w (wd_6 hw))
          have ne_x1_q : x1 ≠ q := Exa.ne f_O_x1.1 f_O_q.1 (by decide)
          have ne_x1_w : x1 ≠ w := Exa.neArv f_O_x1.1 f_V_w (wd_6 hw)
          have ne_x2_q : x2 ≠ q := Exa.ne f_O_x2.1 f_O_q.1 (by decide)
          have ne_x2_w : x2 ≠ w := Exa.neArv f_O_x2.1 f_V_w (wd_6 hw)
          refine own_lk10 hw X0 hx hZ hby (by rw [hml]; rfl) hown at_242 (pc' := 245) rfl e1 f_O_q.1 (W := 0) (Nat.le_of_eq rfl) (rmA0 l Z a0 hw [] q w kk x0 (p0 + o0) s0 h1 n0 Z1 f_O_q f_V_w ho f_O_x0 ge_q ge_w ge_x0) (by decide) (by decide) (by decide) (by decide) (fun v78 T78 L78 X78 hQ78 => ?_)
          obtain ⟨rfl, Nq78, K78, Oq78, V78, Ot78⟩ := hQ78
          have N78 := Fr.app N0 Nq78
          have f_V_oa := f_V_oa.keep K78 (ninS ne_oa_q (ninS ne_oa_w (ninS ne_oa_x0 nin0)))
          have f_V_sa := f_V_sa.keep K78 (ninS ne_sa_q (ninS ne_sa_w (ninS ne_sa_x0 nin0)))
          have f_V_ta := f_V_ta.keep K78 (ninS ne_ta_q (ninS ne_ta_w (ninS ne_ta_x0 nin0)))
          have f_O_x1 := f_O_x1.keep K78 (ninS ne_x1_q (ninS ne_x1_w (ninS (Ne.symm ne_x0_x1) nin0)))
          have f_O_x2 := f_O_x2.keep K78 (ninS ne_x2_q (ninS ne_x2_w (ninS (Ne.symm ne_x0_x2) nin0)))
          have Zn := Nat.le_trans Z1 K78.1
          show own_End p e below _ (T78.setTop (mkF m 245 _ []))
          refine own_iload X78 hx hby at_245 (pc' := 247) rfl rfl ?_
          refine own_iconst X78 hx hby at_247 (pc' := 248) rfl (n := (2 : Int32)) (by decide) ?_
          refine own_icN X78 hx hby at_248 (pc' := 251) rfl (show ¬ (3 : Int32) < (2 : Int32) by decide) ?_
          refine own_aload X78 hx hby at_251 (pc' := 253) rfl rfl rfl ?_
          refine own_aload X78 hx hby at_253 (pc' := 255) rfl rfl rfl ?_
          refine own_iconst X78 hx hby at_255 (pc' := 256) rfl (n := (1 : Int32)) (by decide) ?_
          obtain ⟨cl79, Ar79, q79, S79, M79, H79, G79⟩ := id f_V_ta
          have hin79 : ¬ ((1 : Int32) < 0 ∨ cl79.slots.size ≤ ((1 : Int32)).toNatClampNeg) := inb_of S79 ⟨by decide, by decide⟩
          have hat79 : cl79.slots[((1 : Int32)).toNatClampNeg]? = some (.ref x1) := H79.at hin79 rfl
          refine own_aaload X78 hx hZ hby rfl Ar79 rfl hin79 hat79 at_256 (pc' := 257) rfl ?_
          have ne_oa_x1 : oa ≠ x1 := Ne.symm (Exa.neArv f_O_x1.1 f_V_oa (wd_6 hw))
          have ne_sa_x1 : sa ≠ x1 := Ne.symm (Exa.neArv f_O_x1.1 f_V_sa (wd_6 hw))
          have ne_ta_x1 : ta ≠ x1 := Ne.symm (Exa.neArv f_O_x1.1 f_V_ta (wd_6 hw))
          refine own_lk10 hw X78 hx hZ hby (by rw [hml]; rfl) hown at_257 (pc' := 260) rfl rfl Oq78.1 (W := 0) (Nat.le_of_eq rfl) (rmA1b l Z a0 hw [] q w kk x0 (p0 + o0) s0 x1 (p0 + o1) s1 T78.heap n0 Zn Oq78 V78 ho Ot78 f_O_x1 ge_q ge_w ge_x0 ge_x1 ne_x0_x1 ((own_rbbf p0 o1 s1 o0 s0 hb1 hb0).trans ht01.2)) (by decide) (by decide) (by decide) (by decide) (fun v80 T80 L80 X80 hQ80 => ?_)
          obtain ⟨rfl, Nq80, K80, Oq80, V80, Ox80, Ot80⟩ := hQ80
          have N80 := Fr.app N78 Nq80
          have f_V_oa := f_V_oa.keep K80 (ninS ne_oa_q (ninS ne_oa_w (ninS ne_oa_x0 (ninS ne_oa_x1 nin0))))
          have f_V_sa := f_V_sa.keep K80 (ninS ne_sa_q (ninS ne_sa_w (ninS ne_sa_x0 (ninS ne_sa_x1 nin0))))
          have f_V_ta := f_V_ta.keep K80 (ninS ne_ta_q (ninS ne_ta_w (ninS ne_ta_x0 (ninS ne_ta_x1 nin0))))
          have f_O_x2 := f_O_x2.keep K80 (ninS ne_x2_q (ninS ne_x2_w (ninS (Ne.symm ne_x0_x2) (ninS (Ne.symm ne_x1_x2) nin0))))
          have Zn := Nat.le_trans Zn K80.1
          show own_End p e below _ (T80.setTop (mkF m 260 _ []))
          refine own_iload X80 hx hby at_260 (pc' := 262) rfl rfl ?_
          refine own_iconst X80 hx hby at_262 (pc' := 263) rfl (n := (3 : Int32)) (by decide) ?_
          refine own_icN X80 hx hby at_263 (pc' := 266) rfl (show ¬ (3 : Int32) < (3 : Int32) by decide) ?_
          refine own_aload X80 hx hby at_266 (pc' := 268) rfl rfl rfl ?_
          refine own_aload X80 hx hby at_268 (pc' := 270) rfl rfl rfl ?_
          refine own_iconst X80 hx hby at_270 (pc' := 271) rfl (n := (2 : Int32)) (by decide) ?_
          obtain ⟨cl81, Ar81, q81, S81, M81, H81, G81⟩ := id f_V_ta
          have hin81 : ¬ ((2 : Int32) < 0 ∨ cl81.slots.size ≤ ((2 : Int32)).toNatClampNeg) := inb_of S81 ⟨by decide, by decide⟩
          have hat81 : cl81.slots[((2 : Int32)).toNatClampNeg]? = some (.ref x2) := H81.at hin81 rfl
          refine own_aaload X80 hx hZ hby rfl Ar81 rfl hin81 hat81 at_271 (pc' := 272) rfl ?_
          have ne_oa_x2 : oa ≠ x2 := Ne.symm (Exa.neArv f_O_x2.1 f_V_oa (wd_6 hw))
          have ne_sa_x2 : sa ≠ x2 := Ne.symm (Exa.neArv f_O_x2.1 f_V_sa (wd_6 hw))
          have ne_ta_x2 : ta ≠ x2 := Ne.symm (Exa.neArv f_O_x2.1 f_V_ta (wd_6 hw))
          refine own_lk10 hw X80 hx hZ hby (by rw [hml]; rfl) hown at_272 (pc' := 275) rfl rfl Oq80.1 (W := 0) (Nat.le_of_eq rfl) (rmA2a l Z a0 hw [] q w kk x1 (p0 + o1) s1 x0 (p0 + o0) s0 x2 (p0 + o2) s2 T80.heap n0 Zn Oq80 V80 ho Ot80 Ox80 f_O_x2 ge_q ge_w ge_x2 (Ne.symm ne_x0_x1) ne_x1_x2 ne_x0_x2 ((own_rbbf p0 o2 s2 o1 s1 hb2 hb1).trans ht12.2)) (by decide) (by decide) (by decide) (by decide) (fun v82 T82 L82 X82 hQ82 => ?_)
          obtain ⟨rfl, Nq82, K82, Oq82, V82, Ot82⟩ := hQ82
          have N82 := Fr.app N80 Nq82
          have f_V_oa := f_V_oa.keep K82 (ninS ne_oa_q (ninS ne_oa_w (ninS ne_oa_x2 nin0)))
          have f_V_sa := f_V_sa.keep K82 (ninS ne_sa_q (ninS ne_sa_w (ninS ne_sa_x2 nin0)))
          have f_V_ta := f_V_ta.keep K82 (ninS ne_ta_q (ninS ne_ta_w (ninS ne_ta_x2 nin0)))
          have Ox80 := Ox80.keep K82 (ninS (Ne.symm ne_q_x0) (ninS (Ne.symm ne_w_x0) (ninS ne_x0_x2 nin0)))
          have Ot80 := Ot80.keep K82 (ninS ne_x1_q (ninS ne_x1_w (ninS ne_x1_x2 nin0)))
          have Zn := Nat.le_trans Zn K82.1
          show own_End p e below _ (T82.setTop (mkF m 275 _ []))
          refine own_aload X82 hx hby at_275 (pc' := 277) rfl rfl rfl ?_
          refine own_lk8 hw X82 hx hZ hby (by rw [hml]; rfl) hown at_277 (pc' := 280) rfl rfl Oq82.1 (W := 0) (Nat.le_of_eq rfl) (rmP3b l Z a0 hw [] q w kk x1 (p0 + o1) s1 x0 (p0 + o0) s0 x2 (p0 + o2) s2 T82.heap n0 Zn Oq82 V82 ho Ot80 Ox80 Ot82 ge_q ge_w ge_x1 ge_x0 ge_x2 (Ne.symm ne_x0_x1) ne_x1_x2 ne_x0_x2 ((own_rbbf p0 o0 s0 o2 s2 hb0 hb2).trans ht02.1)) (by decide) (by decide) (by decide) (by decide) (fun v83 T83 L83 X83 hQ83 => ?_)
          obtain ⟨rfl, Nq83, K83, Oq83, V83, Ox83, Oy83, Oz83⟩ := hQ83
          have N83 := Fr.app N82 Nq83
          have f_V_oa := f_V_oa.keep K83 (ninS ne_oa_q (ninS ne_oa_w (ninS ne_oa_x1 (ninS ne_oa_x0 (ninS ne_oa_x2 nin0)))))
          have f_V_sa := f_V_sa.keep K83 (ninS ne_sa_q (ninS ne_sa_w (ninS ne_sa_x1 (ninS ne_sa_x0 (ninS ne_sa_x2 nin0)))))
          have f_V_ta := f_V_ta.keep K83 (ninS ne_ta_q (ninS ne_ta_w (ninS ne_ta_x1 (ninS ne_ta_x0 (ninS ne_ta_x2 nin0)))))
          have Zn := Nat.le_trans Zn K83.1
          show own_End p e below _ (T83.setTop (mkF m 280 _ [(.ref x1)]))
          refine own_astore X83 hx hby at_280 (pc' := 282) rfl rfl (l' := #[.val (.long p0), .second, .val (.long p1), .second, .val (.long p2), .second, .val (.long p3), .second, .val (.int p4), .val (.int p5), .val (.int (3 : Int32)), .val (.ref oa), .val (.int pm), .val (.ref sa), .val (.long lo), .second, .val (.long hi), .second, .val (.int sw), .val (.ref ta), .val (.ref q), .val (.ref x1), .unset, .unset, .unset, .unset]) rfl ?_
          refine own_aload X83 hx hby at_282 (pc' := 284) rfl rfl rfl ?_
          refine own_lk8 hw X83 hx hZ hby (by rw [hml]; rfl) hown at_284 (pc' := 287) rfl rfl Oq83.1 (W := 0) (Nat.le_of_eq rfl) (rmP2 l Z a0 hw [] q w kk x0 (p0 + o0) s0 x2 (p0 + o2) s2 T83.heap n0 Zn Oq83 V83 ho Oy83 Oz83 ge_q ge_w ge_x0 ge_x2 ne_x0_x2) (by decide) (by decide) (by decide) (by decide) (fun v84 T84 L84 X84 hQ84 => ?_)
          obtain ⟨rfl, Nq84, K84, Oq84, V84, Ox84, Oy84⟩ := hQ84
          have N84 := Fr.app N83 Nq84
          have f_V_oa := f_V_oa.keep K84 (ninS ne_oa_q (ninS ne_oa_w (ninS ne_oa_x0 (ninS ne_oa_x2 nin0))))
          have f_V_sa := f_V_sa.keep K84 (ninS ne_sa_q (ninS ne_sa_w (ninS ne_sa_x0 (ninS ne_sa_x2 nin0))))
          have f_V_ta := f_V_ta.keep K84 (ninS ne_ta_q (ninS ne_ta_w (ninS ne_ta_x0 (ninS ne_ta_x2 nin0))))
          have Ox83 := Ox83.keep K84 (ninS ne_x1_q (ninS ne_x1_w (ninS (Ne.symm ne_x0_x1) (ninS ne_x1_x2 nin0))))
          have Zn := Nat.le_trans Zn K84.1
          show own_End p e below _ (T84.setTop (mkF m 287 _ [(.ref x0)]))
          refine own_astore X84 hx hby at_287 (pc' := 289) rfl rfl (l' := #[.val (.long p0), .second, .val (.long p1), .second, .val (.long p2), .second, .val (.long p3), .second, .val (.int p4), .val (.int p5), .val (.int (3 : Int32)), .val (.ref oa), .val (.int pm), .val (.ref sa), .val (.long lo), .second, .val (.long hi), .second, .val (.int sw), .val (.ref ta), .val (.ref q), .val (.ref x1), .val (.ref x0), .unset, .unset, .unset]) rfl ?_
          refine own_aload X84 hx hby at_289 (pc' := 291) rfl rfl rfl ?_
          refine own_lk8 hw X84 hx hZ hby (by rw [hml]; rfl) hown at_291 (pc' := 294) rfl rfl Oq84.1 (W := 0) (Nat.le_of_eq rfl) (rmP1 l Z a0 hw [] q w kk x2 (p0 + o2) s2 T84.heap n0 Zn Oq84 V84 ho Oy84 ge_q ge_w ge_x2) (by decide) (by decide) (by decide) (by decide) (fun v85 T85 L85 X85 hQ85 => ?_)
          obtain ⟨rfl, Nq85, K85, Oq85, V85, Ox85⟩ := hQ85
          have N85 := Fr.app N84 Nq85
          have f_V_oa := f_V_oa.keep K85 (ninS ne_oa_q (ninS ne_oa_w (ninS ne_oa_x2 nin0)))
          have f_V_sa := f_V_sa.keep K85 (ninS ne_sa_q (ninS ne_sa_w (ninS ne_sa_x2 nin0)))
          have f_V_ta := f_V_ta.keep K85 (ninS ne_ta_q (ninS ne_ta_w (ninS ne_ta_x2 nin0)))
          have Ox83 := Ox83.keep K85 (ninS ne_x1_q (ninS ne_x1_w (ninS ne_x1_x2 nin0)))
          have Ox84 := Ox84.keep K85 (ninS (Ne.symm ne_q_x0) (ninS (Ne.symm ne_w_x0) (ninS ne_x0_x2 nin0)))
          have Zn := Nat.le_trans Zn K85.1
          show own_End p e below _ (T85.setTop (mkF m 294 _ [(.ref x2)]))
          refine own_astore X85 hx hby at_294 (pc' := 296) rfl rfl (l' := #[.val (.long p0), .second, .val (.long p1), .second, .val (.long p2), .second, .val (.long p3), .second, .val (.int p4), .val (.int p5), .val (.int (3 : Int32)), .val (.ref oa), .val (.int pm), .val (.ref sa), .val (.long lo), .second, .val (.long hi), .second, .val (.int sw), .val (.ref ta), .val (.ref q), .val (.ref x1), .val (.ref x0), .val (.ref x2), .unset, .unset]) rfl ?_
          refine own_aload X85 hx hby at_296 (pc' := 298) rfl rfl rfl ?_
          refine own_aload X85 hx hby at_298 (pc' := 300) rfl rfl rfl ?_
          refine own_aload X85 hx hby at_300 (pc' := 302) rfl rfl rfl ?_
          refine own_iload X85 hx hby at_302 (pc' := 304) rfl rfl ?_
          refine own_iconst X85 hx hby at_304 (pc' := 305) rfl (n := (0 : Int32)) (by decide) ?_
          refine own_aload X85 hx hby at_305 (pc' := 307) rfl rfl rfl ?_
          refine own_lk9 hw X85 hx hZ hby (by rw [hml]; rfl) hown at_307 (pc' := 310) rfl rfl (W := 1) (Nat.le_of_eq rfl) (rmEX3 l Z a0 hw [] oa sa ko ks o0 o1 o2 s0 s1 s2 ta kt x0 x1 x2 (0 : Int32) (0 : Int32) (1 : Int32) (1 : Int32) (1 : Int32) (0 : Int32) (0 : Int32) T85.heap n0 Zn f_V_oa f_V_sa f_V_ta ht01.1 ht02.1 ht01.2 ht12.1 ht02.2 ht12.2) (by decide) (by decide) (by decide) (by decide) (fun v86 T86 L86 X86 hQ86 => ?_)
          obtain ⟨rfl, Nq86, e86⟩ := hQ86
          have N86 := Fr.app N85 Nq86
          show own_End p e below _ (T86.setTop (mkF m 310 _ [(.ref x1), (.ref x1)]))
          refine own_acmp X86 hx hby at_310 rfl rfl (same := true) (decide_eq_true rfl) (by decide) (pc' := 313) (by decide) ?_
          refine own_aload X86 hx hby at_313 (pc' := 315) rfl rfl rfl ?_
          refine own_aload X86 hx hby at_315 (pc' := 317) rfl rfl rfl ?_
          refine own_aload X86 hx hby at_317 (pc' := 319) rfl rfl rfl ?_
          refine own_iload X86 hx hby at_319 (pc' := 321) rfl rfl ?_
          refine own_iconst X86 hx hby at_321 (pc' := 322) rfl (n := (1 : Int32)) (by decide) ?_
          refine own_aload X86 hx hby at_322 (pc' := 324) rfl rfl rfl ?_
          refine own_lk9 hw X86 hx hZ hby (by rw [hml]; rfl) hown at_324 (pc' := 327) rfl e86 (W := 1) (Nat.le_of_eq rfl) (rmEX3 l Z a0 hw [] oa sa ko ks o0 o1 o2 s0 s1 s2 ta kt x0 x1 x2 (1 : Int32) (0 : Int32) (1 : Int32) (1 : Int32) (1 : Int32) (0 : Int32) (0 : Int32) T85.heap n0 Zn f_V_oa f_V_sa f_V_ta ht01.1 ht02.1 ht01.2 ht12.1 ht02.2 ht12.2) (by decide) (by decide) (by decide) (by decide) (fun v87 T87 L87 X87 hQ87 => ?_)
          obtain ⟨rfl, Nq87, e87⟩ := hQ87
          have N87 := Fr.app N86 Nq87
          show own_End p e below _ (T87.setTop (mkF m 327 _ [(.ref x0), (.ref x0)]))
          refine own_acmp X87 hx hby at_327 rfl rfl (same := true) (decide_eq_true rfl) (by decide) (pc' := 330) (by decide) ?_
          refine own_aload X87 hx hby at_330 (pc' := 332) rfl rfl rfl ?_
          refine own_aload X87 hx hby at_332 (pc' := 334) rfl rfl rfl ?_
          refine own_aload X87 hx hby at_334 (pc' := 336) rfl rfl rfl ?_
          refine own_iload X87 hx hby at_336 (pc' := 338) rfl rfl ?_
          refine own_iconst X87 hx hby at_338 (pc' := 339) rfl (n := (2 : Int32)) (by decide) ?_
          refine own_aload X87 hx hby at_339 (pc' := 341) rfl rfl rfl ?_
          refine own_lk9 hw X87 hx hZ hby (by rw [hml]; rfl) hown at_341 (pc' := 344) rfl e87 (W := 1) (Nat.le_of_eq rfl) (rmEX3 l Z a0 hw [] oa sa ko ks o0 o1 o2 s0 s1 s2 ta kt x0 x1 x2 (2 : Int32) (0 : Int32) (1 : Int32) (1 : Int32) (1 : Int32) (0 : Int32) (0 : Int32) T85.heap n0 Zn f_V_oa f_V_sa f_V_ta ht01.1 ht02.1 ht01.2 ht12.1 ht02.2 ht12.2) (by decide) (by decide) (by decide) (by decide) (fun v88 T88 L88 X88 hQ88 => ?_)
          obtain ⟨rfl, Nq88, e88⟩ := hQ88
          have N88 := Fr.app N87 Nq88
          show own_End p e below _ (T88.setTop (mkF m 344 _ [(.ref x2), (.ref x2)]))
          refine own_acmp X88 hx hby at_344 rfl rfl (same := true) (decide_eq_true rfl) (by decide) (pc' := 347) (by decide) ?_
          refine own_iconst X88 hx hby at_347 (pc' := 348) rfl (n := (1 : Int32)) (by decide) ?_
          refine own_goto X88 hx hby at_348 (pc' := 352) (by decide) (by decide) ?_
          refine own_istore X88 hx hby at_352 (pc' := 354) rfl (l' := #[.val (.long p0), .second, .val (.long p1), .second, .val (.long p2), .second, .val (.long p3), .second, .val (.int p4), .val (.int p5), .val (.int (3 : Int32)), .val (.ref oa), .val (.int pm), .val (.ref sa), .val (.long lo), .second, .val (.long hi), .second, .val (.int sw), .val (.ref ta), .val (.ref q), .val (.ref x1), .val (.ref x0), .val (.ref x2), .val (.int (1 : Int32)), .unset]) rfl ?_
          refine own_aload X88 hx hby at_354 (pc' := 356) rfl rfl rfl ?_
          refine own_ifnullN X88 hx hby at_356 (pc' := 359) rfl ?_
          refine own_aload X88 hx hby at_359 (pc' := 361) rfl rfl rfl ?_
          refine own_lk11 hw X88 hx hZ hby (by rw [hml]; rfl) hown at_361 (pc' := 364) rfl e88 Ox83.1 (W := 0) (Nat.le_of_eq rfl) (rmGQ l Z a0 hw [] x1 (p0 + o1) s1 (-1 : Int32) T85.heap n0 Zn Ox83) (by decide) (by decide) (by decide) (by decide) (fun v89 T89 L89 X89 hQ89 => ?_)
          obtain ⟨rfl, Nq89, e89⟩ := hQ89
          have N89 := Fr.app N88 Nq89
          show own_End p e below _ (T89.setTop (mkF m 364 _ [(.int (-1 : Int32))]))
          refine own_iconst X89 hx hby at_364 (pc' := 365) rfl (n := (-1 : Int32)) (by decide) ?_
          refine own_icN X89 hx hby at_365 (pc' := 368) rfl (show (-1 : Int32) = (-1 : Int32) by decide) ?_
          refine own_iconst X89 hx hby at_368 (pc' := 369) rfl (n := (1 : Int32)) (by decide) ?_
          refine own_goto X89 hx hby at_369 (pc' := 373) (by decide) (by decide) ?_
          refine own_istore X89 hx hby at_373 (pc' := 375) rfl (l' := #[.val (.long p0), .second, .val (.long p1), .second, .val (.long p2), .second, .val (.long p3), .second, .val (.int p4), .val (.int p5), .val (.int (3 : Int32)), .val (.ref oa), .val (.int pm), .val (.ref sa), .val (.long lo), .second, .val (.long hi), .second, .val (.int sw), .val (.ref ta), .val (.ref q), .val (.ref x1), .val (.ref x0), .val (.ref x2), .val (.int (1 : Int32)), .val (.int (1 : Int32))]) rfl ?_
          refine own_iload X89 hx hby at_375 (pc' := 377) rfl rfl ?_
          refine own_ifN X89 hx hby at_377 (pc' := 380) rfl (show ¬ (1 : Int32) = (0 : Int32) by decide) ?_
          refine own_iload X89 hx hby at_380 (pc' := 382) rfl rfl ?_
          refine own_ifN X89 hx hby at_382 (pc' := 385) rfl (show ¬ (1 : Int32) = (0 : Int32) by decide) ?_
          refine own_iconst X89 hx hby at_385 (pc' := 386) rfl (n := (1 : Int32)) (by decide) ?_
          refine own_goto X89 hx hby at_386 (pc' := 390) (by decide) (by decide) ?_
          refine own_zreturn X89 hx hlk hby hret (Or.inr rfl) at_390 (own_lv ?_ (by decide) (by decide))
          show Q0 Z p0 p1 p2 p3 p4 p5  h0 n0 (some (.int (1 : Int32))) T89.heap _
          rw [e89]
          exact ⟨rfl, N89⟩
        · have _ht := ht02
          refine own_iconst X0 hx hby at_232 (pc' := 233) rfl (n := (1 : Int32)) (by decide) ?_
          refine own_icN X0 hx hby at_233 (pc' := 236) rfl (show ¬ (3 : Int32) < (1 : Int32) by decide) ?_
          refine own_aload X0 hx hby at_236 (pc' := 238) rfl rfl rfl ?_
          refine own_aload X0 hx hby at_238 (pc' := 240) rfl rfl rfl ?_
          refine own_iconst X0 hx hby at_240 (pc' := 241) rfl (n := (0 : Int32)) (by decide) ?_
          obtain ⟨cl90, Ar90, q90, S90, M90, H90, G90⟩ := id f_V_ta
          have hin90 : ¬ ((0 : Int32) < 0 ∨ cl90.slots.size ≤ ((0 : Int32)).toNatClampNeg) := inb_of S90 ⟨by decide, by decide⟩
          have hat90 : cl90.slots[((0 : Int32)).toNatClampNeg]? = some (.ref x0) := H90.at hin90 rfl
          refine own_aaload X0 hx hZ hby e1 Ar90 rfl hin90 hat90 at_241 (pc' := 242) rfl ?_
          have ne_oa_q : oa ≠ q := Ne.symm (Exa.neArv f_O_q.1 f_V_oa (wd_26 hw))
          have ne_oa_x0 : oa ≠ x0 := Ne.symm (Exa.neArv f_O_x0.1 f_V_oa (wd_6 hw))
          have ne_sa_q : sa ≠ q := Ne.symm (Exa.neArv f_O_q.1 f_V_sa (wd_26 hw))
          have ne_sa_x0 : sa ≠ x0 := Ne.symm (Exa.neArv f_O_x0.1 f_V_sa (wd_6 hw))
          have ne_ta_q : ta ≠ q := Ne.symm (Exa.neArv f_O_q.1 f_V_ta (wd_26 hw))
          have ne_ta_x0 : ta ≠ x0 := Ne.symm (Exa.neArv f_O_x0.1 f_V_ta (wd_6 hw))
          have ne_q_w : q ≠ w := Exa.neArv f_O_q.1 f_V_w (wd_26 hw)
          have ne_q_x0 : q ≠ x0 := Exa.ne f_O_q.1 f_O_x0.1 (by decide)
          have ne_w_x0 : w ≠ x0 := Ne.symm (Exa.neArv f_O_x0.1 f_V_w (wd_6 hw))
          have ne_x1_q : x1 ≠ q := Exa.ne f_O_x1.1 f_O_q.1 (by decide)
          have ne_x1_w : x1 ≠ w := Exa.neArv f_O_x1.1 f_V_w (wd_6 hw)
          have ne_x2_q : x2 ≠ q := Exa.ne f_O_x2.1 f_O_q.1 (by decide)
          have ne_x2_w : x2 ≠ w := Exa.neArv f_O_x2.1 f_V_w (wd_6 hw)
          refine own_lk10 hw X0 hx hZ hby (by rw [hml]; rfl) hown at_242 (pc' := 245) rfl e1 f_O_q.1 (W := 0) (Nat.le_of_eq rfl) (rmA0 l Z a0 hw [] q w kk x0 (p0 + o0) s0 h1 n0 Z1 f_O_q f_V_w ho f_O_x0 ge_q ge_w ge_x0) (by decide) (by decide) (by decide) (by decide) (fun v91 T91 L91 X91 hQ91 => ?_)
          obtain ⟨rfl, Nq91, K91, Oq91, V91, Ot91⟩ := hQ91
          have N91 := Fr.app N0 Nq91
          have f_V_oa := f_V_oa.keep K91 (ninS ne_oa_q (ninS ne_oa_w (ninS ne_oa_x0 nin0)))
          have f_V_sa := f_V_sa.keep K91 (ninS ne_sa_q (ninS ne_sa_w (ninS ne_sa_x0 nin0)))
          have f_V_ta := f_V_ta.keep K91 (ninS ne_ta_q (ninS ne_ta_w (ninS ne_ta_x0 nin0)))
          have f_O_x1 := f_O_x1.keep K91 (ninS ne_x1_q (ninS ne_x1_w (ninS (Ne.symm ne_x0_x1) nin0)))
          have f_O_x2 := f_O_x2.keep K91 (ninS ne_x2_q (ninS ne_x2_w (ninS (Ne.symm ne_x0_x2) nin0)))
          have Zn := Nat.le_trans Z1 K91.1
          show own_End p e below _ (T91.setTop (mkF m 245 _ []))
          refine own_iload X91 hx hby at_245 (pc' := 247) rfl rfl ?_
          refine own_iconst X91 hx hby at_247 (pc' := 248) rfl (n := (2 : Int32)) (by decide) ?_
          refine own_icN X91 hx hby at_248 (pc' := 251) rfl (show ¬ (3 : Int32) < (2 : Int32) by decide) ?_
          refine own_aload X91 hx hby at_251 (pc' := 253) rfl rfl rfl ?_
          refine own_aload X91 hx hby at_253 (pc' := 255) rfl rfl rfl ?_
          refine own_iconst X91 hx hby at_255 (pc' := 256) rfl (n := (1 : Int32)) (by decide) ?_
          obtain ⟨cl92, Ar92, q92, S92, M92, H92, G92⟩ := id f_V_ta
          have hin92 : ¬ ((1 : Int32) < 0 ∨ cl92.slots.size ≤ ((1 : Int32)).toNatClampNeg) := inb_of S92 ⟨by decide, by decide⟩
          have hat92 : cl92.slots[((1 : Int32)).toNatClampNeg]? = some (.ref x1) := H92.at hin92 rfl
          refine own_aaload X91 hx hZ hby rfl Ar92 rfl hin92 hat92 at_256 (pc' := 257) rfl ?_
          have ne_oa_x1 : oa ≠ x1 := Ne.symm (Exa.neArv f_O_x1.1 f_V_oa (wd_6 hw))
          have ne_sa_x1 : sa ≠ x1 := Ne.symm (Exa.neArv f_O_x1.1 f_V_sa (wd_6 hw))
          have ne_ta_x1 : ta ≠ x1 := Ne.symm (Exa.neArv f_O_x1.1 f_V_ta (wd_6 hw))
          refine own_lk10 hw X91 hx hZ hby (by rw [hml]; rfl) hown at_257 (pc' := 260) rfl rfl Oq91.1 (W := 0) (Nat.le_of_eq rfl) (rmA1b l Z a0 hw [] q w kk x0 (p0 + o0) s0 x1 (p0 + o1) s1 T91.heap n0 Zn Oq91 V91 ho Ot91 f_O_x1 ge_q ge_w ge_x0 ge_x1 ne_x0_x1 ((own_rbbf p0 o1 s1 o0 s0 hb1 hb0).trans ht01.2)) (by decide) (by decide) (by decide) (by decide) (fun v93 T93 L93 X93 hQ93 => ?_)
          obtain ⟨rfl, Nq93, K93, Oq93, V93, Ox93, Ot93⟩ := hQ93
          have N93 := Fr.app N91 Nq93
          have f_V_oa := f_V_oa.keep K93 (ninS ne_oa_q (ninS ne_oa_w (ninS ne_oa_x0 (ninS ne_oa_x1 nin0))))
          have f_V_sa := f_V_sa.keep K93 (ninS ne_sa_q (ninS ne_sa_w (ninS ne_sa_x0 (ninS ne_sa_x1 nin0))))
          have f_V_ta := f_V_ta.keep K93 (ninS ne_ta_q (ninS ne_ta_w (ninS ne_ta_x0 (ninS ne_ta_x1 nin0))))
          have f_O_x2 := f_O_x2.keep K93 (ninS ne_x2_q (ninS ne_x2_w (ninS (Ne.symm ne_x0_x2) (ninS (Ne.symm ne_x1_x2) nin0))))
          have Zn := Nat.le_trans Zn K93.1
          show own_End p e below _ (T93.setTop (mkF m 260 _ []))
          refine own_iload X93 hx hby at_260 (pc' := 262) rfl rfl ?_
          refine own_iconst X93 hx hby at_262 (pc' := 263) rfl (n := (3 : Int32)) (by decide) ?_
          refine own_icN X93 hx hby at_263 (pc' := 266) rfl (show ¬ (3 : Int32) < (3 : Int32) by decide) ?_
          refine own_aload X93 hx hby at_266 (pc' := 268) rfl rfl rfl ?_
          refine own_aload X93 hx hby at_268 (pc' := 270) rfl rfl rfl ?_
          refine own_iconst X93 hx hby at_270 (pc' := 271) rfl (n := (2 : Int32)) (by decide) ?_
          obtain ⟨cl94, Ar94, q94, S94, M94, H94, G94⟩ := id f_V_ta
          have hin94 : ¬ ((2 : Int32) < 0 ∨ cl94.slots.size ≤ ((2 : Int32)).toNatClampNeg) := inb_of S94 ⟨by decide, by decide⟩
          have hat94 : cl94.slots[((2 : Int32)).toNatClampNeg]? = some (.ref x2) := H94.at hin94 rfl
          refine own_aaload X93 hx hZ hby rfl Ar94 rfl hin94 hat94 at_271 (pc' := 272) rfl ?_
          have ne_oa_x2 : oa ≠ x2 := Ne.symm (Exa.neArv f_O_x2.1 f_V_oa (wd_6 hw))
          have ne_sa_x2 : sa ≠ x2 := Ne.symm (Exa.neArv f_O_x2.1 f_V_sa (wd_6 hw))
          have ne_ta_x2 : ta ≠ x2 := Ne.symm (Exa.neArv f_O_x2.1 f_V_ta (wd_6 hw))
          refine own_lk10 hw X93 hx hZ hby (by rw [hml]; rfl) hown at_272 (pc' := 275) rfl rfl Oq93.1 (W := 0) (Nat.le_of_eq rfl) (rmA2a l Z a0 hw [] q w kk x1 (p0 + o1) s1 x0 (p0 + o0) s0 x2 (p0 + o2) s2 T93.heap n0 Zn Oq93 V93 ho Ot93 Ox93 f_O_x2 ge_q ge_w ge_x2 (Ne.symm ne_x0_x1) ne_x1_x2 ne_x0_x2 ((own_rbbf p0 o2 s2 o1 s1 hb2 hb1).trans ht12.2)) (by decide) (by decide) (by decide) (by decide) (fun v95 T95 L95 X95 hQ95 => ?_)
          obtain ⟨rfl, Nq95, K95, Oq95, V95, Ot95⟩ := hQ95
          have N95 := Fr.app N93 Nq95
          have f_V_oa := f_V_oa.keep K95 (ninS ne_oa_q (ninS ne_oa_w (ninS ne_oa_x2 nin0)))
          have f_V_sa := f_V_sa.keep K95 (ninS ne_sa_q (ninS ne_sa_w (ninS ne_sa_x2 nin0)))
          have f_V_ta := f_V_ta.keep K95 (ninS ne_ta_q (ninS ne_ta_w (ninS ne_ta_x2 nin0)))
          have Ox93 := Ox93.keep K95 (ninS (Ne.symm ne_q_x0) (ninS (Ne.symm ne_w_x0) (ninS ne_x0_x2 nin0)))
          have Ot93 := Ot93.keep K95 (ninS ne_x1_q (ninS ne_x1_w (ninS ne_x1_x2 nin0)))
          have Zn := Nat.le_trans Zn K95.1
          show own_End p e below _ (T95.setTop (mkF m 275 _ []))
          refine own_aload X95 hx hby at_275 (pc' := 277) rfl rfl rfl ?_
          refine own_lk8 hw X95 hx hZ hby (by rw [hml]; rfl) hown at_277 (pc' := 280) rfl rfl Oq95.1 (W := 0) (Nat.le_of_eq rfl) (rmP3a l Z a0 hw [] q w kk x1 (p0 + o1) s1 x0 (p0 + o0) s0 x2 (p0 + o2) s2 T95.heap n0 Zn Oq95 V95 ho Ot93 Ox93 Ot95 ge_q ge_w ge_x1 ge_x2 (Ne.symm ne_x0_x1) ne_x1_x2 ne_x0_x2 ((own_rbbf p0 o0 s0 o2 s2 hb0 hb2).trans ht02.1)) (by decide) (by decide) (by decide) (by decide) (fun v96 T96 L96 X96 hQ96 => ?_)
          obtain ⟨rfl, Nq96, K96, Oq96, V96, Ox96, Oz96⟩ := hQ96
          have N96 := Fr.app N95 Nq96
          have f_V_oa := f_V_oa.keep K96 (ninS ne_oa_q (ninS ne_oa_w (ninS ne_oa_x1 (ninS ne_oa_x2 nin0))))
          have f_V_sa := f_V_sa.keep K96 (ninS ne_sa_q (ninS ne_sa_w (ninS ne_sa_x1 (ninS ne_sa_x2 nin0))))
          have f_V_ta := f_V_ta.keep K96 (ninS ne_ta_q (ninS ne_ta_w (ninS ne_ta_x1 (ninS ne_ta_x2 nin0))))
          have Ox93 := Ox93.keep K96 (ninS (Ne.symm ne_q_x0) (ninS (Ne.symm ne_w_x0) (ninS ne_x0_x1 (ninS ne_x0_x2 nin0))))
          have Zn := Nat.le_trans Zn K96.1
          show own_End p e below _ (T96.setTop (mkF m 280 _ [(.ref x1)]))
          refine own_astore X96 hx hby at_280 (pc' := 282) rfl rfl (l' := #[.val (.long p0), .second, .val (.long p1), .second, .val (.long p2), .second, .val (.long p3), .second, .val (.int p4), .val (.int p5), .val (.int (3 : Int32)), .val (.ref oa), .val (.int pm), .val (.ref sa), .val (.long lo), .second, .val (.long hi), .second, .val (.int sw), .val (.ref ta), .val (.ref q), .val (.ref x1), .unset, .unset, .unset, .unset]) rfl ?_
          refine own_aload X96 hx hby at_282 (pc' := 284) rfl rfl rfl ?_
          refine own_lk8 hw X96 hx hZ hby (by rw [hml]; rfl) hown at_284 (pc' := 287) rfl rfl Oq96.1 (W := 0) (Nat.le_of_eq rfl) (rmP2 l Z a0 hw [] q w kk x2 (p0 + o2) s2 x0 (p0 + o0) s0 T96.heap n0 Zn Oq96 V96 ho Oz96 Ox93 ge_q ge_w ge_x2 ge_x0 (Ne.symm ne_x0_x2)) (by decide) (by decide) (by decide) (by decide) (fun v97 T97 L97 X97 hQ97 => ?_)
          obtain ⟨rfl, Nq97, K97, Oq97, V97, Ox97, Oy97⟩ := hQ97
          have N97 := Fr.app N96 Nq97
          have f_V_oa := f_V_oa.keep K97 (ninS ne_oa_q (ninS ne_oa_w (ninS ne_oa_x2 (ninS ne_oa_x0 nin0))))
          have f_V_sa := f_V_sa.keep K97 (ninS ne_sa_q (ninS ne_sa_w (ninS ne_sa_x2 (ninS ne_sa_x0 nin0))))
          have f_V_ta := f_V_ta.keep K97 (ninS ne_ta_q (ninS ne_ta_w (ninS ne_ta_x2 (ninS ne_ta_x0 nin0))))
          have Ox96 := Ox96.keep K97 (ninS ne_x1_q (ninS ne_x1_w (ninS ne_x1_x2 (ninS (Ne.symm ne_x0_x1) nin0))))
          have Zn := Nat.le_trans Zn K97.1
          show own_End p e below _ (T97.setTop (mkF m 287 _ [(.ref x2)]))
          refine own_astore X97 hx hby at_287 (pc' := 289) rfl rfl (l' := #[.val (.long p0), .second, .val (.long p1), .second, .val (.long p2), .second, .val (.long p3), .second, .val (.int p4), .val (.int p5), .val (.int (3 : Int32)), .val (.ref oa), .val (.int pm), .val (.ref sa), .val (.long lo), .second, .val (.long hi), .second, .val (.int sw), .val (.ref ta), .val (.ref q), .val (.ref x1), .val (.ref x2), .unset, .unset, .unset]) rfl ?_
          refine own_aload X97 hx hby at_289 (pc' := 291) rfl rfl rfl ?_
          refine own_lk8 hw X97 hx hZ hby (by rw [hml]; rfl) hown at_291 (pc' := 294) rfl rfl Oq97.1 (W := 0) (Nat.le_of_eq rfl) (rmP1 l Z a0 hw [] q w kk x0 (p0 + o0) s0 T97.heap n0 Zn Oq97 V97 ho Oy97 ge_q ge_w ge_x0) (by decide) (by decide) (by decide) (by decide) (fun v98 T98 L98 X98 hQ98 => ?_)
          obtain ⟨rfl, Nq98, K98, Oq98, V98, Ox98⟩ := hQ98
          have N98 := Fr.app N97 Nq98
          have f_V_oa := f_V_oa.keep K98 (ninS ne_oa_q (ninS ne_oa_w (ninS ne_oa_x0 nin0)))
          have f_V_sa := f_V_sa.keep K98 (ninS ne_sa_q (ninS ne_sa_w (ninS ne_sa_x0 nin0)))
          have f_V_ta := f_V_ta.keep K98 (ninS ne_ta_q (ninS ne_ta_w (ninS ne_ta_x0 nin0)))
          have Ox96 := Ox96.keep K98 (ninS ne_x1_q (ninS ne_x1_w (ninS (Ne.symm ne_x0_x1) nin0)))
          have Ox97 := Ox97.keep K98 (ninS ne_x2_q (ninS ne_x2_w (ninS (Ne.symm ne_x0_x2) nin0)))
          have Zn := Nat.le_trans Zn K98.1
          show own_End p e below _ (T98.setTop (mkF m 294 _ [(.ref x0)]))
          refine own_astore X98 hx hby at_294 (pc' := 296) rfl rfl (l' := #[.val (.long p0), .second, .val (.long p1), .second, .val (.long p2), .second, .val (.long p3), .second, .val (.int p4), .val (.int p5), .val (.int (3 : Int32)), .val (.ref oa), .val (.int pm), .val (.ref sa), .val (.long lo), .second, .val (.long hi), .second, .val (.int sw), .val (.ref ta), .val (.ref q), .val (.ref x1), .val (.ref x2), .val (.ref x0), .unset, .unset]) rfl ?_
          refine own_aload X98 hx hby at_296 (pc' := 298) rfl rfl rfl ?_
          refine own_aload X98 hx hby at_298 (pc' := 300) rfl rfl rfl ?_
          refine own_aload X98 hx hby at_300 (pc' := 302) rfl rfl rfl ?_
          refine own_iload X98 hx hby at_302 (pc' := 304) rfl rfl ?_
          refine own_iconst X98 hx hby at_304 (pc' := 305) rfl (n := (0 : Int32)) (by decide) ?_
          refine own_aload X98 hx hby at_305 (pc' := 307) rfl rfl rfl ?_
          refine own_lk9 hw X98 hx hZ hby (by rw [hml]; rfl) hown at_307 (pc' := 310) rfl rfl (W := 1) (Nat.le_of_eq rfl) (rmEX3 l Z a0 hw [] oa sa ko ks o0 o1 o2 s0 s1 s2 ta kt x0 x1 x2 (0 : Int32) (0 : Int32) (0 : Int32) (1 : Int32) (1 : Int32) (1 : Int32) (0 : Int32) T98.heap n0 Zn f_V_oa f_V_sa f_V_ta ht01.1 ht02.1 ht01.2 ht12.1 ht02.2 ht12.2) (by decide) (by decide) (by decide) (by decide) (fun v99 T99 L99 X99 hQ99 => ?_)
          obtain ⟨rfl, Nq99, e99⟩ := hQ99
          have N99 := Fr.app N98 Nq99
          show own_End p e below _ (T99.setTop (mkF m 310 _ [(.ref x1), (.ref x1)]))
          refine own_acmp X99 hx hby at_310 rfl rfl (same := true) (decide_eq_true rfl) (by decide) (pc' := 313) (by decide) ?_
          refine own_aload X99 hx hby at_313 (pc' := 315) rfl rfl rfl ?_
          refine own_aload X99 hx hby at_315 (pc' := 317) rfl rfl rfl ?_
          refine own_aload X99 hx hby at_317 (pc' := 319) rfl rfl rfl ?_
          refine own_iload X99 hx hby at_319 (pc' := 321) rfl rfl ?_
          refine own_iconst X99 hx hby at_321 (pc' := 322) rfl (n := (1 : Int32)) (by decide) ?_
          refine own_aload X99 hx hby at_322 (pc' := 324) rfl rfl rfl ?_
          refine own_lk9 hw X99 hx hZ hby (by rw [hml]; rfl) hown at_324 (pc' := 327) rfl e99 (W := 1) (Nat.le_of_eq rfl) (rmEX3 l Z a0 hw [] oa sa ko ks o0 o1 o2 s0 s1 s2 ta kt x0 x1 x2 (1 : Int32) (0 : Int32) (0 : Int32) (1 : Int32) (1 : Int32) (1 : Int32) (0 : Int32) T98.heap n0 Zn f_V_oa f_V_sa f_V_ta ht01.1 ht02.1 ht01.2 ht12.1 ht02.2 ht12.2) (by decide) (by decide) (by decide) (by decide) (fun v100 T100 L100 X100 hQ100 => ?_)
          obtain ⟨rfl, Nq100, e100⟩ := hQ100
          have N100 := Fr.app N99 Nq100
          show own_End p e below _ (T100.setTop (mkF m 327 _ [(.ref x2), (.ref x2)]))
          refine own_acmp X100 hx hby at_327 rfl rfl (same := true) (decide_eq_true rfl) (by decide) (pc' := 330) (by decide) ?_
          refine own_aload X100 hx hby at_330 (pc' := 332) rfl rfl rfl ?_
          refine own_aload X100 hx hby at_332 (pc' := 334) rfl rfl rfl ?_
          refine own_aload X100 hx hby at_334 (pc' := 336) rfl rfl rfl ?_
          refine own_iload X100 hx hby at_336 (pc' := 338) rfl rfl ?_
          refine own_iconst X100 hx hby at_338 (pc' := 339) rfl (n := (2 : Int32)) (by decide) ?_
          refine own_aload X100 hx hby at_339 (pc' := 341) rfl rfl rfl ?_
          refine own_lk9 hw X100 hx hZ hby (by rw [hml]; rfl) hown at_341 (pc' := 344) rfl e100 (W := 1) (Nat.le_of_eq rfl) (rmEX3 l Z a0 hw [] oa sa ko ks o0 o1 o2 s0 s1 s2 ta kt x0 x1 x2 (2 : Int32) (0 : Int32) (0 : Int32) (1 : Int32) (1 : Int32) (1 : Int32) (0 : Int32) T98.heap n0 Zn f_V_oa f_V_sa f_V_ta ht01.1 ht02.1 ht01.2 ht12.1 ht02.2 ht12.2) (by decide) (by decide) (by decide) (by decide) (fun v101 T101 L101 X101 hQ101 => ?_)
          obtain ⟨rfl, Nq101, e101⟩ := hQ101
          have N101 := Fr.app N100 Nq101
          show own_End p e below _ (T101.setTop (mkF m 344 _ [(.ref x0), (.ref x0)]))
          refine own_acmp X101 hx hby at_344 rfl rfl (same := true) (decide_eq_true rfl) (by decide) (pc' := 347) (by decide) ?_
          refine own_iconst X101 hx hby at_347 (pc' := 348) rfl (n := (1 : Int32)) (by decide) ?_
          refine own_goto X101 hx hby at_348 (pc' := 352) (by decide) (by decide) ?_
          refine own_istore X101 hx hby at_352 (pc' := 354) rfl (l' := #[.val (.long p0), .second, .val (.long p1), .second, .val (.long p2), .second, .val (.long p3), .second, .val (.int p4), .val (.int p5), .val (.int (3 : Int32)), .val (.ref oa), .val (.int pm), .val (.ref sa), .val (.long lo), .second, .val (.long hi), .second, .val (.int sw), .val (.ref ta), .val (.ref q), .val (.ref x1), .val (.ref x2), .val (.ref x0), .val (.int (1 : Int32)), .unset]) rfl ?_
          refine own_aload X101 hx hby at_354 (pc' := 356) rfl rfl rfl ?_
          refine own_ifnullN X101 hx hby at_356 (pc' := 359) rfl ?_
          refine own_aload X101 hx hby at_359 (pc' := 361) rfl rfl rfl ?_
          refine own_lk11 hw X101 hx hZ hby (by rw [hml]; rfl) hown at_361 (pc' := 364) rfl e101 Ox96.1 (W := 0) (Nat.le_of_eq rfl) (rmGQ l Z a0 hw [] x1 (p0 + o1) s1 (-1 : Int32) T98.heap n0 Zn Ox96) (by decide) (by decide) (by decide) (by decide) (fun v102 T102 L102 X102 hQ102 => ?_)
          obtain ⟨rfl, Nq102, e102⟩ := hQ102
          have N102 := Fr.app N101 Nq102
          show own_End p e below _ (T102.setTop (mkF m 364 _ [(.int (-1 : Int32))]))
          refine own_iconst X102 hx hby at_364 (pc' := 365) rfl (n := (-1 : Int32)) (by decide) ?_
          refine own_icN X102 hx hby at_365 (pc' := 368) rfl (show (-1 : Int32) = (-1 : Int32) by decide) ?_
          refine own_iconst X102 hx hby at_368 (pc' := 369) rfl (n := (1 : Int32)) (by decide) ?_
          refine own_goto X102 hx hby at_369 (pc' := 373) (by decide) (by decide) ?_
          refine own_istore X102 hx hby at_373 (pc' := 375) rfl (l' := #[.val (.long p0), .second, .val (.long p1), .second, .val (.long p2), .second, .val (.long p3), .second, .val (.int p4), .val (.int p5), .val (.int (3 : Int32)), .val (.ref oa), .val (.int pm), .val (.ref sa), .val (.long lo), .second, .val (.long hi), .second, .val (.int sw), .val (.ref ta), .val (.ref q), .val (.ref x1), .val (.ref x2), .val (.ref x0), .val (.int (1 : Int32)), .val (.int (1 : Int32))]) rfl ?_
          refine own_iload X102 hx hby at_375 (pc' := 377) rfl rfl ?_
          refine own_ifN X102 hx hby at_377 (pc' := 380) rfl (show ¬ (1 : Int32) = (0 : Int32) by decide) ?_
          refine own_iload X102 hx hby at_380 (pc' := 382) rfl rfl ?_
          refine own_ifN X102 hx hby at_382 (pc' := 385) rfl (show ¬ (1 : Int32) = (0 : Int32) by decide) ?_
          refine own_iconst X102 hx hby at_385 (pc' := 386) rfl (n := (1 : Int32)) (by decide) ?_
          refine own_goto X102 hx hby at_386 (pc' := 390) (by decide) (by decide) ?_
          refine own_zreturn X102 hx hlk hby hret (Or.inr rfl) at_390 (own_lv ?_ (by decide) (by decide))
          show Q0 Z p0 p1 p2 p3 p4 p5  h0 n0 (some (.int (1 : Int32))) T102.heap _
          rw [e102]
          exact ⟨rfl, N102⟩
      · have _ht := ht12
        rcases own_bfor (oi := o0) (oj := o2) hs02 with ht02 | ht02
        · have _ht := ht02
          exact (own_bftr ht01.2 ht02.1 ht12.2).elim
        · have _ht := ht02
          refine own_iconst X0 hx hby at_232 (pc' := 233) rfl (n := (1 : Int32)) (by decide) ?_
          refine own_icN X0 hx hby at_233 (pc' := 236) rfl (show ¬ (3 : Int32) < (1 : Int32) by decide) ?_
          refine own_aload X0 hx hby at_236 (pc' := 238) rfl rfl rfl ?_
          refine own_aload X0 hx hby at_238 (pc' := 240) rfl rfl rfl ?_
          refine own_iconst X0 hx hby at_240 (pc' := 241) rfl (n := (0 : Int32)) (by decide) ?_
          obtain ⟨cl103, Ar103, q103, S103, M103, H103, G103⟩ := id f_V_ta
          have hin103 : ¬ ((0 : Int32) < 0 ∨ cl103.slots.size ≤ ((0 : Int32)).toNatClampNeg) := inb_of S103 ⟨by decide, by decide⟩
          have hat103 : cl103.slots[((0 : Int32)).toNatClampNeg]? = some (.ref x0) := H103.at hin103 rfl
          refine own_aaload X0 hx hZ hby e1 Ar103 rfl hin103 hat103 at_241 (pc' := 242) rfl ?_
          have ne_oa_q : oa ≠ q := Ne.symm (Exa.neArv f_O_q.1 f_V_oa (wd_26 hw))
          have ne_oa_x0 : oa ≠ x0 := Ne.symm (Exa.neArv f_O_x0.1 f_V_oa (wd_6 hw))
          have ne_sa_q : sa ≠ q := Ne.symm (Exa.neArv f_O_q.1 f_V_sa (wd_26 hw))
          have ne_sa_x0 : sa ≠ x0 := Ne.symm (Exa.neArv f_O_x0.1 f_V_sa (wd_6 hw))
          have ne_ta_q : ta ≠ q := Ne.symm (Exa.neArv f_O_q.1 f_V_ta (wd_26 hw))
          have ne_ta_x0 : ta ≠ x0 := Ne.symm (Exa.neArv f_O_x0.1 f_V_ta (wd_6 hw))
          have ne_q_w : q ≠ w := Exa.neArv f_O_q.1 f_V_w (wd_26 hw)
          have ne_q_x0 : q ≠ x0 := Exa.ne f_O_q.1 f_O_x0.1 (by decide)
          have ne_w_x0 : w ≠ x0 := Ne.symm (Exa.neArv f_O_x0.1 f_V_w (wd_6 hw))
          have ne_x1_q : x1 ≠ q := Exa.ne f_O_x1.1 f_O_q.1 (by decide)
          have ne_x1_w : x1 ≠ w := Exa.neArv f_O_x1.1 f_V_w (wd_6 hw)
          have ne_x2_q : x2 ≠ q := Exa.ne f_O_x2.1 f_O_q.1 (by decide)
          have ne_x2_w : x2 ≠ w := Exa.neArv f_O_x2.1 f_V_w (wd_6 hw)
          refine own_lk10 hw X0 hx hZ hby (by rw [hml]; rfl) hown at_242 (pc' := 245) rfl e1 f_O_q.1 (W := 0) (Nat.le_of_eq rfl) (rmA0 l Z a0 hw [] q w kk x0 (p0 + o0) s0 h1 n0 Z1 f_O_q f_V_w ho f_O_x0 ge_q ge_w ge_x0) (by decide) (by decide) (by decide) (by decide) (fun v104 T104 L104 X104 hQ104 => ?_)
          obtain ⟨rfl, Nq104, K104, Oq104, V104, Ot104⟩ := hQ104
          have N104 := Fr.app N0 Nq104
          have f_V_oa := f_V_oa.keep K104 (ninS ne_oa_q (ninS ne_oa_w (ninS ne_oa_x0 nin0)))
          have f_V_sa := f_V_sa.keep K104 (ninS ne_sa_q (ninS ne_sa_w (ninS ne_sa_x0 nin0)))
          have f_V_ta := f_V_ta.keep K104 (ninS ne_ta_q (ninS ne_ta_w (ninS ne_ta_x0 nin0)))
          have f_O_x1 := f_O_x1.keep K104 (ninS ne_x1_q (ninS ne_x1_w (ninS (Ne.symm ne_x0_x1) nin0)))
          have f_O_x2 := f_O_x2.keep K104 (ninS ne_x2_q (ninS ne_x2_w (ninS (Ne.symm ne_x0_x2) nin0)))
          have Zn := Nat.le_trans Z1 K104.1
          show own_End p e below _ (T104.setTop (mkF m 245 _ []))
          refine own_iload X104 hx hby at_245 (pc' := 247) rfl rfl ?_
          refine own_iconst X104 hx hby at_247 (pc' := 248) rfl (n := (2 : Int32)) (by decide) ?_
          refine own_icN X104 hx hby at_248 (pc' := 251) rfl (show ¬ (3 : Int32) < (2 : Int32) by decide) ?_
          refine own_aload X104 hx hby at_251 (pc' := 253) rfl rfl rfl ?_
          refine own_aload X104 hx hby at_253 (pc' := 255) rfl rfl rfl ?_
          refine own_iconst X104 hx hby at_255 (pc' := 256) rfl (n := (1 : Int32)) (by decide) ?_
          obtain ⟨cl105, Ar105, q105, S105, M105, H105, G105⟩ := id f_V_ta
          have hin105 : ¬ ((1 : Int32) < 0 ∨ cl105.slots.size ≤ ((1 : Int32)).toNatClampNeg) := inb_of S105 ⟨by decide, by decide⟩
          have hat105 : cl105.slots[((1 : Int32)).toNatClampNeg]? = some (.ref x1) := H105.at hin105 rfl
          refine own_aaload X104 hx hZ hby rfl Ar105 rfl hin105 hat105 at_256 (pc' := 257) rfl ?_
          have ne_oa_x1 : oa ≠ x1 := Ne.symm (Exa.neArv f_O_x1.1 f_V_oa (wd_6 hw))
          have ne_sa_x1 : sa ≠ x1 := Ne.symm (Exa.neArv f_O_x1.1 f_V_sa (wd_6 hw))
          have ne_ta_x1 : ta ≠ x1 := Ne.symm (Exa.neArv f_O_x1.1 f_V_ta (wd_6 hw))
          refine own_lk10 hw X104 hx hZ hby (by rw [hml]; rfl) hown at_257 (pc' := 260) rfl rfl Oq104.1 (W := 0) (Nat.le_of_eq rfl) (rmA1b l Z a0 hw [] q w kk x0 (p0 + o0) s0 x1 (p0 + o1) s1 T104.heap n0 Zn Oq104 V104 ho Ot104 f_O_x1 ge_q ge_w ge_x0 ge_x1 ne_x0_x1 ((own_rbbf p0 o1 s1 o0 s0 hb1 hb0).trans ht01.2)) (by decide) (by decide) (by decide) (by decide) (fun v106 T106 L106 X106 hQ106 => ?_)
          obtain ⟨rfl, Nq106, K106, Oq106, V106, Ox106, Ot106⟩ := hQ106
          have N106 := Fr.app N104 Nq106
          have f_V_oa := f_V_oa.keep K106 (ninS ne_oa_q (ninS ne_oa_w (ninS ne_oa_x0 (ninS ne_oa_x1 nin0))))
          have f_V_sa := f_V_sa.keep K106 (ninS ne_sa_q (ninS ne_sa_w (ninS ne_sa_x0 (ninS ne_sa_x1 nin0))))
          have f_V_ta := f_V_ta.keep K106 (ninS ne_ta_q (ninS ne_ta_w (ninS ne_ta_x0 (ninS ne_ta_x1 nin0))))
          have f_O_x2 := f_O_x2.keep K106 (ninS ne_x2_q (ninS ne_x2_w (ninS (Ne.symm ne_x0_x2) (ninS (Ne.symm ne_x1_x2) nin0))))
          have Zn := Nat.le_trans Zn K106.1
          show own_End p e below _ (T106.setTop (mkF m 260 _ []))
          refine own_iload X106 hx hby at_260 (pc' := 262) rfl rfl ?_
          refine own_iconst X106 hx hby at_262 (pc' := 263) rfl (n := (3 : Int32)) (by decide) ?_
          refine own_icN X106 hx hby at_263 (pc' := 266) rfl (show ¬ (3 : Int32) < (3 : Int32) by decide) ?_
          refine own_aload X106 hx hby at_266 (pc' := 268) rfl rfl rfl ?_
          refine own_aload X106 hx hby at_268 (pc' := 270) rfl rfl rfl ?_
          refine own_iconst X106 hx hby at_270 (pc' := 271) rfl (n := (2 : Int32)) (by decide) ?_
          obtain ⟨cl107, Ar107, q107, S107, M107, H107, G107⟩ := id f_V_ta
          have hin107 : ¬ ((2 : Int32) < 0 ∨ cl107.slots.size ≤ ((2 : Int32)).toNatClampNeg) := inb_of S107 ⟨by decide, by decide⟩
          have hat107 : cl107.slots[((2 : Int32)).toNatClampNeg]? = some (.ref x2) := H107.at hin107 rfl
          refine own_aaload X106 hx hZ hby rfl Ar107 rfl hin107 hat107 at_271 (pc' := 272) rfl ?_
          have ne_oa_x2 : oa ≠ x2 := Ne.symm (Exa.neArv f_O_x2.1 f_V_oa (wd_6 hw))
          have ne_sa_x2 : sa ≠ x2 := Ne.symm (Exa.neArv f_O_x2.1 f_V_sa (wd_6 hw))
          have ne_ta_x2 : ta ≠ x2 := Ne.symm (Exa.neArv f_O_x2.1 f_V_ta (wd_6 hw))
          refine own_lk10 hw X106 hx hZ hby (by rw [hml]; rfl) hown at_272 (pc' := 275) rfl rfl Oq106.1 (W := 0) (Nat.le_of_eq rfl) (rmA2b l Z a0 hw [] q w kk x1 (p0 + o1) s1 x0 (p0 + o0) s0 x2 (p0 + o2) s2 T106.heap n0 Zn Oq106 V106 ho Ot106 Ox106 f_O_x2 ge_q ge_w ge_x1 ge_x2 (Ne.symm ne_x0_x1) ne_x1_x2 ne_x0_x2 ((own_rbbf p0 o2 s2 o1 s1 hb2 hb1).trans ht12.2)) (by decide) (by decide) (by decide) (by decide) (fun v108 T108 L108 X108 hQ108 => ?_)
          obtain ⟨rfl, Nq108, K108, Oq108, V108, Ox108, Ot108⟩ := hQ108
          have N108 := Fr.app N106 Nq108
          have f_V_oa := f_V_oa.keep K108 (ninS ne_oa_q (ninS ne_oa_w (ninS ne_oa_x1 (ninS ne_oa_x2 nin0))))
          have f_V_sa := f_V_sa.keep K108 (ninS ne_sa_q (ninS ne_sa_w (ninS ne_sa_x1 (ninS ne_sa_x2 nin0))))
          have f_V_ta := f_V_ta.keep K108 (ninS ne_ta_q (ninS ne_ta_w (ninS ne_ta_x1 (ninS ne_ta_x2 nin0))))
          have Ox106 := Ox106.keep K108 (ninS (Ne.symm ne_q_x0) (ninS (Ne.symm ne_w_x0) (ninS ne_x0_x1 (ninS ne_x0_x2 nin0))))
          have Zn := Nat.le_trans Zn K108.1
          show own_End p e below _ (T108.setTop (mkF m 275 _ []))
          refine own_aload X108 hx hby at_275 (pc' := 277) rfl rfl rfl ?_
          refine own_lk8 hw X108 hx hZ hby (by rw [hml]; rfl) hown at_277 (pc' := 280) rfl rfl Oq108.1 (W := 0) (Nat.le_of_eq rfl) (rmP3a l Z a0 hw [] q w kk x2 (p0 + o2) s2 x0 (p0 + o0) s0 x1 (p0 + o1) s1 T108.heap n0 Zn Oq108 V108 ho Ot108 Ox106 Ox108 ge_q ge_w ge_x2 ge_x1 (Ne.symm ne_x0_x2) (Ne.symm ne_x1_x2) ne_x0_x1 ((own_rbbf p0 o0 s0 o1 s1 hb0 hb1).trans ht01.1)) (by decide) (by decide) (by decide) (by decide) (fun v109 T109 L109 X109 hQ109 => ?_)
          obtain ⟨rfl, Nq109, K109, Oq109, V109, Ox109, Oz109⟩ := hQ109
          have N109 := Fr.app N108 Nq109
          have f_V_oa := f_V_oa.keep K109 (ninS ne_oa_q (ninS ne_oa_w (ninS ne_oa_x2 (ninS ne_oa_x1 nin0))))
          have f_V_sa := f_V_sa.keep K109 (ninS ne_sa_q (ninS ne_sa_w (ninS ne_sa_x2 (ninS ne_sa_x1 nin0))))
          have f_V_ta := f_V_ta.keep K109 (ninS ne_ta_q (ninS ne_ta_w (ninS ne_ta_x2 (ninS ne_ta_x1 nin0))))
          have Ox106 := Ox106.keep K109 (ninS (Ne.symm ne_q_x0) (ninS (Ne.symm ne_w_x0) (ninS ne_x0_x2 (ninS ne_x0_x1 nin0))))
          have Zn := Nat.le_trans Zn K109.1
          show own_End p e below _ (T109.setTop (mkF m 280 _ [(.ref x2)]))
          refine own_astore X109 hx hby at_280 (pc' := 282) rfl rfl (l' := #[.val (.long p0), .second, .val (.long p1), .second, .val (.long p2), .second, .val (.long p3), .second, .val (.int p4), .val (.int p5), .val (.int (3 : Int32)), .val (.ref oa), .val (.int pm), .val (.ref sa), .val (.long lo), .second, .val (.long hi), .second, .val (.int sw), .val (.ref ta), .val (.ref q), .val (.ref x2), .unset, .unset, .unset, .unset]) rfl ?_
          refine own_aload X109 hx hby at_282 (pc' := 284) rfl rfl rfl ?_
          refine own_lk8 hw X109 hx hZ hby (by rw [hml]; rfl) hown at_284 (pc' := 287) rfl rfl Oq109.1 (W := 0) (Nat.le_of_eq rfl) (rmP2 l Z a0 hw [] q w kk x1 (p0 + o1) s1 x0 (p0 + o0) s0 T109.heap n0 Zn Oq109 V109 ho Oz109 Ox106 ge_q ge_w ge_x1 ge_x0 (Ne.symm ne_x0_x1)) (by decide) (by decide) (by decide) (by decide) (fun v110 T110 L110 X110 hQ110 => ?_)
          obtain ⟨rfl, Nq110, K110, Oq110, V110, Ox110, Oy110⟩ := hQ110
          have N110 := Fr.app N109 Nq110
          have f_V_oa := f_V_oa.keep K110 (ninS ne_oa_q (ninS ne_oa_w (ninS ne_oa_x1 (ninS ne_oa_x0 nin0))))
          have f_V_sa := f_V_sa.keep K110 (ninS ne_sa_q (ninS ne_sa_w (ninS ne_sa_x1 (ninS ne_sa_x0 nin0))))
          have f_V_ta := f_V_ta.keep K110 (ninS ne_ta_q (ninS ne_ta_w (ninS ne_ta_x1 (ninS ne_ta_x0 nin0))))
          have Ox109 := Ox109.keep K110 (ninS ne_x2_q (ninS ne_x2_w (ninS (Ne.symm ne_x1_x2) (ninS (Ne.symm ne_x0_x2) nin0))))
          have Zn := Nat.le_trans Zn K110.1
          show own_End p e below _ (T110.setTop (mkF m 287 _ [(.ref x1)]))
          refine own_astore X110 hx hby at_287 (pc' := 289) rfl rfl (l' := #[.val (.long p0), .second, .val (.long p1), .second, .val (.long p2), .second, .val (.long p3), .second, .val (.int p4), .val (.int p5), .val (.int (3 : Int32)), .val (.ref oa), .val (.int pm), .val (.ref sa), .val (.long lo), .second, .val (.long hi), .second, .val (.int sw), .val (.ref ta), .val (.ref q), .val (.ref x2), .val (.ref x1), .unset, .unset, .unset]) rfl ?_
          refine own_aload X110 hx hby at_289 (pc' := 291) rfl rfl rfl ?_
          refine own_lk8 hw X110 hx hZ hby (by rw [hml]; rfl) hown at_291 (pc' := 294) rfl rfl Oq110.1 (W := 0) (Nat.le_of_eq rfl) (rmP1 l Z a0 hw [] q w kk x0 (p0 + o0) s0 T110.heap n0 Zn Oq110 V110 ho Oy110 ge_q ge_w ge_x0) (by decide) (by decide) (by decide) (by decide) (fun v111 T111 L111 X111 hQ111 => ?_)
          obtain ⟨rfl, Nq111, K111, Oq111, V111, Ox111⟩ := hQ111
          have N111 := Fr.app N110 Nq111
          have f_V_oa := f_V_oa.keep K111 (ninS ne_oa_q (ninS ne_oa_w (ninS ne_oa_x0 nin0)))
          have f_V_sa := f_V_sa.keep K111 (ninS ne_sa_q (ninS ne_sa_w (ninS ne_sa_x0 nin0)))
          have f_V_ta := f_V_ta.keep K111 (ninS ne_ta_q (ninS ne_ta_w (ninS ne_ta_x0 nin0)))
          have Ox109 := Ox109.keep K111 (ninS ne_x2_q (ninS ne_x2_w (ninS (Ne.symm ne_x0_x2) nin0)))
          have Ox110 := Ox110.keep K111 (ninS ne_x1_q (ninS ne_x1_w (ninS (Ne.symm ne_x0_x1) nin0)))
          have Zn := Nat.le_trans Zn K111.1
          show own_End p e below _ (T111.setTop (mkF m 294 _ [(.ref x0)]))
          refine own_astore X111 hx hby at_294 (pc' := 296) rfl rfl (l' := #[.val (.long p0), .second, .val (.long p1), .second, .val (.long p2), .second, .val (.long p3), .second, .val (.int p4), .val (.int p5), .val (.int (3 : Int32)), .val (.ref oa), .val (.int pm), .val (.ref sa), .val (.long lo), .second, .val (.long hi), .second, .val (.int sw), .val (.ref ta), .val (.ref q), .val (.ref x2), .val (.ref x1), .val (.ref x0), .unset, .unset]) rfl ?_
          refine own_aload X111 hx hby at_296 (pc' := 298) rfl rfl rfl ?_
          refine own_aload X111 hx hby at_298 (pc' := 300) rfl rfl rfl ?_
          refine own_aload X111 hx hby at_300 (pc' := 302) rfl rfl rfl ?_
          refine own_iload X111 hx hby at_302 (pc' := 304) rfl rfl ?_
          refine own_iconst X111 hx hby at_304 (pc' := 305) rfl (n := (0 : Int32)) (by decide) ?_
          refine own_aload X111 hx hby at_305 (pc' := 307) rfl rfl rfl ?_
          refine own_lk9 hw X111 hx hZ hby (by rw [hml]; rfl) hown at_307 (pc' := 310) rfl rfl (W := 1) (Nat.le_of_eq rfl) (rmEX3 l Z a0 hw [] oa sa ko ks o0 o1 o2 s0 s1 s2 ta kt x0 x1 x2 (0 : Int32) (0 : Int32) (0 : Int32) (1 : Int32) (0 : Int32) (1 : Int32) (1 : Int32) T111.heap n0 Zn f_V_oa f_V_sa f_V_ta ht01.1 ht02.1 ht01.2 ht12.1 ht02.2 ht12.2) (by decide) (by decide) (by decide) (by decide) (fun v112 T112 L112 X112 hQ112 => ?_)
          obtain ⟨rfl, Nq112, e112⟩ := hQ112
          have N112 := Fr.app N111 Nq112
          show own_End p e below _ (T112.setTop (mkF m 310 _ [(.ref x2), (.ref x2)]))
          refine own_acmp X112 hx hby at_310 rfl rfl (same := true) (decide_eq_true rfl) (by decide) (pc' := 313) (by decide) ?_
          refine own_aload X112 hx hby at_313 (pc' := 315) rfl rfl rfl ?_
          refine own_aload X112 hx hby at_315 (pc' := 317) rfl rfl rfl ?_
          refine own_aload X112 hx hby at_317 (pc' := 319) rfl rfl rfl ?_
          refine own_iload X112 hx hby at_319 (pc' := 321) rfl rfl ?_
          refine own_iconst X112 hx hby at_321 (pc' := 322) rfl (n := (1 : Int32)) (by decide) ?_
          refine own_aload X112 hx hby at_322 (pc' := 324) rfl rfl rfl ?_
          refine own_lk9 hw X112 hx hZ hby (by rw [hml]; rfl) hown at_324 (pc' := 327) rfl e112 (W := 1) (Nat.le_of_eq rfl) (rmEX3 l Z a0 hw [] oa sa ko ks o0 o1 o2 s0 s1 s2 ta kt x0 x1 x2 (1 : Int32) (0 : Int32) (0 : Int32) (1 : Int32) (0 : Int32) (1 : Int32) (1 : Int32) T111.heap n0 Zn f_V_oa f_V_sa f_V_ta ht01.1 ht02.1 ht01.2 ht12.1 ht02.2 ht12.2) (by decide) (by decide) (by decide) (by decide) (fun v113 T113 L113 X113 hQ113 => ?_)
          obtain ⟨rfl, Nq113, e113⟩ := hQ113
          have N113 := Fr.app N112 Nq113
          show own_End p e below _ (T113.setTop (mkF m 327 _ [(.ref x1), (.ref x1)]))
          refine own_acmp X113 hx hby at_327 rfl rfl (same := true) (decide_eq_true rfl) (by decide) (pc' := 330) (by decide) ?_
          refine own_aload X113 hx hby at_330 (pc' := 332) rfl rfl rfl ?_
          refine own_aload X113 hx hby at_332 (pc' := 334) rfl rfl rfl ?_
          refine own_aload X113 hx hby at_334 (pc' := 336) rfl rfl rfl ?_
          refine own_iload X113 hx hby at_336 (pc' := 338) rfl rfl ?_
          refine own_iconst X113 hx hby at_338 (pc' := 339) rfl (n := (2 : Int32)) (by decide) ?_
          refine own_aload X113 hx hby at_339 (pc' := 341) rfl rfl rfl ?_
          refine own_lk9 hw X113 hx hZ hby (by rw [hml]; rfl) hown at_341 (pc' := 344) rfl e113 (W := 1) (Nat.le_of_eq rfl) (rmEX3 l Z a0 hw [] oa sa ko ks o0 o1 o2 s0 s1 s2 ta kt x0 x1 x2 (2 : Int32) (0 : Int32) (0 : Int32) (1 : Int32) (0 : Int32) (1 : Int32) (1 : Int32) T111.heap n0 Zn f_V_oa f_V_sa f_V_ta ht01.1 ht02.1 ht01.2 ht12.1 ht02.2 ht12.2) (by decide) (by decide) (by decide) (by decide) (fun v114 T114 L114 X114 hQ114 => ?_)
          obtain ⟨rfl, Nq114, e114⟩ := hQ114
          have N114 := Fr.app N113 Nq114
          show own_End p e below _ (T114.setTop (mkF m 344 _ [(.ref x0), (.ref x0)]))
          refine own_acmp X114 hx hby at_344 rfl rfl (same := true) (decide_eq_true rfl) (by decide) (pc' := 347) (by decide) ?_
          refine own_iconst X114 hx hby at_347 (pc' := 348) rfl (n := (1 : Int32)) (by decide) ?_
          refine own_goto X114 hx hby at_348 (pc' := 352) (by decide) (by decide) ?_
          refine own_istore X114 hx hby at_352 (pc' := 354) rfl (l' := #[.val (.long p0), .second, .val (.long p1), .second, .val (.long p2), .second, .val (.long p3), .second, .val (.int p4), .val (.int p5), .val (.int (3 : Int32)), .val (.ref oa), .val (.int pm), .val (.ref sa), .val (.long lo), .second, .val (.long hi), .second, .val (.int sw), .val (.ref ta), .val (.ref q), .val (.ref x2), .val (.ref x1), .val (.ref x0), .val (.int (1 : Int32)), .unset]) rfl ?_
          refine own_aload X114 hx hby at_354 (pc' := 356) rfl rfl rfl ?_
          refine own_ifnullN X114 hx hby at_356 (pc' := 359) rfl ?_
          refine own_aload X114 hx hby at_359 (pc' := 361) rfl rfl rfl ?_
          refine own_lk11 hw X114 hx hZ hby (by rw [hml]; rfl) hown at_361 (pc' := 364) rfl e114 Ox109.1 (W := 0) (Nat.le_of_eq rfl) (rmGQ l Z a0 hw [] x2 (p0 + o2) s2 (-1 : Int32) T111.heap n0 Zn Ox109) (by decide) (by decide) (by decide) (by decide) (fun v115 T115 L115 X115 hQ115 => ?_)
          obtain ⟨rfl, Nq115, e115⟩ := hQ115
          have N115 := Fr.app N114 Nq115
          show own_End p e below _ (T115.setTop (mkF m 364 _ [(.int (-1 : Int32))]))
          refine own_iconst X115 hx hby at_364 (pc' := 365) rfl (n := (-1 : Int32)) (by decide) ?_
          refine own_icN X115 hx hby at_365 (pc' := 368) rfl (show (-1 : Int32) = (-1 : Int32) by decide) ?_
          refine own_iconst X115 hx hby at_368 (pc' := 369) rfl (n := (1 : Int32)) (by decide) ?_
          refine own_goto X115 hx hby at_369 (pc' := 373) (by decide) (by decide) ?_
          refine own_istore X115 hx hby at_373 (pc' := 375) rfl (l' := #[.val (.long p0), .second, .val (.long p1), .second, .val (.long p2), .second, .val (.long p3), .second, .val (.int p4), .val (.int p5), .val (.int (3 : Int32)), .val (.ref oa), .val (.int pm), .val (.ref sa), .val (.long lo), .second, .val (.long hi), .second, .val (.int sw), .val (.ref ta), .val (.ref q), .val (.ref x2), .val (.ref x1), .val (.ref x0), .val (.int (1 : Int32)), .val (.int (1 : Int32))]) rfl ?_
          refine own_iload X115 hx hby at_375 (pc' := 377) rfl rfl ?_
          refine own_ifN X115 hx hby at_377 (pc' := 380) rfl (show ¬ (1 : Int32) = (0 : Int32) by decide) ?_
          refine own_iload X115 hx hby at_380 (pc' := 382) rfl rfl ?_
          refine own_ifN X115 hx hby at_382 (pc' := 385) rfl (show ¬ (1 : Int32) = (0 : Int32) by decide) ?_
          refine own_iconst X115 hx hby at_385 (pc' := 386) rfl (n := (1 : Int32)) (by decide) ?_
          refine own_goto X115 hx hby at_386 (pc' := 390) (by decide) (by decide) ?_
          refine own_zreturn X115 hx hlk hby hret (Or.inr rfl) at_390 (own_lv ?_ (by decide) (by decide))
          show Q0 Z p0 p1 p2 p3 p4 p5  h0 n0 (some (.int (1 : Int32))) T115.heap _
          rw [e115]
          exact ⟨rfl, N115⟩
set_option maxRecDepth 65536 in
set_option maxHeartbeats 40000000 in
theorem own_s146 {p : Program} {l : Launch} {e : Env} {s : State} {m : MethodId} {below : List Frame} {meth : Method} {c : Code} {T0 : State} {locs : List Loc} (Z : State) (a0 : Array Value) (hw : ∀ d ∈ tables_1, d.before a0 Z = true) (p0 : Int64) (p1 : Int64) (p2 : Int64) (p3 : Int64) (p4 : Int32) (p5 : Int32) (oa : Addr) (sa : Addr) (ko : ClassId) (ks : ClassId) (o0 : Int64) (o1 : Int64) (o2 : Int64) (s0 : Int64) (s1 : Int64) (s2 : Int64) (n : Int32) (pm : Int32) (lo : Int64) (hi : Int64) (sw : Int32) (h0 : Heap) (n0 : Nat) (h1 : Heap)
    (X0 : Stand p l e room_1 s m #[(.long p0), (.long p1), (.long p2), (.long p3), (.int p4), (.int p5)] below meth c T0 locs 2 6) (hx : p.tables.exec = Jvm.exec) (hby : c.code = code) (hlk : meth.locks = false) (hml : c.maxLocals = 26) (hown : s.vm.findClass "com/example/earnest_reactor/earnestreactor/core/TimerQueuePollPinLaw" = some m.cls) (hret : meth.sig.returnType = some .boolean) (hZ : Z.Warmed39 s.vm) (e1 : T0.heap = h1) (N0 : Fr n0 locs) (Z1 : n0 ≤ h1.size) (f_V_oa : Arv Z h1 oa ko .long (3 : Int32) [(.long o0), (.long o1), (.long o2)] (.long (0 : Int64))) (f_V_sa : Arv Z h1 sa ks .long (3 : Int32) [(.long s0), (.long s1), (.long s2)] (.long (0 : Int64))) (hb0 : 0 ≤ o0.toInt ∧ o0.toInt < 4611686018427387904) (hb1 : 0 ≤ o1.toInt ∧ o1.toInt < 4611686018427387904) (hb2 : 0 ≤ o2.toInt ∧ o2.toInt < 4611686018427387904) (hs01 : ¬ s0 = s1) (hs02 : ¬ s0 = s2) (hs12 : ¬ s1 = s2) (hn : n = (0 : Int32) ∨ n = (1 : Int32) ∨ n = (2 : Int32) ∨ n = (3 : Int32)) :
    own_End p e below (own_F s (Q0 Z p0 p1 p2 p3 p4 p5 h0 n0) room_1.cells room_1.slots) (T0.setTop (mkF m 146 #[.val (.long p0), .second, .val (.long p1), .second, .val (.long p2), .second, .val (.long p3), .second, .val (.int p4), .val (.int p5), .val (.int n), .val (.ref oa), .val (.int pm), .val (.ref sa), .val (.long lo), .second, .val (.long hi), .second, .val (.int sw), .unset, .unset, .unset, .unset, .unset, .unset, .unset] [])) := by
  refine own_iconst X0 hx hby at_146 (pc' := 147) rfl (n := (3 : Int32)) (by decide) ?_
  refine own_newR X0 hx hZ hby hown (wd_4 hw) (wd_5 hw) e1 at_147 (pc' := 150) rfl (by decide) (cap := 3) (by decide) (by decide) (by decide) (by decide) (fun T116 h116 k116 b116 g116 X116 e116 E116 A116 O116 => ?_)
  have ne_oa_b116 : oa ≠ b116 := Nat.ne_of_lt (by rw [g116]; exact f_V_oa.lt)
  have ne_sa_b116 : sa ≠ b116 := Nat.ne_of_lt (by rw [g116]; exact f_V_sa.lt)
  have ge_b116 : n0 ≤ b116 := by rw [g116]; exact Z1
  have f_V_oa := f_V_oa.ext E116
  have f_V_sa := f_V_sa.ext E116
  have Zn := Nat.le_trans Z1 E116.1
  have f_V_b116 : Arv Z h116 b116 k116 (.object "com/example/earnest_reactor/earnestreactor/core/ScheduledTask") (3 : Int32) [.null, .null, .null] .null := (Arv.new A116 (by decide)).pad (pad_rep [] .null 3)
  refine own_astore X116 hx hby at_150 (pc' := 152) rfl rfl (l' := #[.val (.long p0), .second, .val (.long p1), .second, .val (.long p2), .second, .val (.long p3), .second, .val (.int p4), .val (.int p5), .val (.int n), .val (.ref oa), .val (.int pm), .val (.ref sa), .val (.long lo), .second, .val (.long hi), .second, .val (.int sw), .val (.ref b116), .unset, .unset, .unset, .unset, .unset, .unset]) rfl ?_
  refine own_aload X116 hx hby at_152 (pc' := 154) rfl rfl rfl ?_
  refine own_iconst X116 hx hby at_154 (pc' := 155) rfl (n := (0 : Int32)) (by decide) ?_
  refine own_new X116 hx hZ hby hown (wd_4 hw) (wd_6 hw) (wd_7 hw) e116 at_155 (pc' := 158) rfl (by decide) (by decide) (fun T117 h117 b117 g117 X117 e117 E117 A117 D117 => ?_)
  have ne_oa_b117 : oa ≠ b117 := Nat.ne_of_lt (by rw [g117]; exact f_V_oa.lt)
  have ne_sa_b117 : sa ≠ b117 := Nat.ne_of_lt (by rw [g117]; exact f_V_sa.lt)
  have ne_b116_b117 : b116 ≠ b117 := Nat.ne_of_lt (by rw [g117]; exact f_V_b116.lt)
  have ge_b117 : n0 ≤ b117 := by rw [g117]; exact Zn
  have f_V_oa := f_V_oa.ext E117
  have f_V_sa := f_V_sa.ext E117
  have f_V_b116 := f_V_b116.ext E117
  have Zn := Nat.le_trans Zn E117.1
  have f_O_b117 : own_TK Z h117 b117 .null (0 : Int64) (0 : Int64) .null (0 : Int32) := ⟨A117, D117 (Or.inr (wd_17 hw)) (ty := (.object "com/example/earnest_reactor/earnestreactor/core/EventLoop")) (by decide), D117 (Or.inr (wd_19 hw)) (ty := .long) (by decide), D117 (Or.inr (wd_21 hw)) (ty := .long) (by decide), D117 (Or.inr (wd_23 hw)) (ty := (.object "java/lang/Runnable")) (by decide), D117 (Or.inl (wd_15 hw)) (ty := .int) (by decide)⟩
  refine own_dup X117 hx hby at_158 (pc' := 159) rfl rfl ?_
  refine own_aconst_null X117 hx hby at_159 (pc' := 160) rfl ?_
  refine own_lloadN X117 hx hby at_160 (pc' := 161) rfl rfl ?_
  refine own_aload X117 hx hby at_161 (pc' := 163) rfl rfl rfl ?_
  refine own_iconst X117 hx hby at_163 (pc' := 164) rfl (n := (0 : Int32)) (by decide) ?_
  obtain ⟨cl118, Ar118, q118, S118, M118, H118, G118⟩ := id f_V_oa
  have hin118 : ¬ ((0 : Int32) < 0 ∨ cl118.slots.size ≤ ((0 : Int32)).toNatClampNeg) := inb_of S118 ⟨by decide, by decide⟩
  have hat118 : cl118.slots[((0 : Int32)).toNatClampNeg]? = some (.long o0) := H118.at hin118 rfl
  refine own_laload X117 hx hZ hby e117 Ar118 hin118 hat118 at_164 (pc' := 165) rfl ?_
  refine own_ladd X117 hx hby at_165 (pc' := 166) rfl ?_
  refine own_aload X117 hx hby at_166 (pc' := 168) rfl rfl rfl ?_
  refine own_iconst X117 hx hby at_168 (pc' := 169) rfl (n := (0 : Int32)) (by decide) ?_
  obtain ⟨cl119, Ar119, q119, S119, M119, H119, G119⟩ := id f_V_sa
  have hin119 : ¬ ((0 : Int32) < 0 ∨ cl119.slots.size ≤ ((0 : Int32)).toNatClampNeg) := inb_of S119 ⟨by decide, by decide⟩
  have hat119 : cl119.slots[((0 : Int32)).toNatClampNeg]? = some (.long s0) := H119.at hin119 rfl
  refine own_laload X117 hx hZ hby e117 Ar119 hin119 hat119 at_169 (pc' := 170) rfl ?_
  refine own_aconst_null X117 hx hby at_170 (pc' := 171) rfl ?_
  refine own_lk12 hw X117 hx hZ hby (by rw [hml]; rfl) hown at_171 (pc' := 174) rfl e117 (W := 3) (Nat.le_of_eq rfl) (rmNT l Z a0 hw [] b117 (p0 + o0) s0 h117 n0 Zn f_O_b117 ge_b117) (by decide) (by decide) (by decide) (by decide) (fun v120 T120 L120 X120 hQ120 => ?_)
  obtain ⟨rfl, Nq120, K120, O120⟩ := hQ120
  have N120 := Fr.app N0 Nq120
  have f_V_oa := f_V_oa.keep K120 (ninS ne_oa_b117 nin0)
  have f_V_sa := f_V_sa.keep K120 (ninS ne_sa_b117 nin0)
  have f_V_b116 := f_V_b116.keep K120 (ninS ne_b116_b117 nin0)
  have Zn := Nat.le_trans Zn K120.1
  show own_End p e below _ (T120.setTop (mkF m 174 _ [(.ref b117), (.int (0 : Int32)), (.ref b116)]))
  obtain ⟨cl121, Ar121, q121, S121, M121, H121, G121⟩ := id f_V_b116
  have hin121 : ¬ ((0 : Int32) < 0 ∨ cl121.slots.size ≤ ((0 : Int32)).toNatClampNeg) := inb_of S121 ⟨by decide, by decide⟩
  refine own_stR X120 hx hZ hby rfl Ar121 hin121 rfl (Sto.ofV Ar121 q121 O116 (Ins.self O120.1)) at_174 (pc' := 175) rfl (fun T122 h122 X122 e122 W122 => ?_)
  have f_V_b116 := Arv.set Ar121 q121 S121 M121 H121 G121 rfl W122 0 rfl (Nat.le_of_ble_eq_true rfl)
  have f_V_b116 : Arv Z h122 b116 k116 (.object "com/example/earnest_reactor/earnestreactor/core/ScheduledTask") (3 : Int32) [(.ref b117), .null, .null] .null := f_V_b116
  have f_V_oa := f_V_oa.other W122 ne_oa_b116
  have f_V_sa := f_V_sa.other W122 ne_sa_b116
  have O120 := O120.other W122 (Ne.symm ne_b116_b117)
  have Zn := Nat.le_trans Zn (Keep.of_wr W122).1
  have N122 := Fr.snoc X122 N120 ge_b116
  refine own_aload X122 hx hby at_175 (pc' := 177) rfl rfl rfl ?_
  refine own_iconst X122 hx hby at_177 (pc' := 178) rfl (n := (1 : Int32)) (by decide) ?_
  refine own_new X122 hx hZ hby hown (wd_4 hw) (wd_6 hw) (wd_7 hw) e122 at_178 (pc' := 181) rfl (by decide) (by decide) (fun T123 h123 b123 g123 X123 e123 E123 A123 D123 => ?_)
  have ne_oa_b123 : oa ≠ b123 := Nat.ne_of_lt (by rw [g123]; exact f_V_oa.lt)
  have ne_sa_b123 : sa ≠ b123 := Nat.ne_of_lt (by rw [g123]; exact f_V_sa.lt)
  have ne_b116_b123 : b116 ≠ b123 := Nat.ne_of_lt (by rw [g123]; exact f_V_b116.lt)
  have ne_b117_b123 : b117 ≠ b123 := Nat.ne_of_lt (by rw [g123]; exact O120.lt)
  have ge_b123 : n0 ≤ b123 := by rw [g123]; exact Zn
  have f_V_oa := f_V_oa.ext E123
  have f_V_sa := f_V_sa.ext E123
  have f_V_b116 := f_V_b116.ext E123
  have O120 := O120.ext E123
  have Zn := Nat.le_trans Zn E123.1
  have f_O_b123 : own_TK Z h123 b123 .null (0 : Int64) (0 : Int64) .null (0 : Int32) := ⟨A123, D123 (Or.inr (wd_17 hw)) (ty := (.object "com/example/earnest_reactor/earnestreactor/core/EventLoop")) (by decide), D123 (Or.inr (wd_19 hw)) (ty := .long) (by decide), D123 (Or.inr (wd_21 hw)) (ty := .long) (by decide), D123 (Or.inr (wd_23 hw)) (ty := (.object "java/lang/Runnable")) (by decide), D123 (Or.inl (wd_15 hw)) (ty := .int) (by decide)⟩
  refine own_dup X123 hx hby at_181 (pc' := 182) rfl rfl ?_
  refine own_aconst_null X123 hx hby at_182 (pc' := 183) rfl ?_
  refine own_lloadN X123 hx hby at_183 (pc' := 184) rfl rfl ?_
  refine own_aload X123 hx hby at_184 (pc' := 186) rfl rfl rfl ?_
  refine own_iconst X123 hx hby at_186 (pc' := 187) rfl (n := (1 : Int32)) (by decide) ?_
  obtain ⟨cl124, Ar124, q124, S124, M124, H124, G124⟩ := id f_V_oa
  have hin124 : ¬ ((1 : Int32) < 0 ∨ cl124.slots.size ≤ ((1 : Int32)).toNatClampNeg) := inb_of S124 ⟨by decide, by decide⟩
  have hat124 : cl124.slots[((1 : Int32)).toNatClampNeg]? = some (.long o1) := H124.at hin124 rfl
  refine own_laload X123 hx hZ hby e123 Ar124 hin124 hat124 at_187 (pc' := 188) rfl ?_
  refine own_ladd X123 hx hby at_188 (pc' := 189) rfl ?_
  refine own_aload X123 hx hby at_189 (pc' := 191) rfl rfl rfl ?_
  refine own_iconst X123 hx hby at_191 (pc' := 192) rfl (n := (1 : Int32)) (by decide) ?_
  obtain ⟨cl125, Ar125, q125, S125, M125, H125, G125⟩ := id f_V_sa
  have hin125 : ¬ ((1 : Int32) < 0 ∨ cl125.slots.size ≤ ((1 : Int32)).toNatClampNeg) := inb_of S125 ⟨by decide, by decide⟩
  have hat125 : cl125.slots[((1 : Int32)).toNatClampNeg]? = some (.long s1) := H125.at hin125 rfl
  refine own_laload X123 hx hZ hby e123 Ar125 hin125 hat125 at_192 (pc' := 193) rfl ?_
  refine own_aconst_null X123 hx hby at_193 (pc' := 194) rfl ?_
  refine own_lk12 hw X123 hx hZ hby (by rw [hml]; rfl) hown at_194 (pc' := 197) rfl e123 (W := 3) (Nat.le_of_eq rfl) (rmNT l Z a0 hw [] b123 (p0 + o1) s1 h123 n0 Zn f_O_b123 ge_b123) (by decide) (by decide) (by decide) (by decide) (fun v126 T126 L126 X126 hQ126 => ?_)
  obtain ⟨rfl, Nq126, K126, O126⟩ := hQ126
  have N126 := Fr.app N122 Nq126
  have f_V_oa := f_V_oa.keep K126 (ninS ne_oa_b123 nin0)
  have f_V_sa := f_V_sa.keep K126 (ninS ne_sa_b123 nin0)
  have f_V_b116 := f_V_b116.keep K126 (ninS ne_b116_b123 nin0)
  have O120 := O120.keep K126 (ninS ne_b117_b123 nin0)
  have Zn := Nat.le_trans Zn K126.1
  show own_End p e below _ (T126.setTop (mkF m 197 _ [(.ref b123), (.int (1 : Int32)), (.ref b116)]))
  obtain ⟨cl127, Ar127, q127, S127, M127, H127, G127⟩ := id f_V_b116
  have hin127 : ¬ ((1 : Int32) < 0 ∨ cl127.slots.size ≤ ((1 : Int32)).toNatClampNeg) := inb_of S127 ⟨by decide, by decide⟩
  refine own_stR X126 hx hZ hby rfl Ar127 hin127 rfl (Sto.ofV Ar127 q127 O116 (Ins.self O126.1)) at_197 (pc' := 198) rfl (fun T128 h128 X128 e128 W128 => ?_)
  have f_V_b116 := Arv.set Ar127 q127 S127 M127 H127 G127 rfl W128 1 rfl (Nat.le_of_ble_eq_true rfl)
  have f_V_b116 : Arv Z h128 b116 k116 (.object "com/example/earnest_reactor/earnestreactor/core/ScheduledTask") (3 : Int32) [(.ref b117), (.ref b123), .null] .null := f_V_b116
  have f_V_oa := f_V_oa.other W128 ne_oa_b116
  have f_V_sa := f_V_sa.other W128 ne_sa_b116
  have O120 := O120.other W128 (Ne.symm ne_b116_b117)
  have O126 := O126.other W128 (Ne.symm ne_b116_b123)
  have Zn := Nat.le_trans Zn (Keep.of_wr W128).1
  have N128 := Fr.snoc X128 N126 ge_b116
  refine own_aload X128 hx hby at_198 (pc' := 200) rfl rfl rfl ?_
  refine own_iconst X128 hx hby at_200 (pc' := 201) rfl (n := (2 : Int32)) (by decide) ?_
  refine own_new X128 hx hZ hby hown (wd_4 hw) (wd_6 hw) (wd_7 hw) e128 at_201 (pc' := 204) rfl (by decide) (by decide) (fun T129 h129 b129 g129 X129 e129 E129 A129 D129 => ?_)
  have ne_oa_b129 : oa ≠ b129 := Nat.ne_of_lt (by rw [g129]; exact f_V_oa.lt)
  have ne_sa_b129 : sa ≠ b129 := Nat.ne_of_lt (by rw [g129]; exact f_V_sa.lt)
  have ne_b116_b129 : b116 ≠ b129 := Nat.ne_of_lt (by rw [g129]; exact f_V_b116.lt)
  have ne_b117_b129 : b117 ≠ b129 := Nat.ne_of_lt (by rw [g129]; exact O120.lt)
  have ne_b123_b129 : b123 ≠ b129 := Nat.ne_of_lt (by rw [g129]; exact O126.lt)
  have ge_b129 : n0 ≤ b129 := by rw [g129]; exact Zn
  have f_V_oa := f_V_oa.ext E129
  have f_V_sa := f_V_sa.ext E129
  have f_V_b116 := f_V_b116.ext E129
  have O120 := O120.ext E129
  have O126 := O126.ext E129
  have Zn := Nat.le_trans Zn E129.1
  have f_O_b129 : own_TK Z h129 b129 .null (0 : Int64) (0 : Int64) .null (0 : Int32) := ⟨A129, D129 (Or.inr (wd_17 hw)) (ty := (.object "com/example/earnest_reactor/earnestreactor/core/EventLoop")) (by decide), D129 (Or.inr (wd_19 hw)) (ty := .long) (by decide), D129 (Or.inr (wd_21 hw)) (ty := .long) (by decide), D129 (Or.inr (wd_23 hw)) (ty := (.object "java/lang/Runnable")) (by decide), D129 (Or.inl (wd_15 hw)) (ty := .int) (by decide)⟩
  refine own_dup X129 hx hby at_204 (pc' := 205) rfl rfl ?_
  refine own_aconst_null X129 hx hby at_205 (pc' := 206) rfl ?_
  refine own_lloadN X129 hx hby at_206 (pc' := 207) rfl rfl ?_
  refine own_aload X129 hx hby at_207 (pc' := 209) rfl rfl rfl ?_
  refine own_iconst X129 hx hby at_209 (pc' := 210) rfl (n := (2 : Int32)) (by decide) ?_
  obtain ⟨cl130, Ar130, q130, S130, M130, H130, G130⟩ := id f_V_oa
  have hin130 : ¬ ((2 : Int32) < 0 ∨ cl130.slots.size ≤ ((2 : Int32)).toNatClampNeg) := inb_of S130 ⟨by decide, by decide⟩
  have hat130 : cl130.slots[((2 : Int32)).toNatClampNeg]? = some (.long o2) := H130.at hin130 rfl
  refine own_laload X129 hx hZ hby e129 Ar130 hin130 hat130 at_210 (pc' := 211) rfl ?_
  refine own_ladd X129 hx hby at_211 (pc' := 212) rfl ?_
  refine own_aload X129 hx hby at_212 (pc' := 214) rfl rfl rfl ?_
  refine own_iconst X129 hx hby at_214 (pc' := 215) rfl (n := (2 : Int32)) (by decide) ?_
  obtain ⟨cl131, Ar131, q131, S131, M131, H131, G131⟩ := id f_V_sa
  have hin131 : ¬ ((2 : Int32) < 0 ∨ cl131.slots.size ≤ ((2 : Int32)).toNatClampNeg) := inb_of S131 ⟨by decide, by decide⟩
  have hat131 : cl131.slots[((2 : Int32)).toNatClampNeg]? = some (.long s2) := H131.at hin131 rfl
  refine own_laload X129 hx hZ hby e129 Ar131 hin131 hat131 at_215 (pc' := 216) rfl ?_
  refine own_aconst_null X129 hx hby at_216 (pc' := 217) rfl ?_
  refine own_lk12 hw X129 hx hZ hby (by rw [hml]; rfl) hown at_217 (pc' := 220) rfl e129 (W := 3) (Nat.le_of_eq rfl) (rmNT l Z a0 hw [] b129 (p0 + o2) s2 h129 n0 Zn f_O_b129 ge_b129) (by decide) (by decide) (by decide) (by decide) (fun v132 T132 L132 X132 hQ132 => ?_)
  obtain ⟨rfl, Nq132, K132, O132⟩ := hQ132
  have N132 := Fr.app N128 Nq132
  have f_V_oa := f_V_oa.keep K132 (ninS ne_oa_b129 nin0)
  have f_V_sa := f_V_sa.keep K132 (ninS ne_sa_b129 nin0)
  have f_V_b116 := f_V_b116.keep K132 (ninS ne_b116_b129 nin0)
  have O120 := O120.keep K132 (ninS ne_b117_b129 nin0)
  have O126 := O126.keep K132 (ninS ne_b123_b129 nin0)
  have Zn := Nat.le_trans Zn K132.1
  show own_End p e below _ (T132.setTop (mkF m 220 _ [(.ref b129), (.int (2 : Int32)), (.ref b116)]))
  obtain ⟨cl133, Ar133, q133, S133, M133, H133, G133⟩ := id f_V_b116
  have hin133 : ¬ ((2 : Int32) < 0 ∨ cl133.slots.size ≤ ((2 : Int32)).toNatClampNeg) := inb_of S133 ⟨by decide, by decide⟩
  refine own_stR X132 hx hZ hby rfl Ar133 hin133 rfl (Sto.ofV Ar133 q133 O116 (Ins.self O132.1)) at_220 (pc' := 221) rfl (fun T134 h134 X134 e134 W134 => ?_)
  have f_V_b116 := Arv.set Ar133 q133 S133 M133 H133 G133 rfl W134 2 rfl (Nat.le_of_ble_eq_true rfl)
  have f_V_b116 : Arv Z h134 b116 k116 (.object "com/example/earnest_reactor/earnestreactor/core/ScheduledTask") (3 : Int32) [(.ref b117), (.ref b123), (.ref b129)] .null := f_V_b116
  have f_V_oa := f_V_oa.other W134 ne_oa_b116
  have f_V_sa := f_V_sa.other W134 ne_sa_b116
  have O120 := O120.other W134 (Ne.symm ne_b116_b117)
  have O126 := O126.other W134 (Ne.symm ne_b116_b123)
  have O132 := O132.other W134 (Ne.symm ne_b116_b129)
  have Zn := Nat.le_trans Zn (Keep.of_wr W134).1
  have N134 := Fr.snoc X134 N132 ge_b116
  refine own_new X134 hx hZ hby hown (wd_25 hw) (wd_26 hw) (wd_27 hw) e134 at_221 (pc' := 224) rfl (by decide) (by decide) (fun T135 h135 b135 g135 X135 e135 E135 A135 D135 => ?_)
  have ne_oa_b135 : oa ≠ b135 := Nat.ne_of_lt (by rw [g135]; exact f_V_oa.lt)
  have ne_sa_b135 : sa ≠ b135 := Nat.ne_of_lt (by rw [g135]; exact f_V_sa.lt)
  have ne_b116_b135 : b116 ≠ b135 := Nat.ne_of_lt (by rw [g135]; exact f_V_b116.lt)
  have ne_b117_b135 : b117 ≠ b135 := Nat.ne_of_lt (by rw [g135]; exact O120.lt)
  have ne_b123_b135 : b123 ≠ b135 := Nat.ne_of_lt (by rw [g135]; exact O126.lt)
  have ne_b129_b135 : b129 ≠ b135 := Nat.ne_of_lt (by rw [g135]; exact O132.lt)
  have ge_b135 : n0 ≤ b135 := by rw [g135]; exact Zn
  have f_V_oa := f_V_oa.ext E135
  have f_V_sa := f_V_sa.ext E135
  have f_V_b116 := f_V_b116.ext E135
  have O120 := O120.ext E135
  have O126 := O126.ext E135
  have O132 := O132.ext E135
  have Zn := Nat.le_trans Zn E135.1
  have f_O_b135 : own_TQ Z h135 b135 .null (0 : Int32) := ⟨A135, D135 (Or.inl (wd_34 hw)) (ty := (.array (.object "com/example/earnest_reactor/earnestreactor/core/ScheduledTask"))) (by decide), D135 (Or.inl (wd_50 hw)) (ty := .int) (by decide)⟩
  refine own_dup X135 hx hby at_224 (pc' := 225) rfl rfl ?_
  have lt_oa := f_V_oa.lt
  have lt_sa := f_V_sa.lt
  have lt_b116 := f_V_b116.lt
  have lt_b117 := O120.lt
  have lt_b123 := O126.lt
  have lt_b129 := O132.lt
  have lt_b135 := f_O_b135.lt
  have Zold := Zn
  refine own_lk13 hw X135 hx hZ hby (by rw [hml]; rfl) hown at_225 (pc' := 228) rfl e135 (W := 1) (Nat.le_of_eq rfl) (rmNQ l Z a0 hw [] b135 h135 n0 Zn f_O_b135 ge_b135) (by decide) (by decide) (by decide) (by decide) (fun v137 T137 L137 X137 hQ137 => ?_)
  obtain ⟨rfl, Nq137, K137, w136, kk136, gw137, O137, V137, ov137⟩ := hQ137
  have N137 := Fr.app N134 Nq137
  have f_V_oa := f_V_oa.keep K137 (ninS ne_oa_b135 nin0)
  have f_V_sa := f_V_sa.keep K137 (ninS ne_sa_b135 nin0)
  have f_V_b116 := f_V_b116.keep K137 (ninS ne_b116_b135 nin0)
  have O120 := O120.keep K137 (ninS ne_b117_b135 nin0)
  have O126 := O126.keep K137 (ninS ne_b123_b135 nin0)
  have O132 := O132.keep K137 (ninS ne_b129_b135 nin0)
  have Zn := Nat.le_trans Zn K137.1
  have ne_oa_w136 : oa ≠ w136 := Nat.ne_of_lt (Nat.lt_of_lt_of_le lt_oa gw137)
  have ne_sa_w136 : sa ≠ w136 := Nat.ne_of_lt (Nat.lt_of_lt_of_le lt_sa gw137)
  have ne_b116_w136 : b116 ≠ w136 := Nat.ne_of_lt (Nat.lt_of_lt_of_le lt_b116 gw137)
  have ne_b117_w136 : b117 ≠ w136 := Nat.ne_of_lt (Nat.lt_of_lt_of_le lt_b117 gw137)
  have ne_b123_w136 : b123 ≠ w136 := Nat.ne_of_lt (Nat.lt_of_lt_of_le lt_b123 gw137)
  have ne_b129_w136 : b129 ≠ w136 := Nat.ne_of_lt (Nat.lt_of_lt_of_le lt_b129 gw137)
  have ne_b135_w136 : b135 ≠ w136 := Nat.ne_of_lt (Nat.lt_of_lt_of_le lt_b135 gw137)
  have ge_w136 : n0 ≤ w136 := Nat.le_trans Zold gw137
  show own_End p e below _ (T137.setTop (mkF m 228 _ [(.ref b135)]))
  refine own_astore X137 hx hby at_228 (pc' := 230) rfl rfl (l' := #[.val (.long p0), .second, .val (.long p1), .second, .val (.long p2), .second, .val (.long p3), .second, .val (.int p4), .val (.int p5), .val (.int n), .val (.ref oa), .val (.int pm), .val (.ref sa), .val (.long lo), .second, .val (.long hi), .second, .val (.int sw), .val (.ref b116), .val (.ref b135), .unset, .unset, .unset, .unset, .unset]) rfl ?_
  exact own_s230 Z a0 hw p0 p1 p2 p3 p4 p5 oa sa ko ks o0 o1 o2 s0 s1 s2 n pm lo hi sw b116 k116 b117 b123 b129 b135 w136 kk136  h0 n0 T137.heap (own_mono X137 (by decide) (by decide)) hx hby hlk hml hown hret hZ rfl N137 Zn  f_V_oa f_V_sa f_V_b116 hb0 hb1 hb2 hs01 hs02 hs12 hn O137 V137 ov137 ge_b135 ge_w136 ne_b116_w136 ne_oa_w136 ne_sa_w136 O120 O126 O132 ge_b117 ge_b123 ge_b129 ne_b117_b123 ne_b117_b129 ne_b123_b129
set_option maxRecDepth 65536 in
set_option maxHeartbeats 40000000 in
theorem rm0 (l : Launch) (Z : State) (a0 : Array Value) (hw : ∀ d ∈ tables_1, d.before a0 Z = true) (ws : List Jvm.Cond) (p0 : Int64) (p1 : Int64) (p2 : Int64) (p3 : Int64) (p4 : Int32) (p5 : Int32) (h0 : Heap) (n0 : Nat) (Z0 : n0 ≤ h0.size)  :
    MetFree l x (head1 (Jvm.Cond.code x code maxLocals ret :: ws) room_1) (fun aa U => aa = #[(.long p0), (.long p1), (.long p2), (.long p3), (.int p4), (.int p5)] ∧ Z.Warmed39 U.vm ∧ U.heap = h0) (fun _ _ _ _ _ => True) (fun _ U oc U' => ∃ v L, oc = .returned v ∧ Q0 Z p0 p1 p2 p3 p4 p5 h0 n0 v U'.heap L ∧ FrameEnd U oc U' L room_1.cells room_1.slots) := by
  refine MetFree.of_bodySF (plainFor_of_name own_pn5) hisR ?_
  intro p e s m args below meth c s₁ Bd hml0 hP hK
  obtain ⟨rfl, hZ, hh⟩ := hP
  have hx := Bd.exec
  have hby := Bd.bytes
  have hlk := Bd.notSynchronized
  have hret := Bd.returns
  have hml : c.maxLocals = 26 := hml0
  have hown : s.vm.findClass "com/example/earnest_reactor/earnestreactor/core/TimerQueuePollPinLaw" = some m.cls := findClass_of_methodNamed Bd.named
  have hnm := (name_of_methodNamed Bd.named Bd.method).1
  have X0 : Stand p l e room_1 s m #[(.long p0), (.long p1), (.long p2), (.long p3), (.int p4), (.int p5)] below meth c s₁ [] 0 0 := Stand.of_body Bd
  have e0 : s₁.heap = h0 := by rw [← hh, Bd.state]; rfl
  have N0 := Fr.nil n0
  refine own_body (Q := Q0 Z p0 p1 p2 p3 p4 p5 h0 n0) (KC := room_1.cells) (KS := room_1.slots) ?_
  rw [own_ef_rm0 m p0 p1 p2 p3 p4 p5]
  refine own_iload X0 hx hby at_0 (pc' := 2) rfl rfl ?_
  refine own_iconst X0 hx hby at_2 (pc' := 3) rfl (n := (3 : Int32)) (by decide) ?_
  refine own_iand X0 hx hby at_3 (pc' := 4) rfl ?_
  refine own_istore X0 hx hby at_4 (pc' := 6) rfl (l' := #[.val (.long p0), .second, .val (.long p1), .second, .val (.long p2), .second, .val (.long p3), .second, .val (.int p4), .val (.int p5), .val (.int (p5 &&& (3 : Int32))), .unset, .unset, .unset, .unset, .unset, .unset, .unset, .unset, .unset, .unset, .unset, .unset, .unset, .unset, .unset]) rfl ?_
  refine own_iconst X0 hx hby at_6 (pc' := 7) rfl (n := (3 : Int32)) (by decide) ?_
  refine own_newP (aty := .long) X0 hx hZ hby (wd_0 hw) e0 at_7 (pc' := 9) rfl (by decide) (cap := 3) (by decide) (by decide) (by decide) (by decide) (fun T138 h138 k138 b138 g138 X138 e138 E138 A138 => ?_)
  have ge_b138 : n0 ≤ b138 := by rw [g138]; exact Z0
  have Zn := Nat.le_trans Z0 E138.1
  have f_V_b138 : Arv Z h138 b138 k138 .long (3 : Int32) [(.long (0 : Int64)), (.long (0 : Int64)), (.long (0 : Int64))] (.long (0 : Int64)) := (Arv.new A138 (by decide)).pad (pad_rep [] (.long (0 : Int64)) 3)
  refine own_astore X138 hx hby at_9 (pc' := 11) rfl rfl (l' := #[.val (.long p0), .second, .val (.long p1), .second, .val (.long p2), .second, .val (.long p3), .second, .val (.int p4), .val (.int p5), .val (.int (p5 &&& (3 : Int32))), .val (.ref b138), .unset, .unset, .unset, .unset, .unset, .unset, .unset, .unset, .unset, .unset, .unset, .unset, .unset, .unset]) rfl ?_
  refine own_aload X138 hx hby at_11 (pc' := 13) rfl rfl rfl ?_
  refine own_iconst X138 hx hby at_13 (pc' := 14) rfl (n := (0 : Int32)) (by decide) ?_
  refine own_lloadN X138 hx hby at_14 (pc' := 15) rfl rfl ?_
  refine own_ldc2Long X138 hx hZ hby hown (wd_1 hw) at_15 (pc' := 18) rfl ?_
  refine own_land X138 hx hby at_18 (pc' := 19) rfl ?_
  obtain ⟨cl139, Ar139, q139, S139, M139, H139, G139⟩ := id f_V_b138
  have hin139 : ¬ ((0 : Int32) < 0 ∨ cl139.slots.size ≤ ((0 : Int32)).toNatClampNeg) := inb_of S139 ⟨by decide, by decide⟩
  refine own_lastore X138 hx hZ hby e138 Ar139 hin139 at_19 (pc' := 20) rfl (fun T140 h140 X140 e140 W140 => ?_)
  have f_V_b138 := Arv.set Ar139 q139 S139 M139 H139 G139 rfl W140 0 rfl (Nat.le_of_ble_eq_true rfl)
  have f_V_b138 : Arv Z h140 b138 k138 .long (3 : Int32) [(.long (p1 &&& (4611686018427387903 : Int64))), (.long (0 : Int64)), (.long (0 : Int64))] (.long (0 : Int64)) := f_V_b138
  have Zn := Nat.le_trans Zn (Keep.of_wr W140).1
  have N140 := Fr.snoc X140 N0 ge_b138
  refine own_aload X140 hx hby at_20 (pc' := 22) rfl rfl rfl ?_
  refine own_iconst X140 hx hby at_22 (pc' := 23) rfl (n := (1 : Int32)) (by decide) ?_
  refine own_lload X140 hx hby at_23 (pc' := 25) rfl rfl ?_
  refine own_ldc2Long X140 hx hZ hby hown (wd_1 hw) at_25 (pc' := 28) rfl ?_
  refine own_land X140 hx hby at_28 (pc' := 29) rfl ?_
  obtain ⟨cl141, Ar141, q141, S141, M141, H141, G141⟩ := id f_V_b138
  have hin141 : ¬ ((1 : Int32) < 0 ∨ cl141.slots.size ≤ ((1 : Int32)).toNatClampNeg) := inb_of S141 ⟨by decide, by decide⟩
  refine own_lastore X140 hx hZ hby e140 Ar141 hin141 at_29 (pc' := 30) rfl (fun T142 h142 X142 e142 W142 => ?_)
  have f_V_b138 := Arv.set Ar141 q141 S141 M141 H141 G141 rfl W142 1 rfl (Nat.le_of_ble_eq_true rfl)
  have f_V_b138 : Arv Z h142 b138 k138 .long (3 : Int32) [(.long (p1 &&& (4611686018427387903 : Int64))), (.long (p2 &&& (4611686018427387903 : Int64))), (.long (0 : Int64))] (.long (0 : Int64)) := f_V_b138
  have Zn := Nat.le_trans Zn (Keep.of_wr W142).1
  have N142 := Fr.snoc X142 N140 ge_b138
  refine own_aload X142 hx hby at_30 (pc' := 32) rfl rfl rfl ?_
  refine own_iconst X142 hx hby at_32 (pc' := 33) rfl (n := (2 : Int32)) (by decide) ?_
  refine own_lload X142 hx hby at_33 (pc' := 35) rfl rfl ?_
  refine own_ldc2Long X142 hx hZ hby hown (wd_1 hw) at_35 (pc' := 38) rfl ?_
  refine own_land X142 hx hby at_38 (pc' := 39) rfl ?_
  obtain ⟨cl143, Ar143, q143, S143, M143, H143, G143⟩ := id f_V_b138
  have hin143 : ¬ ((2 : Int32) < 0 ∨ cl143.slots.size ≤ ((2 : Int32)).toNatClampNeg) := inb_of S143 ⟨by decide, by decide⟩
  refine own_lastore X142 hx hZ hby e142 Ar143 hin143 at_39 (pc' := 40) rfl (fun T144 h144 X144 e144 W144 => ?_)
  have f_V_b138 := Arv.set Ar143 q143 S143 M143 H143 G143 rfl W144 2 rfl (Nat.le_of_ble_eq_true rfl)
  have f_V_b138 : Arv Z h144 b138 k138 .long (3 : Int32) [(.long (p1 &&& (4611686018427387903 : Int64))), (.long (p2 &&& (4611686018427387903 : Int64))), (.long (p3 &&& (4611686018427387903 : Int64)))] (.long (0 : Int64)) := f_V_b138
  have Zn := Nat.le_trans Zn (Keep.of_wr W144).1
  have N144 := Fr.snoc X144 N142 ge_b138
  refine own_iload X144 hx hby at_40 (pc' := 42) rfl rfl ?_
  refine own_ldcInt X144 hx hZ hby hown (wd_2 hw) at_42 (pc' := 44) rfl ?_
  refine own_iand X144 hx hby at_44 (pc' := 45) rfl ?_
  refine own_bipush X144 hx hby at_45 (pc' := 47) rfl (n := (6 : Int32)) (by decide) ?_
  refine own_irem X144 hx hby at_47 (pc' := 48) rfl (by decide) ?_
  rcases own_r6 p4 with hs145 | hs145 | hs145 | hs145 | hs145 | hs145
  · rw [hs145]
    show own_End p e below _ (T144.setTop (mkF m 48 #[.val (.long p0), .second, .val (.long p1), .second, .val (.long p2), .second, .val (.long p3), .second, .val (.int p4), .val (.int p5), .val (.int (p5 &&& (3 : Int32))), .val (.ref b138), .unset, .unset, .unset, .unset, .unset, .unset, .unset, .unset, .unset, .unset, .unset, .unset, .unset, .unset] [(.int (0 : Int32))]))
    refine own_istore X144 hx hby at_48 (pc' := 50) rfl (l' := #[.val (.long p0), .second, .val (.long p1), .second, .val (.long p2), .second, .val (.long p3), .second, .val (.int p4), .val (.int p5), .val (.int (p5 &&& (3 : Int32))), .val (.ref b138), .val (.int (0 : Int32)), .unset, .unset, .unset, .unset, .unset, .unset, .unset, .unset, .unset, .unset, .unset, .unset, .unset]) rfl ?_
    refine own_iconst X144 hx hby at_50 (pc' := 51) rfl (n := (3 : Int32)) (by decide) ?_
    refine own_newP (aty := .long) X144 hx hZ hby (wd_0 hw) e144 at_51 (pc' := 53) rfl (by decide) (cap := 3) (by decide) (by decide) (by decide) (by decide) (fun T146 h146 k146 b146 g146 X146 e146 E146 A146 => ?_)
    have ne_b138_b146 : b138 ≠ b146 := Nat.ne_of_lt (by rw [g146]; exact f_V_b138.lt)
    have ge_b146 : n0 ≤ b146 := by rw [g146]; exact Zn
    have f_V_b138 := f_V_b138.ext E146
    have Zn := Nat.le_trans Zn E146.1
    have f_V_b146 : Arv Z h146 b146 k146 .long (3 : Int32) [(.long (0 : Int64)), (.long (0 : Int64)), (.long (0 : Int64))] (.long (0 : Int64)) := (Arv.new A146 (by decide)).pad (pad_rep [] (.long (0 : Int64)) 3)
    refine own_astore X146 hx hby at_53 (pc' := 55) rfl rfl (l' := #[.val (.long p0), .second, .val (.long p1), .second, .val (.long p2), .second, .val (.long p3), .second, .val (.int p4), .val (.int p5), .val (.int (p5 &&& (3 : Int32))), .val (.ref b138), .val (.int (0 : Int32)), .val (.ref b146), .unset, .unset, .unset, .unset, .unset, .unset, .unset, .unset, .unset, .unset, .unset, .unset]) rfl ?_
    refine own_aload X146 hx hby at_55 (pc' := 57) rfl rfl rfl ?_
    refine own_iconst X146 hx hby at_57 (pc' := 58) rfl (n := (0 : Int32)) (by decide) ?_
    refine own_iload X146 hx hby at_58 (pc' := 60) rfl rfl ?_
    refine own_iconst X146 hx hby at_60 (pc' := 61) rfl (n := (2 : Int32)) (by decide) ?_
    refine own_idiv X146 hx hby at_61 (pc' := 62) rfl (by decide) ?_
    show own_End p e below _ (T146.setTop (mkF m 62 #[.val (.long p0), .second, .val (.long p1), .second, .val (.long p2), .second, .val (.long p3), .second, .val (.int p4), .val (.int p5), .val (.int (p5 &&& (3 : Int32))), .val (.ref b138), .val (.int (0 : Int32)), .val (.ref b146), .unset, .unset, .unset, .unset, .unset, .unset, .unset, .unset, .unset, .unset, .unset, .unset] [(.int (0 : Int32)), (.int (0 : Int32)), (.ref b146)]))
    refine own_i2l X146 hx hby at_62 (pc' := 63) rfl ?_
    show own_End p e below _ (T146.setTop (mkF m 63 #[.val (.long p0), .second, .val (.long p1), .second, .val (.long p2), .second, .val (.long p3), .second, .val (.int p4), .val (.int p5), .val (.int (p5 &&& (3 : Int32))), .val (.ref b138), .val (.int (0 : Int32)), .val (.ref b146), .unset, .unset, .unset, .unset, .unset, .unset, .unset, .unset, .unset, .unset, .unset, .unset] [(.long (0 : Int64)), (.int (0 : Int32)), (.ref b146)]))
    obtain ⟨cl147, Ar147, q147, S147, M147, H147, G147⟩ := id f_V_b146
    have hin147 : ¬ ((0 : Int32) < 0 ∨ cl147.slots.size ≤ ((0 : Int32)).toNatClampNeg) := inb_of S147 ⟨by decide, by decide⟩
    refine own_lastore X146 hx hZ hby e146 Ar147 hin147 at_63 (pc' := 64) rfl (fun T148 h148 X148 e148 W148 => ?_)
    have f_V_b146 := Arv.set Ar147 q147 S147 M147 H147 G147 rfl W148 0 rfl (Nat.le_of_ble_eq_true rfl)
    have f_V_b146 : Arv Z h148 b146 k146 .long (3 : Int32) [(.long (0 : Int64)), (.long (0 : Int64)), (.long (0 : Int64))] (.long (0 : Int64)) := f_V_b146
    have f_V_b138 := f_V_b138.other W148 ne_b138_b146
    have Zn := Nat.le_trans Zn (Keep.of_wr W148).1
    have N148 := Fr.snoc X148 N144 ge_b146
    refine own_aload X148 hx hby at_64 (pc' := 66) rfl rfl rfl ?_
    refine own_iconst X148 hx hby at_66 (pc' := 67) rfl (n := (0 : Int32)) (by decide) ?_
    obtain ⟨cl149, Ar149, q149, S149, M149, H149, G149⟩ := id f_V_b146
    have hin149 : ¬ ((0 : Int32) < 0 ∨ cl149.slots.size ≤ ((0 : Int32)).toNatClampNeg) := inb_of S149 ⟨by decide, by decide⟩
    have hat149 : cl149.slots[((0 : Int32)).toNatClampNeg]? = some (.long (0 : Int64)) := H149.at hin149 rfl
    refine own_laload X148 hx hZ hby e148 Ar149 hin149 hat149 at_67 (pc' := 68) rfl ?_
    refine own_lconst X148 hx hby at_68 (pc' := 69) rfl (n := (0 : Int64)) (by decide) ?_
    refine own_lcmp X148 hx hby at_69 (pc' := 70) rfl ?_
    refine own_ifN X148 hx hby at_70 (pc' := 73) rfl (own_ctL_n (show (0 : Int64) = (0 : Int64) by decide)) ?_
    refine own_lconst X148 hx hby at_73 (pc' := 74) rfl (n := (1 : Int64)) (by decide) ?_
    refine own_goto X148 hx hby at_74 (pc' := 78) (by decide) (by decide) ?_
    refine own_lstore X148 hx hby at_78 (pc' := 80) rfl (l' := #[.val (.long p0), .second, .val (.long p1), .second, .val (.long p2), .second, .val (.long p3), .second, .val (.int p4), .val (.int p5), .val (.int (p5 &&& (3 : Int32))), .val (.ref b138), .val (.int (0 : Int32)), .val (.ref b146), .val (.long (1 : Int64)), .second, .unset, .unset, .unset, .unset, .unset, .unset, .unset, .unset, .unset, .unset]) rfl ?_
    refine own_aload X148 hx hby at_80 (pc' := 82) rfl rfl rfl ?_
    refine own_iconst X148 hx hby at_82 (pc' := 83) rfl (n := (0 : Int32)) (by decide) ?_
    obtain ⟨cl150, Ar150, q150, S150, M150, H150, G150⟩ := id f_V_b146
    have hin150 : ¬ ((0 : Int32) < 0 ∨ cl150.slots.size ≤ ((0 : Int32)).toNatClampNeg) := inb_of S150 ⟨by decide, by decide⟩
    have hat150 : cl150.slots[((0 : Int32)).toNatClampNeg]? = some (.long (0 : Int64)) := H150.at hin150 rfl
    refine own_laload X148 hx hZ hby e148 Ar150 hin150 hat150 at_83 (pc' := 84) rfl ?_
    refine own_ldc2Long X148 hx hZ hby hown (wd_3 hw) at_84 (pc' := 87) rfl ?_
    refine own_lcmp X148 hx hby at_87 (pc' := 88) rfl ?_
    refine own_ifY X148 hx hby at_88 (pc' := 95) (by decide) (by decide) (own_ctL_y (show ¬ (0 : Int64) = (2 : Int64) by decide)) ?_
    refine own_ldc2Long X148 hx hZ hby hown (wd_3 hw) at_95 (pc' := 98) rfl ?_
    refine own_lstore X148 hx hby at_98 (pc' := 100) rfl (l' := #[.val (.long p0), .second, .val (.long p1), .second, .val (.long p2), .second, .val (.long p3), .second, .val (.int p4), .val (.int p5), .val (.int (p5 &&& (3 : Int32))), .val (.ref b138), .val (.int (0 : Int32)), .val (.ref b146), .val (.long (1 : Int64)), .second, .val (.long (2 : Int64)), .second, .unset, .unset, .unset, .unset, .unset, .unset, .unset, .unset]) rfl ?_
    refine own_iload X148 hx hby at_100 (pc' := 102) rfl rfl ?_
    refine own_iconst X148 hx hby at_102 (pc' := 103) rfl (n := (2 : Int32)) (by decide) ?_
    refine own_irem X148 hx hby at_103 (pc' := 104) rfl (by decide) ?_
    show own_End p e below _ (T148.setTop (mkF m 104 #[.val (.long p0), .second, .val (.long p1), .second, .val (.long p2), .second, .val (.long p3), .second, .val (.int p4), .val (.int p5), .val (.int (p5 &&& (3 : Int32))), .val (.ref b138), .val (.int (0 : Int32)), .val (.ref b146), .val (.long (1 : Int64)), .second, .val (.long (2 : Int64)), .second, .unset, .unset, .unset, .unset, .unset, .unset, .unset, .unset] [(.int (0 : Int32))]))
    refine own_ifY X148 hx hby at_104 (pc' := 111) (by decide) (by decide) (show (0 : Int32) = (0 : Int32) by decide) ?_
    refine own_iconst X148 hx hby at_111 (pc' := 112) rfl (n := (0 : Int32)) (by decide) ?_
    refine own_istore X148 hx hby at_112 (pc' := 114) rfl (l' := #[.val (.long p0), .second, .val (.long p1), .second, .val (.long p2), .second, .val (.long p3), .second, .val (.int p4), .val (.int p5), .val (.int (p5 &&& (3 : Int32))), .val (.ref b138), .val (.int (0 : Int32)), .val (.ref b146), .val (.long (1 : Int64)), .second, .val (.long (2 : Int64)), .second, .val (.int (0 : Int32)), .unset, .unset, .unset, .unset, .unset, .unset, .unset]) rfl ?_
    refine own_aload X148 hx hby at_114 (pc' := 116) rfl rfl rfl ?_
    refine own_iconst X148 hx hby at_116 (pc' := 117) rfl (n := (1 : Int32)) (by decide) ?_
    refine own_iload X148 hx hby at_117 (pc' := 119) rfl rfl ?_
    refine own_ifY X148 hx hby at_119 (pc' := 127) (by decide) (by decide) (show (0 : Int32) = (0 : Int32) by decide) ?_
    refine own_lload X148 hx hby at_127 (pc' := 129) rfl rfl ?_
    obtain ⟨cl151, Ar151, q151, S151, M151, H151, G151⟩ := id f_V_b146
    have hin151 : ¬ ((1 : Int32) < 0 ∨ cl151.slots.size ≤ ((1 : Int32)).toNatClampNeg) := inb_of S151 ⟨by decide, by decide⟩
    refine own_lastore X148 hx hZ hby e148 Ar151 hin151 at_129 (pc' := 130) rfl (fun T152 h152 X152 e152 W152 => ?_)
    have f_V_b146 := Arv.set Ar151 q151 S151 M151 H151 G151 rfl W152 1 rfl (Nat.le_of_ble_eq_true rfl)
    have f_V_b146 : Arv Z h152 b146 k146 .long (3 : Int32) [(.long (0 : Int64)), (.long (1 : Int64)), (.long (0 : Int64))] (.long (0 : Int64)) := f_V_b146
    have f_V_b138 := f_V_b138.other W152 ne_b138_b146
    have Zn := Nat.le_trans Zn (Keep.of_wr W152).1
    have N152 := Fr.snoc X152 N148 ge_b146
    refine own_aload X152 hx hby at_130 (pc' := 132) rfl rfl rfl ?_
    refine own_iconst X152 hx hby at_132 (pc' := 133) rfl (n := (2 : Int32)) (by decide) ?_
    refine own_iload X152 hx hby at_133 (pc' := 135) rfl rfl ?_
    refine own_ifY X152 hx hby at_135 (pc' := 143) (by decide) (by decide) (show (0 : Int32) = (0 : Int32) by decide) ?_
    refine own_lload X152 hx hby at_143 (pc' := 145) rfl rfl ?_
    obtain ⟨cl153, Ar153, q153, S153, M153, H153, G153⟩ := id f_V_b146
    have hin153 : ¬ ((2 : Int32) < 0 ∨ cl153.slots.size ≤ ((2 : Int32)).toNatClampNeg) := inb_of S153 ⟨by decide, by decide⟩
    refine own_lastore X152 hx hZ hby e152 Ar153 hin153 at_145 (pc' := 146) rfl (fun T154 h154 X154 e154 W154 => ?_)
    have f_V_b146 := Arv.set Ar153 q153 S153 M153 H153 G153 rfl W154 2 rfl (Nat.le_of_ble_eq_true rfl)
    have f_V_b146 : Arv Z h154 b146 k146 .long (3 : Int32) [(.long (0 : Int64)), (.long (1 : Int64)), (.long (2 : Int64))] (.long (0 : Int64)) := f_V_b146
    have f_V_b138 := f_V_b138.other W154 ne_b138_b146
    have Zn := Nat.le_trans Zn (Keep.of_wr W154).1
    have N154 := Fr.snoc X154 N152 ge_b146
    exact own_s146 Z a0 hw p0 p1 p2 p3 p4 p5 b138 b146 k138 k146 (p1 &&& (4611686018427387903 : Int64)) (p2 &&& (4611686018427387903 : Int64)) (p3 &&& (4611686018427387903 : Int64)) (0 : Int64) (1 : Int64) (2 : Int64) (p5 &&& (3 : Int32)) (0 : Int32) (1 : Int64) (2 : Int64) (0 : Int32)  h0 n0 h154 (own_mono X154 (by decide) (by decide)) hx hby hlk hml hown hret hZ e154 N154 Zn  f_V_b138 f_V_b146 (own_off _) (own_off _) (own_off _) (by decide) (by decide) (by decide) (own_and3 _)
  · rw [hs145]
    show own_End p e below _ (T144.setTop (mkF m 48 #[.val (.long p0), .second, .val (.long p1), .second, .val (.long p2), .second, .val (.long p3), .second, .val (.int p4), .val (.int p5), .val (.int (p5 &&& (3 : Int32))), .val (.ref b138), .unset, .unset, .unset, .unset, .unset, .unset, .unset, .unset, .unset, .unset, .unset, .unset, .unset, .unset] [(.int (1 : Int32))]))
    refine own_istore X144 hx hby at_48 (pc' := 50) rfl (l' := #[.val (.long p0), .second, .val (.long p1), .second, .val (.long p2), .second, .val (.long p3), .second, .val (.int p4), .val (.int p5), .val (.int (p5 &&& (3 : Int32))), .val (.ref b138), .val (.int (1 : Int32)), .unset, .unset, .unset, .unset, .unset, .unset, .unset, .unset, .unset, .unset, .unset, .unset, .unset]) rfl ?_
    refine own_iconst X144 hx hby at_50 (pc' := 51) rfl (n := (3 : Int32)) (by decide) ?_
    refine own_newP (aty := .long) X144 hx hZ hby (wd_0 hw) e144 at_51 (pc' := 53) rfl (by decide) (cap := 3) (by decide) (by decide) (by decide) (by decide) (fun T155 h155 k155 b155 g155 X155 e155 E155 A155 => ?_)
    have ne_b138_b155 : b138 ≠ b155 := Nat.ne_of_lt (by rw [g155]; exact f_V_b138.lt)
    have ge_b155 : n0 ≤ b155 := by rw [g155]; exact Zn
    have f_V_b138 := f_V_b138.ext E155
    have Zn := Nat.le_trans Zn E155.1
    have f_V_b155 : Arv Z h155 b155 k155 .long (3 : Int32) [(.long (0 : Int64)), (.long (0 : Int64)), (.long (0 : Int64))] (.long (0 : Int64)) := (Arv.new A155 (by decide)).pad (pad_rep [] (.long (0 : Int64)) 3)
    refine own_astore X155 hx hby at_53 (pc' := 55) rfl rfl (l' := #[.val (.long p0), .second, .val (.long p1), .second, .val (.long p2), .second, .val (.long p3), .second, .val (.int p4), .val (.int p5), .val (.int (p5 &&& (3 : Int32))), .val (.ref b138), .val (.int (1 : Int32)), .val (.ref b155), .unset, .unset, .unset, .unset, .unset, .unset, .unset, .unset, .unset, .unset, .unset, .unset]) rfl ?_
    refine own_aload X155 hx hby at_55 (pc' := 57) rfl rfl rfl ?_
    refine own_iconst X155 hx hby at_57 (pc' := 58) rfl (n := (0 : Int32)) (by decide) ?_
    refine own_iload X155 hx hby at_58 (pc' := 60) rfl rfl ?_
    refine own_iconst X155 hx hby at_60 (pc' := 61) rfl (n := (2 : Int32)) (by decide) ?_
    refine own_idiv X155 hx hby at_61 (pc' := 62) rfl (by decide) ?_
    show own_End p e below _ (T155.setTop (mkF m 62 #[.val (.long p0), .second, .val (.long p1), .second, .val (.long p2), .second, .val (.long p3), .second, .val (.int p4), .val (.int p5), .val (.int (p5 &&& (3 : Int32))), .val (.ref b138), .val (.int (1 : Int32)), .val (.ref b155), .unset, .unset, .unset, .unset, .unset, .unset, .unset, .unset, .unset, .unset, .unset, .unset] [(.int (0 : Int32)), (.int (0 : Int32)), (.ref b155)]))
    refine own_i2l X155 hx hby at_62 (pc' := 63) rfl ?_
    show own_End p e below _ (T155.setTop (mkF m 63 #[.val (.long p0), .second, .val (.long p1), .second, .val (.long p2), .second, .val (.long p3), .second, .val (.int p4), .val (.int p5), .val (.int (p5 &&& (3 : Int32))), .val (.ref b138), .val (.int (1 : Int32)), .val (.ref b155), .unset, .unset, .unset, .unset, .unset, .unset, .unset, .unset, .unset, .unset, .unset, .unset] [(.long (0 : Int64)), (.int (0 : Int32)), (.ref b155)]))
    obtain ⟨cl156, Ar156, q156, S156, M156, H156, G156⟩ := id f_V_b155
    have hin156 : ¬ ((0 : Int32) < 0 ∨ cl156.slots.size ≤ ((0 : Int32)).toNatClampNeg) := inb_of S156 ⟨by decide, by decide⟩
    refine own_lastore X155 hx hZ hby e155 Ar156 hin156 at_63 (pc' := 64) rfl (fun T157 h157 X157 e157 W157 => ?_)
    have f_V_b155 := Arv.set Ar156 q156 S156 M156 H156 G156 rfl W157 0 rfl (Nat.le_of_ble_eq_true rfl)
    have f_V_b155 : Arv Z h157 b155 k155 .long (3 : Int32) [(.long (0 : Int64)), (.long (0 : Int64)), (.long (0 : Int64))] (.long (0 : Int64)) := f_V_b155
    have f_V_b138 := f_V_b138.other W157 ne_b138_b155
    have Zn := Nat.le_trans Zn (Keep.of_wr W157).1
    have N157 := Fr.snoc X157 N144 ge_b155
    refine own_aload X157 hx hby at_64 (pc' := 66) rfl rfl rfl ?_
    refine own_iconst X157 hx hby at_66 (pc' := 67) rfl (n := (0 : Int32)) (by decide) ?_
    obtain ⟨cl158, Ar158, q158, S158, M158, H158, G158⟩ := id f_V_b155
    have hin158 : ¬ ((0 : Int32) < 0 ∨ cl158.slots.size ≤ ((0 : Int32)).toNatClampNeg) := inb_of S158 ⟨by decide, by decide⟩
    have hat158 : cl158.slots[((0 : Int32)).toNatClampNeg]? = some (.long (0 : Int64)) := H158.at hin158 rfl
    refine own_laload X157 hx hZ hby e157 Ar158 hin158 hat158 at_67 (pc' := 68) rfl ?_
    refine own_lconst X157 hx hby at_68 (pc' := 69) rfl (n := (0 : Int64)) (by decide) ?_
    refine own_lcmp X157 hx hby at_69 (pc' := 70) rfl ?_
    refine own_ifN X157 hx hby at_70 (pc' := 73) rfl (own_ctL_n (show (0 : Int64) = (0 : Int64) by decide)) ?_
    refine own_lconst X157 hx hby at_73 (pc' := 74) rfl (n := (1 : Int64)) (by decide) ?_
    refine own_goto X157 hx hby at_74 (pc' := 78) (by decide) (by decide) ?_
    refine own_lstore X157 hx hby at_78 (pc' := 80) rfl (l' := #[.val (.long p0), .second, .val (.long p1), .second, .val (.long p2), .second, .val (.long p3), .second, .val (.int p4), .val (.int p5), .val (.int (p5 &&& (3 : Int32))), .val (.ref b138), .val (.int (1 : Int32)), .val (.ref b155), .val (.long (1 : Int64)), .second, .unset, .unset, .unset, .unset, .unset, .unset, .unset, .unset, .unset, .unset]) rfl ?_
    refine own_aload X157 hx hby at_80 (pc' := 82) rfl rfl rfl ?_
    refine own_iconst X157 hx hby at_82 (pc' := 83) rfl (n := (0 : Int32)) (by decide) ?_
    obtain ⟨cl159, Ar159, q159, S159, M159, H159, G159⟩ := id f_V_b155
    have hin159 : ¬ ((0 : Int32) < 0 ∨ cl159.slots.size ≤ ((0 : Int32)).toNatClampNeg) := inb_of S159 ⟨by decide, by decide⟩
    have hat159 : cl159.slots[((0 : Int32)).toNatClampNeg]? = some (.long (0 : Int64)) := H159.at hin159 rfl
    refine own_laload X157 hx hZ hby e157 Ar159 hin159 hat159 at_83 (pc' := 84) rfl ?_
    refine own_ldc2Long X157 hx hZ hby hown (wd_3 hw) at_84 (pc' := 87) rfl ?_
    refine own_lcmp X157 hx hby at_87 (pc' := 88) rfl ?_
    refine own_ifY X157 hx hby at_88 (pc' := 95) (by decide) (by decide) (own_ctL_y (show ¬ (0 : Int64) = (2 : Int64) by decide)) ?_
    refine own_ldc2Long X157 hx hZ hby hown (wd_3 hw) at_95 (pc' := 98) rfl ?_
    refine own_lstore X157 hx hby at_98 (pc' := 100) rfl (l' := #[.val (.long p0), .second, .val (.long p1), .second, .val (.long p2), .second, .val (.long p3), .second, .val (.int p4), .val (.int p5), .val (.int (p5 &&& (3 : Int32))), .val (.ref b138), .val (.int (1 : Int32)), .val (.ref b155), .val (.long (1 : Int64)), .second, .val (.long (2 : Int64)), .second, .unset, .unset, .unset, .unset, .unset, .unset, .unset, .unset]) rfl ?_
    refine own_iload X157 hx hby at_100 (pc' := 102) rfl rfl ?_
    refine own_iconst X157 hx hby at_102 (pc' := 103) rfl (n := (2 : Int32)) (by decide) ?_
    refine own_irem X157 hx hby at_103 (pc' := 104) rfl (by decide) ?_
    show own_End p e below _ (T157.setTop (mkF m 104 #[.val (.long p0), .second, .val (.long p1), .second, .val (.long p2), .second, .val (.long p3), .second, .val (.int p4), .val (.int p5), .val (.int (p5 &&& (3 : Int32))), .val (.ref b138), .val (.int (1 : Int32)), .val (.ref b155), .val (.long (1 : Int64)), .second, .val (.long (2 : Int64)), .second, .unset, .unset, .unset, .unset, .unset, .unset, .unset, .unset] [(.int (1 : Int32))]))
    refine own_ifN X157 hx hby at_104 (pc' := 107) rfl (show ¬ (1 : Int32) = (0 : Int32) by decide) ?_
    refine own_iconst X157 hx hby at_107 (pc' := 108) rfl (n := (1 : Int32)) (by decide) ?_
    refine own_goto X157 hx hby at_108 (pc' := 112) (by decide) (by decide) ?_
    refine own_istore X157 hx hby at_112 (pc' := 114) rfl (l' := #[.val (.long p0), .second, .val (.long p1), .second, .val (.long p2), .second, .val (.long p3), .second, .val (.int p4), .val (.int p5), .val (.int (p5 &&& (3 : Int32))), .val (.ref b138), .val (.int (1 : Int32)), .val (.ref b155), .val (.long (1 : Int64)), .second, .val (.long (2 : Int64)), .second, .val (.int (1 : Int32)), .unset, .unset, .unset, .unset, .unset, .unset, .unset]) rfl ?_
    refine own_aload X157 hx hby at_114 (pc' := 116) rfl rfl rfl ?_
    refine own_iconst X157 hx hby at_116 (pc' := 117) rfl (n := (1 : Int32)) (by decide) ?_
    refine own_iload X157 hx hby at_117 (pc' := 119) rfl rfl ?_
    refine own_ifN X157 hx hby at_119 (pc' := 122) rfl (show ¬ (1 : Int32) = (0 : Int32) by decide) ?_
    refine own_lload X157 hx hby at_122 (pc' := 124) rfl rfl ?_
    refine own_goto X157 hx hby at_124 (pc' := 129) (by decide) (by decide) ?_
    obtain ⟨cl160, Ar160, q160, S160, M160, H160, G160⟩ := id f_V_b155
    have hin160 : ¬ ((1 : Int32) < 0 ∨ cl160.slots.size ≤ ((1 : Int32)).toNatClampNeg) := inb_of S160 ⟨by decide, by decide⟩
    refine own_lastore X157 hx hZ hby e157 Ar160 hin160 at_129 (pc' := 130) rfl (fun T161 h161 X161 e161 W161 => ?_)
    have f_V_b155 := Arv.set Ar160 q160 S160 M160 H160 G160 rfl W161 1 rfl (Nat.le_of_ble_eq_true rfl)
    have f_V_b155 : Arv Z h161 b155 k155 .long (3 : Int32) [(.long (0 : Int64)), (.long (2 : Int64)), (.long (0 : Int64))] (.long (0 : Int64)) := f_V_b155
    have f_V_b138 := f_V_b138.other W161 ne_b138_b155
    have Zn := Nat.le_trans Zn (Keep.of_wr W161).1
    have N161 := Fr.snoc X161 N157 ge_b155
    refine own_aload X161 hx hby at_130 (pc' := 132) rfl rfl rfl ?_
    refine own_iconst X161 hx hby at_132 (pc' := 133) rfl (n := (2 : Int32)) (by decide) ?_
    refine own_iload X161 hx hby at_133 (pc' := 135) rfl rfl ?_
    refine own_ifN X161 hx hby at_135 (pc' := 138) rfl (show ¬ (1 : Int32) = (0 : Int32) by decide) ?_
    refine own_lload X161 hx hby at_138 (pc' := 140) rfl rfl ?_
    refine own_goto X161 hx hby at_140 (pc' := 145) (by decide) (by decide) ?_
    obtain ⟨cl162, Ar162, q162, S162, M162, H162, G162⟩ := id f_V_b155
    have hin162 : ¬ ((2 : Int32) < 0 ∨ cl162.slots.size ≤ ((2 : Int32)).toNatClampNeg) := inb_of S162 ⟨by decide, by decide⟩
    refine own_lastore X161 hx hZ hby e161 Ar162 hin162 at_145 (pc' := 146) rfl (fun T163 h163 X163 e163 W163 => ?_)
    have f_V_b155 := Arv.set Ar162 q162 S162 M162 H162 G162 rfl W163 2 rfl (Nat.le_of_ble_eq_true rfl)
    have f_V_b155 : Arv Z h163 b155 k155 .long (3 : Int32) [(.long (0 : Int64)), (.long (2 : Int64)), (.long (1 : Int64))] (.long (0 : Int64)) := f_V_b155
    have f_V_b138 := f_V_b138.other W163 ne_b138_b155
    have Zn := Nat.le_trans Zn (Keep.of_wr W163).1
    have N163 := Fr.snoc X163 N161 ge_b155
    exact own_s146 Z a0 hw p0 p1 p2 p3 p4 p5 b138 b155 k138 k155 (p1 &&& (4611686018427387903 : Int64)) (p2 &&& (4611686018427387903 : Int64)) (p3 &&& (4611686018427387903 : Int64)) (0 : Int64) (2 : Int64) (1 : Int64) (p5 &&& (3 : Int32)) (1 : Int32) (1 : Int64) (2 : Int64) (1 : Int32)  h0 n0 h163 (own_mono X163 (by decide) (by decide)) hx hby hlk hml hown hret hZ e163 N163 Zn  f_V_b138 f_V_b155 (own_off _) (own_off _) (own_off _) (by decide) (by decide) (by decide) (own_and3 _)
  · rw [hs145]
    show own_End p e below _ (T144.setTop (mkF m 48 #[.val (.long p0), .second, .val (.long p1), .second, .val (.long p2), .second, .val (.long p3), .second, .val (.int p4), .val (.int p5), .val (.int (p5 &&& (3 : Int32))), .val (.ref b138), .unset, .unset, .unset, .unset, .unset, .unset, .unset, .unset, .unset, .unset, .unset, .unset, .unset, .unset] [(.int (2 : Int32))]))
    refine own_istore X144 hx hby at_48 (pc' := 50) rfl (l' := #[.val (.long p0), .second, .val (.long p1), .second, .val (.long p2), .second, .val (.long p3), .second, .val (.int p4), .val (.int p5), .val (.int (p5 &&& (3 : Int32))), .val (.ref b138), .val (.int (2 : Int32)), .unset, .unset, .unset, .unset, .unset, .unset, .unset, .unset, .unset, .unset, .unset, .unset, .unset]) rfl ?_
    refine own_iconst X144 hx hby at_50 (pc' := 51) rfl (n := (3 : Int32)) (by decide) ?_
    refine own_newP (aty := .long) X144 hx hZ hby (wd_0 hw) e144 at_51 (pc' := 53) rfl (by decide) (cap := 3) (by decide) (by decide) (by decide) (by decide) (fun T164 h164 k164 b164 g164 X164 e164 E164 A164 => ?_)
    have ne_b138_b164 : b138 ≠ b164 := Nat.ne_of_lt (by rw [g164]; exact f_V_b138.lt)
    have ge_b164 : n0 ≤ b164 := by rw [g164]; exact Zn
    have f_V_b138 := f_V_b138.ext E164
    have Zn := Nat.le_trans Zn E164.1
    have f_V_b164 : Arv Z h164 b164 k164 .long (3 : Int32) [(.long (0 : Int64)), (.long (0 : Int64)), (.long (0 : Int64))] (.long (0 : Int64)) := (Arv.new A164 (by decide)).pad (pad_rep [] (.long (0 : Int64)) 3)
    refine own_astore X164 hx hby at_53 (pc' := 55) rfl rfl (l' := #[.val (.long p0), .second, .val (.long p1), .second, .val (.long p2), .second, .val (.long p3), .second, .val (.int p4), .val (.int p5), .val (.int (p5 &&& (3 : Int32))), .val (.ref b138), .val (.int (2 : Int32)), .val (.ref b164), .unset, .unset, .unset, .unset, .unset, .unset, .unset, .unset, .unset, .unset, .unset, .unset]) rfl ?_
    refine own_aload X164 hx hby at_55 (pc' := 57) rfl rfl rfl ?_
    refine own_iconst X164 hx hby at_57 (pc' := 58) rfl (n := (0 : Int32)) (by decide) ?_
    refine own_iload X164 hx hby at_58 (pc' := 60) rfl rfl ?_
    refine own_iconst X164 hx hby at_60 (pc' := 61) rfl (n := (2 : Int32)) (by decide) ?_
    refine own_idiv X164 hx hby at_61 (pc' := 62) rfl (by decide) ?_
    show own_End p e below _ (T164.setTop (mkF m 62 #[.val (.long p0), .second, .val (.long p1), .second, .val (.long p2), .second, .val (.long p3), .second, .val (.int p4), .val (.int p5), .val (.int (p5 &&& (3 : Int32))), .val (.ref b138), .val (.int (2 : Int32)), .val (.ref b164), .unset, .unset, .unset, .unset, .unset, .unset, .unset, .unset, .unset, .unset, .unset, .unset] [(.int (1 : Int32)), (.int (0 : Int32)), (.ref b164)]))
    refine own_i2l X164 hx hby at_62 (pc' := 63) rfl ?_
    show own_End p e below _ (T164.setTop (mkF m 63 #[.val (.long p0), .second, .val (.long p1), .second, .val (.long p2), .second, .val (.long p3), .second, .val (.int p4), .val (.int p5), .val (.int (p5 &&& (3 : Int32))), .val (.ref b138), .val (.int (2 : Int32)), .val (.ref b164), .unset, .unset, .unset, .unset, .unset, .unset, .unset, .unset, .unset, .unset, .unset, .unset] [(.long (1 : Int64)), (.int (0 : Int32)), (.ref b164)]))
    obtain ⟨cl165, Ar165, q165, S165, M165, H165, G165⟩ := id f_V_b164
    have hin165 : ¬ ((0 : Int32) < 0 ∨ cl165.slots.size ≤ ((0 : Int32)).toNatClampNeg) := inb_of S165 ⟨by decide, by decide⟩
    refine own_lastore X164 hx hZ hby e164 Ar165 hin165 at_63 (pc' := 64) rfl (fun T166 h166 X166 e166 W166 => ?_)
    have f_V_b164 := Arv.set Ar165 q165 S165 M165 H165 G165 rfl W166 0 rfl (Nat.le_of_ble_eq_true rfl)
    have f_V_b164 : Arv Z h166 b164 k164 .long (3 : Int32) [(.long (1 : Int64)), (.long (0 : Int64)), (.long (0 : Int64))] (.long (0 : Int64)) := f_V_b164
    have f_V_b138 := f_V_b138.other W166 ne_b138_b164
    have Zn := Nat.le_trans Zn (Keep.of_wr W166).1
    have N166 := Fr.snoc X166 N144 ge_b164
    refine own_aload X166 hx hby at_64 (pc' := 66) rfl rfl rfl ?_
    refine own_iconst X166 hx hby at_66 (pc' := 67) rfl (n := (0 : Int32)) (by decide) ?_
    obtain ⟨cl167, Ar167, q167, S167, M167, H167, G167⟩ := id f_V_b164
    have hin167 : ¬ ((0 : Int32) < 0 ∨ cl167.slots.size ≤ ((0 : Int32)).toNatClampNeg) := inb_of S167 ⟨by decide, by decide⟩
    have hat167 : cl167.slots[((0 : Int32)).toNatClampNeg]? = some (.long (1 : Int64)) := H167.at hin167 rfl
    refine own_laload X166 hx hZ hby e166 Ar167 hin167 hat167 at_67 (pc' := 68) rfl ?_
    refine own_lconst X166 hx hby at_68 (pc' := 69) rfl (n := (0 : Int64)) (by decide) ?_
    refine own_lcmp X166 hx hby at_69 (pc' := 70) rfl ?_
    refine own_ifY X166 hx hby at_70 (pc' := 77) (by decide) (by decide) (own_ctL_y (show ¬ (1 : Int64) = (0 : Int64) by decide)) ?_
    refine own_lconst X166 hx hby at_77 (pc' := 78) rfl (n := (0 : Int64)) (by decide) ?_
    refine own_lstore X166 hx hby at_78 (pc' := 80) rfl (l' := #[.val (.long p0), .second, .val (.long p1), .second, .val (.long p2), .second, .val (.long p3), .second, .val (.int p4), .val (.int p5), .val (.int (p5 &&& (3 : Int32))), .val (.ref b138), .val (.int (2 : Int32)), .val (.ref b164), .val (.long (0 : Int64)), .second, .unset, .unset, .unset, .unset, .unset, .unset, .unset, .unset, .unset, .unset]) rfl ?_
    refine own_aload X166 hx hby at_80 (pc' := 82) rfl rfl rfl ?_
    refine own_iconst X166 hx hby at_82 (pc' := 83) rfl (n := (0 : Int32)) (by decide) ?_
    obtain ⟨cl168, Ar168, q168, S168, M168, H168, G168⟩ := id f_V_b164
    have hin168 : ¬ ((0 : Int32) < 0 ∨ cl168.slots.size ≤ ((0 : Int32)).toNatClampNeg) := inb_of S168 ⟨by decide, by decide⟩
    have hat168 : cl168.slots[((0 : Int32)).toNatClampNeg]? = some (.long (1 : Int64)) := H168.at hin168 rfl
    refine own_laload X166 hx hZ hby e166 Ar168 hin168 hat168 at_83 (pc' := 84) rfl ?_
    refine own_ldc2Long X166 hx hZ hby hown (wd_3 hw) at_84 (pc' := 87) rfl ?_
    refine own_lcmp X166 hx hby at_87 (pc' := 88) rfl ?_
    refine own_ifY X166 hx hby at_88 (pc' := 95) (by decide) (by decide) (own_ctL_y (show ¬ (1 : Int64) = (2 : Int64) by decide)) ?_
    refine own_ldc2Long X166 hx hZ hby hown (wd_3 hw) at_95 (pc' := 98) rfl ?_
    refine own_lstore X166 hx hby at_98 (pc' := 100) rfl (l' := #[.val (.long p0), .second, .val (.long p1), .second, .val (.long p2), .second, .val (.long p3), .second, .val (.int p4), .val (.int p5), .val (.int (p5 &&& (3 : Int32))), .val (.ref b138), .val (.int (2 : Int32)), .val (.ref b164), .val (.long (0 : Int64)), .second, .val (.long (2 : Int64)), .second, .unset, .unset, .unset, .unset, .unset, .unset, .unset, .unset]) rfl ?_
    refine own_iload X166 hx hby at_100 (pc' := 102) rfl rfl ?_
    refine own_iconst X166 hx hby at_102 (pc' := 103) rfl (n := (2 : Int32)) (by decide) ?_
    refine own_irem X166 hx hby at_103 (pc' := 104) rfl (by decide) ?_
    show own_End p e below _ (T166.setTop (mkF m 104 #[.val (.long p0), .second, .val (.long p1), .second, .val (.long p2), .second, .val (.long p3), .second, .val (.int p4), .val (.int p5), .val (.int (p5 &&& (3 : Int32))), .val (.ref b138), .val (.int (2 : Int32)), .val (.ref b164), .val (.long (0 : Int64)), .second, .val (.long (2 : Int64)), .second, .unset, .unset, .unset, .unset, .unset, .unset, .unset, .unset] [(.int (0 : Int32))]))
    refine own_ifY X166 hx hby at_104 (pc' := 111) (by decide) (by decide) (show (0 : Int32) = (0 : Int32) by decide) ?_
    refine own_iconst X166 hx hby at_111 (pc' := 112) rfl (n := (0 : Int32)) (by decide) ?_
    refine own_istore X166 hx hby at_112 (pc' := 114) rfl (l' := #[.val (.long p0), .second, .val (.long p1), .second, .val (.long p2), .second, .val (.long p3), .second, .val (.int p4), .val (.int p5), .val (.int (p5 &&& (3 : Int32))), .val (.ref b138), .val (.int (2 : Int32)), .val (.ref b164), .val (.long (0 : Int64)), .second, .val (.long (2 : Int64)), .second, .val (.int (0 : Int32)), .unset, .unset, .unset, .unset, .unset, .unset, .unset]) rfl ?_
    refine own_aload X166 hx hby at_114 (pc' := 116) rfl rfl rfl ?_
    refine own_iconst X166 hx hby at_116 (pc' := 117) rfl (n := (1 : Int32)) (by decide) ?_
    refine own_iload X166 hx hby at_117 (pc' := 119) rfl rfl ?_
    refine own_ifY X166 hx hby at_119 (pc' := 127) (by decide) (by decide) (show (0 : Int32) = (0 : Int32) by decide) ?_
    refine own_lload X166 hx hby at_127 (pc' := 129) rfl rfl ?_
    obtain ⟨cl169, Ar169, q169, S169, M169, H169, G169⟩ := id f_V_b164
    have hin169 : ¬ ((1 : Int32) < 0 ∨ cl169.slots.size ≤ ((1 : Int32)).toNatClampNeg) := inb_of S169 ⟨by decide, by decide⟩
    refine own_lastore X166 hx hZ hby e166 Ar169 hin169 at_129 (pc' := 130) rfl (fun T170 h170 X170 e170 W170 => ?_)
    have f_V_b164 := Arv.set Ar169 q169 S169 M169 H169 G169 rfl W170 1 rfl (Nat.le_of_ble_eq_true rfl)
    have f_V_b164 : Arv Z h170 b164 k164 .long (3 : Int32) [(.long (1 : Int64)), (.long (0 : Int64)), (.long (0 : Int64))] (.long (0 : Int64)) := f_V_b164
    have f_V_b138 := f_V_b138.other W170 ne_b138_b164
    have Zn := Nat.le_trans Zn (Keep.of_wr W170).1
    have N170 := Fr.snoc X170 N166 ge_b164
    refine own_aload X170 hx hby at_130 (pc' := 132) rfl rfl rfl ?_
    refine own_iconst X170 hx hby at_132 (pc' := 133) rfl (n := (2 : Int32)) (by decide) ?_
    refine own_iload X170 hx hby at_133 (pc' := 135) rfl rfl ?_
    refine own_ifY X170 hx hby at_135 (pc' := 143) (by decide) (by decide) (show (0 : Int32) = (0 : Int32) by decide) ?_
    refine own_lload X170 hx hby at_143 (pc' := 145) rfl rfl ?_
    obtain ⟨cl171, Ar171, q171, S171, M171, H171, G171⟩ := id f_V_b164
    have hin171 : ¬ ((2 : Int32) < 0 ∨ cl171.slots.size ≤ ((2 : Int32)).toNatClampNeg) := inb_of S171 ⟨by decide, by decide⟩
    refine own_lastore X170 hx hZ hby e170 Ar171 hin171 at_145 (pc' := 146) rfl (fun T172 h172 X172 e172 W172 => ?_)
    have f_V_b164 := Arv.set Ar171 q171 S171 M171 H171 G171 rfl W172 2 rfl (Nat.le_of_ble_eq_true rfl)
    have f_V_b164 : Arv Z h172 b164 k164 .long (3 : Int32) [(.long (1 : Int64)), (.long (0 : Int64)), (.long (2 : Int64))] (.long (0 : Int64)) := f_V_b164
    have f_V_b138 := f_V_b138.other W172 ne_b138_b164
    have Zn := Nat.le_trans Zn (Keep.of_wr W172).1
    have N172 := Fr.snoc X172 N170 ge_b164
    exact own_s146 Z a0 hw p0 p1 p2 p3 p4 p5 b138 b164 k138 k164 (p1 &&& (4611686018427387903 : Int64)) (p2 &&& (4611686018427387903 : Int64)) (p3 &&& (4611686018427387903 : Int64)) (1 : Int64) (0 : Int64) (2 : Int64) (p5 &&& (3 : Int32)) (2 : Int32) (0 : Int64) (2 : Int64) (0 : Int32)  h0 n0 h172 (own_mono X172 (by decide) (by decide)) hx hby hlk hml hown hret hZ e172 N172 Zn  f_V_b138 f_V_b164 (own_off _) (own_off _) (own_off _) (by decide) (by decide) (by decide) (own_and3 _)
  · rw [hs145]
    show own_End p e below _ (T144.setTop (mkF m 48 #[.val (.long p0), .second, .val (.long p1), .second, .val (.long p2), .second, .val (.long p3), .second, .val (.int p4), .val (.int p5), .val (.int (p5 &&& (3 : Int32))), .val (.ref b138), .unset, .unset, .unset, .unset, .unset, .unset, .unset, .unset, .unset, .unset, .unset, .unset, .unset, .unset] [(.int (3 : Int32))]))
    refine own_istore X144 hx hby at_48 (pc' := 50) rfl (l' := #[.val (.long p0), .second, .val (.long p1), .second, .val (.long p2), .second, .val (.long p3), .second, .val (.int p4), .val (.int p5), .val (.int (p5 &&& (3 : Int32))), .val (.ref b138), .val (.int (3 : Int32)), .unset, .unset, .unset, .unset, .unset, .unset, .unset, .unset, .unset, .unset, .unset, .unset, .unset]) rfl ?_
    refine own_iconst X144 hx hby at_50 (pc' := 51) rfl (n := (3 : Int32)) (by decide) ?_
    refine own_newP (aty := .long) X144 hx hZ hby (wd_0 hw) e144 at_51 (pc' := 53) rfl (by decide) (cap := 3) (by decide) (by decide) (by decide) (by decide) (fun T173 h173 k173 b173 g173 X173 e173 E173 A173 => ?_)
    have ne_b138_b173 : b138 ≠ b173 := Nat.ne_of_lt (by rw [g173]; exact f_V_b138.lt)
    have ge_b173 : n0 ≤ b173 := by rw [g173]; exact Zn
    have f_V_b138 := f_V_b138.ext E173
    have Zn := Nat.le_trans Zn E173.1
    have f_V_b173 : Arv Z h173 b173 k173 .long (3 : Int32) [(.long (0 : Int64)), (.long (0 : Int64)), (.long (0 : Int64))] (.long (0 : Int64)) := (Arv.new A173 (by decide)).pad (pad_rep [] (.long (0 : Int64)) 3)
    refine own_astore X173 hx hby at_53 (pc' := 55) rfl rfl (l' := #[.val (.long p0), .second, .val (.long p1), .second, .val (.long p2), .second, .val (.long p3), .second, .val (.int p4), .val (.int p5), .val (.int (p5 &&& (3 : Int32))), .val (.ref b138), .val (.int (3 : Int32)), .val (.ref b173), .unset, .unset, .unset, .unset, .unset, .unset, .unset, .unset, .unset, .unset, .unset, .unset]) rfl ?_
    refine own_aload X173 hx hby at_55 (pc' := 57) rfl rfl rfl ?_
    refine own_iconst X173 hx hby at_57 (pc' := 58) rfl (n := (0 : Int32)) (by decide) ?_
    refine own_iload X173 hx hby at_58 (pc' := 60) rfl rfl ?_
    refine own_iconst X173 hx hby at_60 (pc' := 61) rfl (n := (2 : Int32)) (by decide) ?_
    refine own_idiv X173 hx hby at_61 (pc' := 62) rfl (by decide) ?_
    show own_End p e below _ (T173.setTop (mkF m 62 #[.val (.long p0), .second, .val (.long p1), .second, .val (.long p2), .second, .val (.long p3), .second, .val (.int p4), .val (.int p5), .val (.int (p5 &&& (3 : Int32))), .val (.ref b138), .val (.int (3 : Int32)), .val (.ref b173), .unset, .unset, .unset, .unset, .unset, .unset, .unset, .unset, .unset, .unset, .unset, .unset] [(.int (1 : Int32)), (.int (0 : Int32)), (.ref b173)]))
    refine own_i2l X173 hx hby at_62 (pc' := 63) rfl ?_
    show own_End p e below _ (T173.setTop (mkF m 63 #[.val (.long p0), .second, .val (.long p1), .second, .val (.long p2), .second, .val (.long p3), .second, .val (.int p4), .val (.int p5), .val (.int (p5 &&& (3 : Int32))), .val (.ref b138), .val (.int (3 : Int32)), .val (.ref b173), .unset, .unset, .unset, .unset, .unset, .unset, .unset, .unset, .unset, .unset, .unset, .unset] [(.long (1 : Int64)), (.int (0 : Int32)), (.ref b173)]))
    obtain ⟨cl174, Ar174, q174, S174, M174, H174, G174⟩ := id f_V_b173
    have hin174 : ¬ ((0 : Int32) < 0 ∨ cl174.slots.size ≤ ((0 : Int32)).toNatClampNeg) := inb_of S174 ⟨by decide, by decide⟩
    refine own_lastore X173 hx hZ hby e173 Ar174 hin174 at_63 (pc' := 64) rfl (fun T175 h175 X175 e175 W175 => ?_)
    have f_V_b173 := Arv.set Ar174 q174 S174 M174 H174 G174 rfl W175 0 rfl (Nat.le_of_ble_eq_true rfl)
    have f_V_b173 : Arv Z h175 b173 k173 .long (3 : Int32) [(.long (1 : Int64)), (.long (0 : Int64)), (.long (0 : Int64))] (.long (0 : Int64)) := f_V_b173
    have f_V_b138 := f_V_b138.other W175 ne_b138_b173
    have Zn := Nat.le_trans Zn (Keep.of_wr W175).1
    have N175 := Fr.snoc X175 N144 ge_b173
    refine own_aload X175 hx hby at_64 (pc' := 66) rfl rfl rfl ?_
    refine own_iconst X175 hx hby at_66 (pc' := 67) rfl (n := (0 : Int32)) (by decide) ?_
    obtain ⟨cl176, Ar176, q176, S176, M176, H176, G176⟩ := id f_V_b173
    have hin176 : ¬ ((0 : Int32) < 0 ∨ cl176.slots.size ≤ ((0 : Int32)).toNatClampNeg) := inb_of S176 ⟨by decide, by decide⟩
    have hat176 : cl176.slots[((0 : Int32)).toNatClampNeg]? = some (.long (1 : Int64)) := H176.at hin176 rfl
    refine own_laload X175 hx hZ hby e175 Ar176 hin176 hat176 at_67 (pc' := 68) rfl ?_
    refine own_lconst X175 hx hby at_68 (pc' := 69) rfl (n := (0 : Int64)) (by decide) ?_
    refine own_lcmp X175 hx hby at_69 (pc' := 70) rfl ?_
    refine own_ifY X175 hx hby at_70 (pc' := 77) (by decide) (by decide) (own_ctL_y (show ¬ (1 : Int64) = (0 : Int64) by decide)) ?_
    refine own_lconst X175 hx hby at_77 (pc' := 78) rfl (n := (0 : Int64)) (by decide) ?_
    refine own_lstore X175 hx hby at_78 (pc' := 80) rfl (l' := #[.val (.long p0), .second, .val (.long p1), .second, .val (.long p2), .second, .val (.long p3), .second, .val (.int p4), .val (.int p5), .val (.int (p5 &&& (3 : Int32))), .val (.ref b138), .val (.int (3 : Int32)), .val (.ref b173), .val (.long (0 : Int64)), .second, .unset, .unset, .unset, .unset, .unset, .unset, .unset, .unset, .unset, .unset]) rfl ?_
    refine own_aload X175 hx hby at_80 (pc' := 82) rfl rfl rfl ?_
    refine own_iconst X175 hx hby at_82 (pc' := 83) rfl (n := (0 : Int32)) (by decide) ?_
    obtain ⟨cl177, Ar177, q177, S177, M177, H177, G177⟩ := id f_V_b173
    have hin177 : ¬ ((0 : Int32) < 0 ∨ cl177.slots.size ≤ ((0 : Int32)).toNatClampNeg) := inb_of S177 ⟨by decide, by decide⟩
    have hat177 : cl177.slots[((0 : Int32)).toNatClampNeg]? = some (.long (1 : Int64)) := H177.at hin177 rfl
    refine own_laload X175 hx hZ hby e175 Ar177 hin177 hat177 at_83 (pc' := 84) rfl ?_
    refine own_ldc2Long X175 hx hZ hby hown (wd_3 hw) at_84 (pc' := 87) rfl ?_
    refine own_lcmp X175 hx hby at_87 (pc' := 88) rfl ?_
    refine own_ifY X175 hx hby at_88 (pc' := 95) (by decide) (by decide) (own_ctL_y (show ¬ (1 : Int64) = (2 : Int64) by decide)) ?_
    refine own_ldc2Long X175 hx hZ hby hown (wd_3 hw) at_95 (pc' := 98) rfl ?_
    refine own_lstore X175 hx hby at_98 (pc' := 100) rfl (l' := #[.val (.long p0), .second, .val (.long p1), .second, .val (.long p2), .second, .val (.long p3), .second, .val (.int p4), .val (.int p5), .val (.int (p5 &&& (3 : Int32))), .val (.ref b138), .val (.int (3 : Int32)), .val (.ref b173), .val (.long (0 : Int64)), .second, .val (.long (2 : Int64)), .second, .unset, .unset, .unset, .unset, .unset, .unset, .unset, .unset]) rfl ?_
    refine own_iload X175 hx hby at_100 (pc' := 102) rfl rfl ?_
    refine own_iconst X175 hx hby at_102 (pc' := 103) rfl (n := (2 : Int32)) (by decide) ?_
    refine own_irem X175 hx hby at_103 (pc' := 104) rfl (by decide) ?_
    show own_End p e below _ (T175.setTop (mkF m 104 #[.val (.long p0), .second, .val (.long p1), .second, .val (.long p2), .second, .val (.long p3), .second, .val (.int p4), .val (.int p5), .val (.int (p5 &&& (3 : Int32))), .val (.ref b138), .val (.int (3 : Int32)), .val (.ref b173), .val (.long (0 : Int64)), .second, .val (.long (2 : Int64)), .second, .unset, .unset, .unset, .unset, .unset, .unset, .unset, .unset] [(.int (1 : Int32))]))
    refine own_ifN X175 hx hby at_104 (pc' := 107) rfl (show ¬ (1 : Int32) = (0 : Int32) by decide) ?_
    refine own_iconst X175 hx hby at_107 (pc' := 108) rfl (n := (1 : Int32)) (by decide) ?_
    refine own_goto X175 hx hby at_108 (pc' := 112) (by decide) (by decide) ?_
    refine own_istore X175 hx hby at_112 (pc' := 114) rfl (l' := #[.val (.long p0), .second, .val (.long p1), .second, .val (.long p2), .second, .val (.long p3), .second, .val (.int p4), .val (.int p5), .val (.int (p5 &&& (3 : Int32))), .val (.ref b138), .val (.int (3 : Int32)), .val (.ref b173), .val (.long (0 : Int64)), .second, .val (.long (2 : Int64)), .second, .val (.int (1 : Int32)), .unset, .unset, .unset, .unset, .unset, .unset, .unset]) rfl ?_
    refine own_aload X175 hx hby at_114 (pc' := 116) rfl rfl rfl ?_
    refine own_iconst X175 hx hby at_116 (pc' := 117) rfl (n := (1 : Int32)) (by decide) ?_
    refine own_iload X175 hx hby at_117 (pc' := 119) rfl rfl ?_
    refine own_ifN X175 hx hby at_119 (pc' := 122) rfl (show ¬ (1 : Int32) = (0 : Int32) by decide) ?_
    refine own_lload X175 hx hby at_122 (pc' := 124) rfl rfl ?_
    refine own_goto X175 hx hby at_124 (pc' := 129) (by decide) (by decide) ?_
    obtain ⟨cl178, Ar178, q178, S178, M178, H178, G178⟩ := id f_V_b173
    have hin178 : ¬ ((1 : Int32) < 0 ∨ cl178.slots.size ≤ ((1 : Int32)).toNatClampNeg) := inb_of S178 ⟨by decide, by decide⟩
    refine own_lastore X175 hx hZ hby e175 Ar178 hin178 at_129 (pc' := 130) rfl (fun T179 h179 X179 e179 W179 => ?_)
    have f_V_b173 := Arv.set Ar178 q178 S178 M178 H178 G178 rfl W179 1 rfl (Nat.le_of_ble_eq_true rfl)
    have f_V_b173 : Arv Z h179 b173 k173 .long (3 : Int32) [(.long (1 : Int64)), (.long (2 : Int64)), (.long (0 : Int64))] (.long (0 : Int64)) := f_V_b173
    have f_V_b138 := f_V_b138.other W179 ne_b138_b173
    have Zn := Nat.le_trans Zn (Keep.of_wr W179).1
    have N179 := Fr.snoc X179 N175 ge_b173
    refine own_aload X179 hx hby at_130 (pc' := 132) rfl rfl rfl ?_
    refine own_iconst X179 hx hby at_132 (pc' := 133) rfl (n := (2 : Int32)) (by decide) ?_
    refine own_iload X179 hx hby at_133 (pc' := 135) rfl rfl ?_
    refine own_ifN X179 hx hby at_135 (pc' := 138) rfl (show ¬ (1 : Int32) = (0 : Int32) by decide) ?_
    refine own_lload X179 hx hby at_138 (pc' := 140) rfl rfl ?_
    refine own_goto X179 hx hby at_140 (pc' := 145) (by decide) (by decide) ?_
    obtain ⟨cl180, Ar180, q180, S180, M180, H180, G180⟩ := id f_V_b173
    have hin180 : ¬ ((2 : Int32) < 0 ∨ cl180.slots.size ≤ ((2 : Int32)).toNatClampNeg) := inb_of S180 ⟨by decide, by decide⟩
    refine own_lastore X179 hx hZ hby e179 Ar180 hin180 at_145 (pc' := 146) rfl (fun T181 h181 X181 e181 W181 => ?_)
    have f_V_b173 := Arv.set Ar180 q180 S180 M180 H180 G180 rfl W181 2 rfl (Nat.le_of_ble_eq_true rfl)
    have f_V_b173 : Arv Z h181 b173 k173 .long (3 : Int32) [(.long (1 : Int64)), (.long (2 : Int64)), (.long (0 : Int64))] (.long (0 : Int64)) := f_V_b173
    have f_V_b138 := f_V_b138.other W181 ne_b138_b173
    have Zn := Nat.le_trans Zn (Keep.of_wr W181).1
    have N181 := Fr.snoc X181 N179 ge_b173
    exact own_s146 Z a0 hw p0 p1 p2 p3 p4 p5 b138 b173 k138 k173 (p1 &&& (4611686018427387903 : Int64)) (p2 &&& (4611686018427387903 : Int64)) (p3 &&& (4611686018427387903 : Int64)) (1 : Int64) (2 : Int64) (0 : Int64) (p5 &&& (3 : Int32)) (3 : Int32) (0 : Int64) (2 : Int64) (1 : Int32)  h0 n0 h181 (own_mono X181 (by decide) (by decide)) hx hby hlk hml hown hret hZ e181 N181 Zn  f_V_b138 f_V_b173 (own_off _) (own_off _) (own_off _) (by decide) (by decide) (by decide) (own_and3 _)
  · rw [hs145]
    show own_End p e below _ (T144.setTop (mkF m 48 #[.val (.long p0), .second, .val (.long p1), .second, .val (.long p2), .second, .val (.long p3), .second, .val (.int p4), .val (.int p5), .val (.int (p5 &&& (3 : Int32))), .val (.ref b138), .unset, .unset, .unset, .unset, .unset, .unset, .unset, .unset, .unset, .unset, .unset, .unset, .unset, .unset] [(.int (4 : Int32))]))
    refine own_istore X144 hx hby at_48 (pc' := 50) rfl (l' := #[.val (.long p0), .second, .val (.long p1), .second, .val (.long p2), .second, .val (.long p3), .second, .val (.int p4), .val (.int p5), .val (.int (p5 &&& (3 : Int32))), .val (.ref b138), .val (.int (4 : Int32)), .unset, .unset, .unset, .unset, .unset, .unset, .unset, .unset, .unset, .unset, .unset, .unset, .unset]) rfl ?_
    refine own_iconst X144 hx hby at_50 (pc' := 51) rfl (n := (3 : Int32)) (by decide) ?_
    refine own_newP (aty := .long) X144 hx hZ hby (wd_0 hw) e144 at_51 (pc' := 53) rfl (by decide) (cap := 3) (by decide) (by decide) (by decide) (by decide) (fun T182 h182 k182 b182 g182 X182 e182 E182 A182 => ?_)
    have ne_b138_b182 : b138 ≠ b182 := Nat.ne_of_lt (by rw [g182]; exact f_V_b138.lt)
    have ge_b182 : n0 ≤ b182 := by rw [g182]; exact Zn
    have f_V_b138 := f_V_b138.ext E182
    have Zn := Nat.le_trans Zn E182.1
    have f_V_b182 : Arv Z h182 b182 k182 .long (3 : Int32) [(.long (0 : Int64)), (.long (0 : Int64)), (.long (0 : Int64))] (.long (0 : Int64)) := (Arv.new A182 (by decide)).pad (pad_rep [] (.long (0 : Int64)) 3)
    refine own_astore X182 hx hby at_53 (pc' := 55) rfl rfl (l' := #[.val (.long p0), .second, .val (.long p1), .second, .val (.long p2), .second, .val (.long p3), .second, .val (.int p4), .val (.int p5), .val (.int (p5 &&& (3 : Int32))), .val (.ref b138), .val (.int (4 : Int32)), .val (.ref b182), .unset, .unset, .unset, .unset, .unset, .unset, .unset, .unset, .unset, .unset, .unset, .unset]) rfl ?_
    refine own_aload X182 hx hby at_55 (pc' := 57) rfl rfl rfl ?_
    refine own_iconst X182 hx hby at_57 (pc' := 58) rfl (n := (0 : Int32)) (by decide) ?_
    refine own_iload X182 hx hby at_58 (pc' := 60) rfl rfl ?_
    refine own_iconst X182 hx hby at_60 (pc' := 61) rfl (n := (2 : Int32)) (by decide) ?_
    refine own_idiv X182 hx hby at_61 (pc' := 62) rfl (by decide) ?_
    show own_End p e below _ (T182.setTop (mkF m 62 #[.val (.long p0), .second, .val (.long p1), .second, .val (.long p2), .second, .val (.long p3), .second, .val (.int p4), .val (.int p5), .val (.int (p5 &&& (3 : Int32))), .val (.ref b138), .val (.int (4 : Int32)), .val (.ref b182), .unset, .unset, .unset, .unset, .unset, .unset, .unset, .unset, .unset, .unset, .unset, .unset] [(.int (2 : Int32)), (.int (0 : Int32)), (.ref b182)]))
    refine own_i2l X182 hx hby at_62 (pc' := 63) rfl ?_
    show own_End p e below _ (T182.setTop (mkF m 63 #[.val (.long p0), .second, .val (.long p1), .second, .val (.long p2), .second, .val (.long p3), .second, .val (.int p4), .val (.int p5), .val (.int (p5 &&& (3 : Int32))), .val (.ref b138), .val (.int (4 : Int32)), .val (.ref b182), .unset, .unset, .unset, .unset, .unset, .unset, .unset, .unset, .unset, .unset, .unset, .unset] [(.long (2 : Int64)), (.int (0 : Int32)), (.ref b182)]))
    obtain ⟨cl183, Ar183, q183, S183, M183, H183, G183⟩ := id f_V_b182
    have hin183 : ¬ ((0 : Int32) < 0 ∨ cl183.slots.size ≤ ((0 : Int32)).toNatClampNeg) := inb_of S183 ⟨by decide, by decide⟩
    refine own_lastore X182 hx hZ hby e182 Ar183 hin183 at_63 (pc' := 64) rfl (fun T184 h184 X184 e184 W184 => ?_)
    have f_V_b182 := Arv.set Ar183 q183 S183 M183 H183 G183 rfl W184 0 rfl (Nat.le_of_ble_eq_true rfl)
    have f_V_b182 : Arv Z h184 b182 k182 .long (3 : Int32) [(.long (2 : Int64)), (.long (0 : Int64)), (.long (0 : Int64))] (.long (0 : Int64)) := f_V_b182
    have f_V_b138 := f_V_b138.other W184 ne_b138_b182
    have Zn := Nat.le_trans Zn (Keep.of_wr W184).1
    have N184 := Fr.snoc X184 N144 ge_b182
    refine own_aload X184 hx hby at_64 (pc' := 66) rfl rfl rfl ?_
    refine own_iconst X184 hx hby at_66 (pc' := 67) rfl (n := (0 : Int32)) (by decide) ?_
    obtain ⟨cl185, Ar185, q185, S185, M185, H185, G185⟩ := id f_V_b182
    have hin185 : ¬ ((0 : Int32) < 0 ∨ cl185.slots.size ≤ ((0 : Int32)).toNatClampNeg) := inb_of S185 ⟨by decide, by decide⟩
    have hat185 : cl185.slots[((0 : Int32)).toNatClampNeg]? = some (.long (2 : Int64)) := H185.at hin185 rfl
    refine own_laload X184 hx hZ hby e184 Ar185 hin185 hat185 at_67 (pc' := 68) rfl ?_
    refine own_lconst X184 hx hby at_68 (pc' := 69) rfl (n := (0 : Int64)) (by decide) ?_
    refine own_lcmp X184 hx hby at_69 (pc' := 70) rfl ?_
    refine own_ifY X184 hx hby at_70 (pc' := 77) (by decide) (by decide) (own_ctL_y (show ¬ (2 : Int64) = (0 : Int64) by decide)) ?_
    refine own_lconst X184 hx hby at_77 (pc' := 78) rfl (n := (0 : Int64)) (by decide) ?_
    refine own_lstore X184 hx hby at_78 (pc' := 80) rfl (l' := #[.val (.long p0), .second, .val (.long p1), .second, .val (.long p2), .second, .val (.long p3), .second, .val (.int p4), .val (.int p5), .val (.int (p5 &&& (3 : Int32))), .val (.ref b138), .val (.int (4 : Int32)), .val (.ref b182), .val (.long (0 : Int64)), .second, .unset, .unset, .unset, .unset, .unset, .unset, .unset, .unset, .unset, .unset]) rfl ?_
    refine own_aload X184 hx hby at_80 (pc' := 82) rfl rfl rfl ?_
    refine own_iconst X184 hx hby at_82 (pc' := 83) rfl (n := (0 : Int32)) (by decide) ?_
    obtain ⟨cl186, Ar186, q186, S186, M186, H186, G186⟩ := id f_V_b182
    have hin186 : ¬ ((0 : Int32) < 0 ∨ cl186.slots.size ≤ ((0 : Int32)).toNatClampNeg) := inb_of S186 ⟨by decide, by decide⟩
    have hat186 : cl186.slots[((0 : Int32)).toNatClampNeg]? = some (.long (2 : Int64)) := H186.at hin186 rfl
    refine own_laload X184 hx hZ hby e184 Ar186 hin186 hat186 at_83 (pc' := 84) rfl ?_
    refine own_ldc2Long X184 hx hZ hby hown (wd_3 hw) at_84 (pc' := 87) rfl ?_
    refine own_lcmp X184 hx hby at_87 (pc' := 88) rfl ?_
    refine own_ifN X184 hx hby at_88 (pc' := 91) rfl (own_ctL_n (show (2 : Int64) = (2 : Int64) by decide)) ?_
    refine own_lconst X184 hx hby at_91 (pc' := 92) rfl (n := (1 : Int64)) (by decide) ?_
    refine own_goto X184 hx hby at_92 (pc' := 98) (by decide) (by decide) ?_
    refine own_lstore X184 hx hby at_98 (pc' := 100) rfl (l' := #[.val (.long p0), .second, .val (.long p1), .second, .val (.long p2), .second, .val (.long p3), .second, .val (.int p4), .val (.int p5), .val (.int (p5 &&& (3 : Int32))), .val (.ref b138), .val (.int (4 : Int32)), .val (.ref b182), .val (.long (0 : Int64)), .second, .val (.long (1 : Int64)), .second, .unset, .unset, .unset, .unset, .unset, .unset, .unset, .unset]) rfl ?_
    refine own_iload X184 hx hby at_100 (pc' := 102) rfl rfl ?_
    refine own_iconst X184 hx hby at_102 (pc' := 103) rfl (n := (2 : Int32)) (by decide) ?_
    refine own_irem X184 hx hby at_103 (pc' := 104) rfl (by decide) ?_
    show own_End p e below _ (T184.setTop (mkF m 104 #[.val (.long p0), .second, .val (.long p1), .second, .val (.long p2), .second, .val (.long p3), .second, .val (.int p4), .val (.int p5), .val (.int (p5 &&& (3 : Int32))), .val (.ref b138), .val (.int (4 : Int32)), .val (.ref b182), .val (.long (0 : Int64)), .second, .val (.long (1 : Int64)), .second, .unset, .unset, .unset, .unset, .unset, .unset, .unset, .unset] [(.int (0 : Int32))]))
    refine own_ifY X184 hx hby at_104 (pc' := 111) (by decide) (by decide) (show (0 : Int32) = (0 : Int32) by decide) ?_
    refine own_iconst X184 hx hby at_111 (pc' := 112) rfl (n := (0 : Int32)) (by decide) ?_
    refine own_istore X184 hx hby at_112 (pc' := 114) rfl (l' := #[.val (.long p0), .second, .val (.long p1), .second, .val (.long p2), .second, .val (.long p3), .second, .val (.int p4), .val (.int p5), .val (.int (p5 &&& (3 : Int32))), .val (.ref b138), .val (.int (4 : Int32)), .val (.ref b182), .val (.long (0 : Int64)), .second, .val (.long (1 : Int64)), .second, .val (.int (0 : Int32)), .unset, .unset, .unset, .unset, .unset, .unset, .unset]) rfl ?_
    refine own_aload X184 hx hby at_114 (pc' := 116) rfl rfl rfl ?_
    refine own_iconst X184 hx hby at_116 (pc' := 117) rfl (n := (1 : Int32)) (by decide) ?_
    refine own_iload X184 hx hby at_117 (pc' := 119) rfl rfl ?_
    refine own_ifY X184 hx hby at_119 (pc' := 127) (by decide) (by decide) (show (0 : Int32) = (0 : Int32) by decide) ?_
    refine own_lload X184 hx hby at_127 (pc' := 129) rfl rfl ?_
    obtain ⟨cl187, Ar187, q187, S187, M187, H187, G187⟩ := id f_V_b182
    have hin187 : ¬ ((1 : Int32) < 0 ∨ cl187.slots.size ≤ ((1 : Int32)).toNatClampNeg) := inb_of S187 ⟨by decide, by decide⟩
    refine own_lastore X184 hx hZ hby e184 Ar187 hin187 at_129 (pc' := 130) rfl (fun T188 h188 X188 e188 W188 => ?_)
    have f_V_b182 := Arv.set Ar187 q187 S187 M187 H187 G187 rfl W188 1 rfl (Nat.le_of_ble_eq_true rfl)
    have f_V_b182 : Arv Z h188 b182 k182 .long (3 : Int32) [(.long (2 : Int64)), (.long (0 : Int64)), (.long (0 : Int64))] (.long (0 : Int64)) := f_V_b182
    have f_V_b138 := f_V_b138.other W188 ne_b138_b182
    have Zn := Nat.le_trans Zn (Keep.of_wr W188).1
    have N188 := Fr.snoc X188 N184 ge_b182
    refine own_aload X188 hx hby at_130 (pc' := 132) rfl rfl rfl ?_
    refine own_iconst X188 hx hby at_132 (pc' := 133) rfl (n := (2 : Int32)) (by decide) ?_
    refine own_iload X188 hx hby at_133 (pc' := 135) rfl rfl ?_
    refine own_ifY X188 hx hby at_135 (pc' := 143) (by decide) (by decide) (show (0 : Int32) = (0 : Int32) by decide) ?_
    refine own_lload X188 hx hby at_143 (pc' := 145) rfl rfl ?_
    obtain ⟨cl189, Ar189, q189, S189, M189, H189, G189⟩ := id f_V_b182
    have hin189 : ¬ ((2 : Int32) < 0 ∨ cl189.slots.size ≤ ((2 : Int32)).toNatClampNeg) := inb_of S189 ⟨by decide, by decide⟩
    refine own_lastore X188 hx hZ hby e188 Ar189 hin189 at_145 (pc' := 146) rfl (fun T190 h190 X190 e190 W190 => ?_)
    have f_V_b182 := Arv.set Ar189 q189 S189 M189 H189 G189 rfl W190 2 rfl (Nat.le_of_ble_eq_true rfl)
    have f_V_b182 : Arv Z h190 b182 k182 .long (3 : Int32) [(.long (2 : Int64)), (.long (0 : Int64)), (.long (1 : Int64))] (.long (0 : Int64)) := f_V_b182
    have f_V_b138 := f_V_b138.other W190 ne_b138_b182
    have Zn := Nat.le_trans Zn (Keep.of_wr W190).1
    have N190 := Fr.snoc X190 N188 ge_b182
    exact own_s146 Z a0 hw p0 p1 p2 p3 p4 p5 b138 b182 k138 k182 (p1 &&& (4611686018427387903 : Int64)) (p2 &&& (4611686018427387903 : Int64)) (p3 &&& (4611686018427387903 : Int64)) (2 : Int64) (0 : Int64) (1 : Int64) (p5 &&& (3 : Int32)) (4 : Int32) (0 : Int64) (1 : Int64) (0 : Int32)  h0 n0 h190 (own_mono X190 (by decide) (by decide)) hx hby hlk hml hown hret hZ e190 N190 Zn  f_V_b138 f_V_b182 (own_off _) (own_off _) (own_off _) (by decide) (by decide) (by decide) (own_and3 _)
  · rw [hs145]
    show own_End p e below _ (T144.setTop (mkF m 48 #[.val (.long p0), .second, .val (.long p1), .second, .val (.long p2), .second, .val (.long p3), .second, .val (.int p4), .val (.int p5), .val (.int (p5 &&& (3 : Int32))), .val (.ref b138), .unset, .unset, .unset, .unset, .unset, .unset, .unset, .unset, .unset, .unset, .unset, .unset, .unset, .unset] [(.int (5 : Int32))]))
    refine own_istore X144 hx hby at_48 (pc' := 50) rfl (l' := #[.val (.long p0), .second, .val (.long p1), .second, .val (.long p2), .second, .val (.long p3), .second, .val (.int p4), .val (.int p5), .val (.int (p5 &&& (3 : Int32))), .val (.ref b138), .val (.int (5 : Int32)), .unset, .unset, .unset, .unset, .unset, .unset, .unset, .unset, .unset, .unset, .unset, .unset, .unset]) rfl ?_
    refine own_iconst X144 hx hby at_50 (pc' := 51) rfl (n := (3 : Int32)) (by decide) ?_
    refine own_newP (aty := .long) X144 hx hZ hby (wd_0 hw) e144 at_51 (pc' := 53) rfl (by decide) (cap := 3) (by decide) (by decide) (by decide) (by decide) (fun T191 h191 k191 b191 g191 X191 e191 E191 A191 => ?_)
    have ne_b138_b191 : b138 ≠ b191 := Nat.ne_of_lt (by rw [g191]; exact f_V_b138.lt)
    have ge_b191 : n0 ≤ b191 := by rw [g191]; exact Zn
    have f_V_b138 := f_V_b138.ext E191
    have Zn := Nat.le_trans Zn E191.1
    have f_V_b191 : Arv Z h191 b191 k191 .long (3 : Int32) [(.long (0 : Int64)), (.long (0 : Int64)), (.long (0 : Int64))] (.long (0 : Int64)) := (Arv.new A191 (by decide)).pad (pad_rep [] (.long (0 : Int64)) 3)
    refine own_astore X191 hx hby at_53 (pc' := 55) rfl rfl (l' := #[.val (.long p0), .second, .val (.long p1), .second, .val (.long p2), .second, .val (.long p3), .second, .val (.int p4), .val (.int p5), .val (.int (p5 &&& (3 : Int32))), .val (.ref b138), .val (.int (5 : Int32)), .val (.ref b191), .unset, .unset, .unset, .unset, .unset, .unset, .unset, .unset, .unset, .unset, .unset, .unset]) rfl ?_
    refine own_aload X191 hx hby at_55 (pc' := 57) rfl rfl rfl ?_
    refine own_iconst X191 hx hby at_57 (pc' := 58) rfl (n := (0 : Int32)) (by decide) ?_
    refine own_iload X191 hx hby at_58 (pc' := 60) rfl rfl ?_
    refine own_iconst X191 hx hby at_60 (pc' := 61) rfl (n := (2 : Int32)) (by decide) ?_
    refine own_idiv X191 hx hby at_61 (pc' := 62) rfl (by decide) ?_
    show own_End p e below _ (T191.setTop (mkF m 62 #[.val (.long p0), .second, .val (.long p1), .second, .val (.long p2), .second, .val (.long p3), .second, .val (.int p4), .val (.int p5), .val (.int (p5 &&& (3 : Int32))), .val (.ref b138), .val (.int (5 : Int32)), .val (.ref b191), .unset, .unset, .unset, .unset, .unset, .unset, .unset, .unset, .unset, .unset, .unset, .unset] [(.int (2 : Int32)), (.int (0 : Int32)), (.ref b191)]))
    refine own_i2l X191 hx hby at_62 (pc' := 63) rfl ?_
    show own_End p e below _ (T191.setTop (mkF m 63 #[.val (.long p0), .second, .val (.long p1), .second, .val (.long p2), .second, .val (.long p3), .second, .val (.int p4), .val (.int p5), .val (.int (p5 &&& (3 : Int32))), .val (.ref b138), .val (.int (5 : Int32)), .val (.ref b191), .unset, .unset, .unset, .unset, .unset, .unset, .unset, .unset, .unset, .unset, .unset, .unset] [(.long (2 : Int64)), (.int (0 : Int32)), (.ref b191)]))
    obtain ⟨cl192, Ar192, q192, S192, M192, H192, G192⟩ := id f_V_b191
    have hin192 : ¬ ((0 : Int32) < 0 ∨ cl192.slots.size ≤ ((0 : Int32)).toNatClampNeg) := inb_of S192 ⟨by decide, by decide⟩
    refine own_lastore X191 hx hZ hby e191 Ar192 hin192 at_63 (pc' := 64) rfl (fun T193 h193 X193 e193 W193 => ?_)
    have f_V_b191 := Arv.set Ar192 q192 S192 M192 H192 G192 rfl W193 0 rfl (Nat.le_of_ble_eq_true rfl)
    have f_V_b191 : Arv Z h193 b191 k191 .long (3 : Int32) [(.long (2 : Int64)), (.long (0 : Int64)), (.long (0 : Int64))] (.long (0 : Int64)) := f_V_b191
    have f_V_b138 := f_V_b138.other W193 ne_b138_b191
    have Zn := Nat.le_trans Zn (Keep.of_wr W193).1
    have N193 := Fr.snoc X193 N144 ge_b191
    refine own_aload X193 hx hby at_64 (pc' := 66) rfl rfl rfl ?_
    refine own_iconst X193 hx hby at_66 (pc' := 67) rfl (n := (0 : Int32)) (by decide) ?_
    obtain ⟨cl194, Ar194, q194, S194, M194, H194, G194⟩ := id f_V_b191
    have hin194 : ¬ ((0 : Int32) < 0 ∨ cl194.slots.size ≤ ((0 : Int32)).toNatClampNeg) := inb_of S194 ⟨by decide, by decide⟩
    have hat194 : cl194.slots[((0 : Int32)).toNatClampNeg]? = some (.long (2 : Int64)) := H194.at hin194 rfl
    refine own_laload X193 hx hZ hby e193 Ar194 hin194 hat194 at_67 (pc' := 68) rfl ?_
    refine own_lconst X193 hx hby at_68 (pc' := 69) rfl (n := (0 : Int64)) (by decide) ?_
    refine own_lcmp X193 hx hby at_69 (pc' := 70) rfl ?_
    refine own_ifY X193 hx hby at_70 (pc' := 77) (by decide) (by decide) (own_ctL_y (show ¬ (2 : Int64) = (0 : Int64) by decide)) ?_
    refine own_lconst X193 hx hby at_77 (pc' := 78) rfl (n := (0 : Int64)) (by decide) ?_
    refine own_lstore X193 hx hby at_78 (pc' := 80) rfl (l' := #[.val (.long p0), .second, .val (.long p1), .second, .val (.long p2), .second, .val (.long p3), .second, .val (.int p4), .val (.int p5), .val (.int (p5 &&& (3 : Int32))), .val (.ref b138), .val (.int (5 : Int32)), .val (.ref b191), .val (.long (0 : Int64)), .second, .unset, .unset, .unset, .unset, .unset, .unset, .unset, .unset, .unset, .unset]) rfl ?_
    refine own_aload X193 hx hby at_80 (pc' := 82) rfl rfl rfl ?_
    refine own_iconst X193 hx hby at_82 (pc' := 83) rfl (n := (0 : Int32)) (by decide) ?_
    obtain ⟨cl195, Ar195, q195, S195, M195, H195, G195⟩ := id f_V_b191
    have hin195 : ¬ ((0 : Int32) < 0 ∨ cl195.slots.size ≤ ((0 : Int32)).toNatClampNeg) := inb_of S195 ⟨by decide, by decide⟩
    have hat195 : cl195.slots[((0 : Int32)).toNatClampNeg]? = some (.long (2 : Int64)) := H195.at hin195 rfl
    refine own_laload X193 hx hZ hby e193 Ar195 hin195 hat195 at_83 (pc' := 84) rfl ?_
    refine own_ldc2Long X193 hx hZ hby hown (wd_3 hw) at_84 (pc' := 87) rfl ?_
    refine own_lcmp X193 hx hby at_87 (pc' := 88) rfl ?_
    refine own_ifN X193 hx hby at_88 (pc' := 91) rfl (own_ctL_n (show (2 : Int64) = (2 : Int64) by decide)) ?_
    refine own_lconst X193 hx hby at_91 (pc' := 92) rfl (n := (1 : Int64)) (by decide) ?_
    refine own_goto X193 hx hby at_92 (pc' := 98) (by decide) (by decide) ?_
    refine own_lstore X193 hx hby at_98 (pc' := 100) rfl (l' := #[.val (.long p0), .second, .val (.long p1), .second, .val (.long p2), .second, .val (.long p3), .second, .val (.int p4), .val (.int p5), .val (.int (p5 &&& (3 : Int32))), .val (.ref b138), .val (.int (5 : Int32)), .val (.ref b191), .val (.long (0 : Int64)), .second, .val (.long (1 : Int64)), .second, .unset, .unset, .unset, .unset, .unset, .unset, .unset, .unset]) rfl ?_
    refine own_iload X193 hx hby at_100 (pc' := 102) rfl rfl ?_
    refine own_iconst X193 hx hby at_102 (pc' := 103) rfl (n := (2 : Int32)) (by decide) ?_
    refine own_irem X193 hx hby at_103 (pc' := 104) rfl (by decide) ?_
    show own_End p e below _ (T193.setTop (mkF m 104 #[.val (.long p0), .second, .val (.long p1), .second, .val (.long p2), .second, .val (.long p3), .second, .val (.int p4), .val (.int p5), .val (.int (p5 &&& (3 : Int32))), .val (.ref b138), .val (.int (5 : Int32)), .val (.ref b191), .val (.long (0 : Int64)), .second, .val (.long (1 : Int64)), .second, .unset, .unset, .unset, .unset, .unset, .unset, .unset, .unset] [(.int (1 : Int32))]))
    refine own_ifN X193 hx hby at_104 (pc' := 107) rfl (show ¬ (1 : Int32) = (0 : Int32) by decide) ?_
    refine own_iconst X193 hx hby at_107 (pc' := 108) rfl (n := (1 : Int32)) (by decide) ?_
    refine own_goto X193 hx hby at_108 (pc' := 112) (by decide) (by decide) ?_
    refine own_istore X193 hx hby at_112 (pc' := 114) rfl (l' := #[.val (.long p0), .second, .val (.long p1), .second, .val (.long p2), .second, .val (.long p3), .second, .val (.int p4), .val (.int p5), .val (.int (p5 &&& (3 : Int32))), .val (.ref b138), .val (.int (5 : Int32)), .val (.ref b191), .val (.long (0 : Int64)), .second, .val (.long (1 : Int64)), .second, .val (.int (1 : Int32)), .unset, .unset, .unset, .unset, .unset, .unset, .unset]) rfl ?_
    refine own_aload X193 hx hby at_114 (pc' := 116) rfl rfl rfl ?_
    refine own_iconst X193 hx hby at_116 (pc' := 117) rfl (n := (1 : Int32)) (by decide) ?_
    refine own_iload X193 hx hby at_117 (pc' := 119) rfl rfl ?_
    refine own_ifN X193 hx hby at_119 (pc' := 122) rfl (show ¬ (1 : Int32) = (0 : Int32) by decide) ?_
    refine own_lload X193 hx hby at_122 (pc' := 124) rfl rfl ?_
    refine own_goto X193 hx hby at_124 (pc' := 129) (by decide) (by decide) ?_
    obtain ⟨cl196, Ar196, q196, S196, M196, H196, G196⟩ := id f_V_b191
    have hin196 : ¬ ((1 : Int32) < 0 ∨ cl196.slots.size ≤ ((1 : Int32)).toNatClampNeg) := inb_of S196 ⟨by decide, by decide⟩
    refine own_lastore X193 hx hZ hby e193 Ar196 hin196 at_129 (pc' := 130) rfl (fun T197 h197 X197 e197 W197 => ?_)
    have f_V_b191 := Arv.set Ar196 q196 S196 M196 H196 G196 rfl W197 1 rfl (Nat.le_of_ble_eq_true rfl)
    have f_V_b191 : Arv Z h197 b191 k191 .long (3 : Int32) [(.long (2 : Int64)), (.long (1 : Int64)), (.long (0 : Int64))] (.long (0 : Int64)) := f_V_b191
    have f_V_b138 := f_V_b138.other W197 ne_b138_b191
    have Zn := Nat.le_trans Zn (Keep.of_wr W197).1
    have N197 := Fr.snoc X197 N193 ge_b191
    refine own_aload X197 hx hby at_130 (pc' := 132) rfl rfl rfl ?_
    refine own_iconst X197 hx hby at_132 (pc' := 133) rfl (n := (2 : Int32)) (by decide) ?_
    refine own_iload X197 hx hby at_133 (pc' := 135) rfl rfl ?_
    refine own_ifN X197 hx hby at_135 (pc' := 138) rfl (show ¬ (1 : Int32) = (0 : Int32) by decide) ?_
    refine own_lload X197 hx hby at_138 (pc' := 140) rfl rfl ?_
    refine own_goto X197 hx hby at_140 (pc' := 145) (by decide) (by decide) ?_
    obtain ⟨cl198, Ar198, q198, S198, M198, H198, G198⟩ := id f_V_b191
    have hin198 : ¬ ((2 : Int32) < 0 ∨ cl198.slots.size ≤ ((2 : Int32)).toNatClampNeg) := inb_of S198 ⟨by decide, by decide⟩
    refine own_lastore X197 hx hZ hby e197 Ar198 hin198 at_145 (pc' := 146) rfl (fun T199 h199 X199 e199 W199 => ?_)
    have f_V_b191 := Arv.set Ar198 q198 S198 M198 H198 G198 rfl W199 2 rfl (Nat.le_of_ble_eq_true rfl)
    have f_V_b191 : Arv Z h199 b191 k191 .long (3 : Int32) [(.long (2 : Int64)), (.long (1 : Int64)), (.long (0 : Int64))] (.long (0 : Int64)) := f_V_b191
    have f_V_b138 := f_V_b138.other W199 ne_b138_b191
    have Zn := Nat.le_trans Zn (Keep.of_wr W199).1
    have N199 := Fr.snoc X199 N197 ge_b191
    exact own_s146 Z a0 hw p0 p1 p2 p3 p4 p5 b138 b191 k138 k191 (p1 &&& (4611686018427387903 : Int64)) (p2 &&& (4611686018427387903 : Int64)) (p3 &&& (4611686018427387903 : Int64)) (2 : Int64) (1 : Int64) (0 : Int64) (p5 &&& (3 : Int32)) (5 : Int32) (0 : Int64) (1 : Int64) (1 : Int32)  h0 n0 h199 (own_mono X199 (by decide) (by decide)) hx hby hlk hml hown hret hZ e199 N199 Zn  f_V_b138 f_V_b191 (own_off _) (own_off _) (own_off _) (by decide) (by decide) (by decide) (own_and3 _)
set_option maxRecDepth 65536 in
set_option maxHeartbeats 40000000 in
theorem comes_1 {Post : Tables → Env → Array Value → State → Outcome → State → Prop} (hpost : ∀ tb e args s v u, (limb_1_1.after args s (.returned v) u = true ∧ limb_1_2.after args s (.returned v) u = true ∧ True) → FrameEnd s (.returned v) u (Jvm.fieldLocs frame_1_writes args s ++ Jvm.arrayLocs frame_1_arrays args s ++ Jvm.staticLocs frame_1_statics s) 24 192 → Post tb e args s (.returned v) u) :
    ArmFor flags0 classFile x code maxLocals ret World_1 tables_1 room_1 Calls_1 rest_1 Pre_1 Post := by
  intro l hfl _ _ p e ha hc hk s m args below hf hA hF happ hP
  obtain ⟨hcalls, hrest, hpre⟩ := hP
  obtain ⟨-, -, -, hnamed, -, -, -, hat⟩ := (Spec.applies_iff hf).mp happ
  obtain ⟨hg, hn⟩ := and_e (Cond.before_iff.mp (show (Jvm.Cond.and given_1 narrow_1).before args s = true from hpre))
  obtain ⟨g1, g2⟩ := and_e hg
  obtain ⟨g3, g4⟩ := and_e g2
  obtain ⟨g5, g6⟩ := and_e g4
  obtain ⟨g7, g8⟩ := and_e g6
  obtain ⟨g9, g10⟩ := and_e g8
  obtain ⟨g11, g12⟩ := and_e g10
  obtain ⟨w0, w1, w2, w3, w4, w5, rfl⟩ : ∃ w0 w1 w2 w3 w4 w5 : Value, args = #[w0, w1, w2, w3, w4, w5] := by
    have hs : args.size = 6 := by simpa [Cond.value, given_1] using g1
    obtain ⟨L⟩ := args
    match L, hs with
    | [w0, w1, w2, w3, w4, w5], _ => exact ⟨w0, w1, w2, w3, w4, w5, rfl⟩
  have hw := fun d (hd : d ∈ tables_1) => atoms_spec (ws := Jvm.Cond.code x code maxLocals ret :: tables_1) hat d (List.mem_cons_of_mem _ hd)
  have hfit : Fit s := fun {y c} hc i hi => by
    obtain ⟨ha, rfl⟩ := Array.getElem?_eq_some_iff.mp hc
    have q := List.all_eq_true.mp ((Array.all_eq_true_iff_forall_mem.mp hF) _ (Array.getElem_mem ha)) i (List.mem_range.mpr hi)
    simpa [Array.getElem?_eq_getElem hi] using q
  obtain ⟨i0, ei0⟩ := isL_v g3
  obtain rfl : w0 = (.long i0) := Option.some.inj ei0
  obtain ⟨i1, ei1⟩ := isL_v g5
  obtain rfl : w1 = (.long i1) := Option.some.inj ei1
  obtain ⟨i2, ei2⟩ := isL_v g7
  obtain rfl : w2 = (.long i2) := Option.some.inj ei2
  obtain ⟨i3, ei3⟩ := isL_v g9
  obtain rfl : w3 = (.long i3) := Option.some.inj ei3
  obtain ⟨i4, ei4⟩ := is_v g11
  obtain rfl : w4 = (.int i4) := Option.some.inj ei4
  obtain ⟨i5, ei5⟩ := is_v g12
  obtain rfl : w5 = (.int i5) := Option.some.inj ei5
  obtain ⟨n, o, h1, h2, h3, _, L, rfl, ⟨rfl, N⟩, hq⟩ := rm0 l s _ hw tables_1 i0 i1 i2 i3 i4 i5 s.heap s.heap.size (Nat.le_refl _)  p e ha hc hk s m _ below hf ((Spec.applies_iff_loose hf).mp happ).1 ⟨rfl, State.Warmed39.refl s, rfl⟩ trivial
  refine ⟨n, _, h1, h2, h3, hpost _ _ _ _ _ _ ⟨Cond.after_iff.mpr rfl, Cond.after_iff.mpr (eq_i res_at (Term.int_eval (1)) rfl), trivial⟩ ⟨hq.1, hq.2.1, (hq.2.2.sift fun y hy => Or.inr (N y hy)).mono (by decide) (by decide)⟩⟩
theorem main_1_1 : Claimed_1_1 := comes_1 fun _ _ _ _ _ _ h hF => ⟨h.1, hF⟩
theorem main_1_2 : Claimed_1_2 := comes_1 fun _ _ _ _ _ _ h hF => ⟨h.2.1, hF⟩
end Jvm.Pilot.@@N@@
namespace Jvm.Pilot.@@N@@
open Jvm Jvm.ClassFile Sem Op Lib Jvm.Free Jvm.Stand Jvm.Pilot.@@N@@.Jvm.D
/-! MADE BY PROGRAM (witnessworld.py) out of the Statement's table words and the real class files: 13 classes; the members and pool entries that the words name. The judged class is class 1, her method 1. -/
namespace start1
open Jvm.ClassFile
def u (s : String) : CpInfo := .utf8 (stringToUtf16 s)
/-- a pool by its gaps: so many unusable entries, then the entry; so many at the end -/
def gap : Nat → List CpInfo → List CpInfo
  | 0, r => r
  | n + 1, r => .unusable :: gap n r
def poolList (es : List (Nat × CpInfo)) (last : Nat) : List CpInfo := es.foldr (fun e r => gap e.1 (e.2 :: r)) (gap last [])
def pool (es : List (Nat × CpInfo)) (last : Nat) : Array CpInfo := ⟨poolList es last⟩
def fileOf (pool : Array CpInfo) (this : Nat) (attrs : Array Attribute := #[]) (ms : Array MethodInfo := #[]) (fl : Nat := 33) (sup : Nat := 0) (ifs : Array Nat := #[]) (fds : Array FieldInfo := #[]) : ClassFile where
  minorVersion := 0
  majorVersion := 65
  constantPool := pool
  accessFlags := fl
  thisClass := this
  superClass := sup
  interfaces := ifs
  fields := fds
  methods := ms
  attributes := attrs
def plain (name : String) (sup : Option ClassId) : Class where
  name := name
  kind := .ordinary
  loader := none
  accessFlags := 33
  super := sup
  interfaces := #[]
  cf := none
  fields := #[]
  methods := #[]
  instanceTypes := #[]
  staticTypes := #[]
  resolved := #[]
  callSites := []
  init := .initialized
  statics := none
  mirror := none

def pool0 : Array CpInfo := pool [(5, u "<init>"), (0, u "()V"), (1, .class_ 10), (1, u "java/lang/Object")] 113

def k0c0 : Code := { maxStack := 0, maxLocals := 1, code := object_method_1_code, exceptionTable := #[], attributes := #[] }
def k0m0 : Method := { name := "<init>", desc := "()V", sig := { parameters := [], returnType := none }, accessFlags := 1, code := some k0c0 }
/-- java/lang/Object -/
def k0 : Class := { plain "java/lang/Object" none with
  accessFlags := 33
  interfaces := #[]
  cf := some (fileOf pool0 8 #[] #[{ accessFlags := 1, nameIndex := 5, descriptorIndex := 6, attributes := #[] }] 33 0 #[] #[])
  fields := #[]
  methods := #[k0m0]
  instanceTypes := #[]
  staticTypes := #[]
  resolved := Array.replicate 124 none
  statics := none }

def pool1 : Array CpInfo := pool [(2, .class_ 4), (0, .nameAndType 5 6), (0, u "java/lang/Object"), (0, u "<init>"), (0, u "()V"), (0, .long 4611686018427387903), (1, .integer 2147483647), (0, .long 2), (1, .class_ 13), (0, u "com/example/earnest_reactor/earnestreactor/core/ScheduledTask"), (0, .methodref 12 15), (0, .nameAndType 5 16), (0, u "(Lcom/example/earnest_reactor/earnestreactor/core/EventLoop;JJLjava/lang/Runnable;)V"), (0, .class_ 18), (0, u "com/example/earnest_reactor/earnestreactor/core/TimerQueue"), (0, .methodref 17 3), (0, .methodref 17 21), (0, .nameAndType 22 23), (0, u "add"), (0, u "(Lcom/example/earnest_reactor/earnestreactor/core/ScheduledTask;)V"), (0, .methodref 17 25), (0, .nameAndType 26 27), (0, u "poll"), (0, u "()Lcom/example/earnest_reactor/earnestreactor/core/ScheduledTask;"), (0, .methodref 29 30), (0, .class_ 31), (0, .nameAndType 32 33), (0, u "com/example/earnest_reactor/earnestreactor/core/TimerQueuePollPinLaw"), (0, u "expect"), (0, u "([J[JII[Lcom/example/earnest_reactor/earnestreactor/core/ScheduledTask;)Lcom/example/earnest_reactor/earnestreactor/core/ScheduledTask;"), (0, .methodref 12 35), (0, .nameAndType 36 37), (0, u "queueIndex"), (0, u "()I"), (0, .methodref 29 39), (0, .nameAndType 40 41), (0, u "before"), (0, u "([J[JII)Z"), (0, .methodref 29 43), (0, .nameAndType 44 45), (0, u "rank"), (0, u "([J[JII)I"), (2, u "law"), (0, u "(JJJJII)Z")] 7

def k1m0 : Method := { name := "<init>", desc := "()V", sig := { parameters := [], returnType := none }, accessFlags := 1, code := none }
def k1c1 : Code := { maxStack := 10, maxLocals := 26, code := code, exceptionTable := #[], attributes := #[] }
def k1m1 : Method := { name := "law", desc := "(JJJJII)Z", sig := { parameters := [.long, .long, .long, .long, .int, .int], returnType := some .boolean }, accessFlags := 9, code := some k1c1 }
def k1c2 : Code := { maxStack := 4, maxLocals := 4, code := method_3_code, exceptionTable := #[], attributes := #[] }
def k1m2 : Method := { name := "before", desc := "([J[JII)Z", sig := { parameters := [(.array .long), (.array .long), .int, .int], returnType := some .boolean }, accessFlags := 10, code := some k1c2 }
def k1c3 : Code := { maxStack := 4, maxLocals := 5, code := method_4_code, exceptionTable := #[], attributes := #[] }
def k1m3 : Method := { name := "rank", desc := "([J[JII)I", sig := { parameters := [(.array .long), (.array .long), .int, .int], returnType := some .int }, accessFlags := 10, code := some k1c3 }
def k1c4 : Code := { maxStack := 4, maxLocals := 5, code := method_5_code, exceptionTable := #[], attributes := #[] }
def k1m4 : Method := { name := "expect", desc := "([J[JII[Lcom/example/earnest_reactor/earnestreactor/core/ScheduledTask;)Lcom/example/earnest_reactor/earnestreactor/core/ScheduledTask;", sig := { parameters := [(.array .long), (.array .long), .int, .int, (.array (.object "com/example/earnest_reactor/earnestreactor/core/ScheduledTask"))], returnType := some (.object "com/example/earnest_reactor/earnestreactor/core/ScheduledTask") }, accessFlags := 10, code := some k1c4 }
/-- com/example/earnest_reactor/earnestreactor/core/TimerQueuePollPinLaw -/
def k1 : Class := { plain "com/example/earnest_reactor/earnestreactor/core/TimerQueuePollPinLaw" (some 0) with
  accessFlags := 49
  interfaces := #[]
  cf := some (fileOf pool1 29 #[] #[{ accessFlags := 1, nameIndex := 5, descriptorIndex := 6, attributes := #[] }, { accessFlags := 9, nameIndex := 48, descriptorIndex := 49, attributes := #[] }, { accessFlags := 10, nameIndex := 40, descriptorIndex := 41, attributes := #[] }, { accessFlags := 10, nameIndex := 44, descriptorIndex := 45, attributes := #[] }, { accessFlags := 10, nameIndex := 32, descriptorIndex := 33, attributes := #[] }] 49 2 #[] #[])
  fields := #[]
  methods := #[k1m0, k1m1, k1m2, k1m3, k1m4]
  instanceTypes := #[]
  staticTypes := #[]
  resolved := Array.replicate 57 none
  statics := none }

def pool2 : Array CpInfo := pool [(1, .methodref 2 3), (0, .class_ 4), (0, .nameAndType 5 6), (0, u "java/lang/Object"), (0, u "<init>"), (0, u "()V"), (0, .fieldref 8 9), (0, .class_ 10), (0, .nameAndType 11 12), (0, u "com/example/earnest_reactor/earnestreactor/core/ScheduledTask"), (0, u "queueIndex"), (0, u "I"), (0, .fieldref 8 14), (0, .nameAndType 15 16), (0, u "loop"), (0, u "Lcom/example/earnest_reactor/earnestreactor/core/EventLoop;"), (0, .fieldref 8 18), (0, .nameAndType 19 20), (0, u "deadline"), (0, u "J"), (0, .fieldref 8 22), (0, .nameAndType 23 20), (0, u "sequence"), (0, .fieldref 8 25), (0, .nameAndType 26 27), (0, u "task"), (0, u "Ljava/lang/Runnable;"), (5, u "(Lcom/example/earnest_reactor/earnestreactor/core/ScheduledTask;)Z"), (0, u "(Lcom/example/earnest_reactor/earnestreactor/core/EventLoop;JJLjava/lang/Runnable;)V"), (5, u "runsBefore"), (1, u "()I"), (0, u "(I)V")] 2

def k2c0 : Code := { maxStack := 3, maxLocals := 7, code := prog_31_method_1_code, exceptionTable := #[], attributes := #[] }
def k2m0 : Method := { name := "<init>", desc := "(Lcom/example/earnest_reactor/earnestreactor/core/EventLoop;JJLjava/lang/Runnable;)V", sig := { parameters := [(.object "com/example/earnest_reactor/earnestreactor/core/EventLoop"), .long, .long, (.object "java/lang/Runnable")], returnType := none }, accessFlags := 0, code := some k2c0 }
def k2c1 : Code := { maxStack := 4, maxLocals := 4, code := prog_31_method_5_code, exceptionTable := #[], attributes := #[] }
def k2m1 : Method := { name := "runsBefore", desc := "(Lcom/example/earnest_reactor/earnestreactor/core/ScheduledTask;)Z", sig := { parameters := [(.object "com/example/earnest_reactor/earnestreactor/core/ScheduledTask")], returnType := some .boolean }, accessFlags := 0, code := some k2c1 }
def k2c2 : Code := { maxStack := 1, maxLocals := 1, code := prog_31_method_6_code, exceptionTable := #[], attributes := #[] }
def k2m2 : Method := { name := "queueIndex", desc := "()I", sig := { parameters := [], returnType := some .int }, accessFlags := 0, code := some k2c2 }
def k2c3 : Code := { maxStack := 2, maxLocals := 2, code := prog_31_method_7_code, exceptionTable := #[], attributes := #[] }
def k2m3 : Method := { name := "queueIndex", desc := "(I)V", sig := { parameters := [.int], returnType := none }, accessFlags := 0, code := some k2c3 }
/-- com/example/earnest_reactor/earnestreactor/core/ScheduledTask -/
def k2 : Class := { plain "com/example/earnest_reactor/earnestreactor/core/ScheduledTask" (some 0) with
  accessFlags := 33
  interfaces := #[]
  cf := some (fileOf pool2 8 #[] #[{ accessFlags := 0, nameIndex := 5, descriptorIndex := 34, attributes := #[] }, { accessFlags := 0, nameIndex := 40, descriptorIndex := 33, attributes := #[] }, { accessFlags := 0, nameIndex := 11, descriptorIndex := 42, attributes := #[] }, { accessFlags := 0, nameIndex := 11, descriptorIndex := 43, attributes := #[] }] 33 2 #[] #[{ accessFlags := 18, nameIndex := 15, descriptorIndex := 16, attributes := #[] }, { accessFlags := 18, nameIndex := 19, descriptorIndex := 20, attributes := #[] }, { accessFlags := 18, nameIndex := 23, descriptorIndex := 20, attributes := #[] }, { accessFlags := 18, nameIndex := 26, descriptorIndex := 27, attributes := #[] }, { accessFlags := 2, nameIndex := 11, descriptorIndex := 12, attributes := #[] }])
  fields := #[{ name := "loop", type := (.object "com/example/earnest_reactor/earnestreactor/core/EventLoop"), accessFlags := 18, slot := 0, constantValue := 0 }, { name := "deadline", type := .long, accessFlags := 18, slot := 1, constantValue := 0 }, { name := "sequence", type := .long, accessFlags := 18, slot := 2, constantValue := 0 }, { name := "task", type := (.object "java/lang/Runnable"), accessFlags := 18, slot := 3, constantValue := 0 }, { name := "queueIndex", type := .int, accessFlags := 2, slot := 4, constantValue := 0 }]
  methods := #[k2m0, k2m1, k2m2, k2m3]
  instanceTypes := #[(.object "com/example/earnest_reactor/earnestreactor/core/EventLoop"), .long, .long, (.object "java/lang/Runnable"), .int]
  staticTypes := #[]
  resolved := Array.replicate 46 none
  statics := none }

def pool3 : Array CpInfo := pool [(1, .methodref 2 3), (0, .class_ 4), (0, .nameAndType 5 6), (0, u "java/lang/Object"), (0, u "<init>"), (0, u "()V"), (0, .class_ 8), (0, u "com/example/earnest_reactor/earnestreactor/core/TimerQueue"), (0, .class_ 10), (0, u "com/example/earnest_reactor/earnestreactor/core/ScheduledTask"), (0, .fieldref 7 12), (0, .nameAndType 13 14), (0, u "heap"), (0, u "[Lcom/example/earnest_reactor/earnestreactor/core/ScheduledTask;"), (0, .fieldref 7 16), (0, .nameAndType 17 18), (0, u "size"), (0, u "I"), (7, .methodref 7 27), (0, .nameAndType 28 29), (0, u "siftUp"), (0, u "(ILcom/example/earnest_reactor/earnestreactor/core/ScheduledTask;)V"), (0, .methodref 7 31), (0, .nameAndType 32 33), (0, u "removeAt"), (0, u "(I)V"), (2, u "queueIndex"), (1, .methodref 9 39), (0, .nameAndType 36 33), (0, .methodref 7 41), (0, .nameAndType 42 29), (0, u "siftDown"), (0, .methodref 9 44), (0, .nameAndType 45 46), (0, u "runsBefore"), (0, u "(Lcom/example/earnest_reactor/earnestreactor/core/ScheduledTask;)Z"), (0, .methodref 7 48), (0, .nameAndType 49 29), (0, u "place"), (0, u "INITIAL_CAPACITY"), (8, u "()Lcom/example/earnest_reactor/earnestreactor/core/ScheduledTask;"), (0, u "add"), (0, u "(Lcom/example/earnest_reactor/earnestreactor/core/ScheduledTask;)V"), (0, u "poll")] 3

def k3c0 : Code := { maxStack := 2, maxLocals := 1, code := prog_35_method_1_code, exceptionTable := #[], attributes := #[] }
def k3m0 : Method := { name := "<init>", desc := "()V", sig := { parameters := [], returnType := none }, accessFlags := 0, code := some k3c0 }
def k3c1 : Code := { maxStack := 4, maxLocals := 2, code := prog_35_method_4_code, exceptionTable := #[], attributes := #[] }
def k3m1 : Method := { name := "add", desc := "(Lcom/example/earnest_reactor/earnestreactor/core/ScheduledTask;)V", sig := { parameters := [(.object "com/example/earnest_reactor/earnestreactor/core/ScheduledTask")], returnType := none }, accessFlags := 0, code := some k3c1 }
def k3c2 : Code := { maxStack := 2, maxLocals := 2, code := prog_35_method_5_code, exceptionTable := #[], attributes := #[] }
def k3m2 : Method := { name := "poll", desc := "()Lcom/example/earnest_reactor/earnestreactor/core/ScheduledTask;", sig := { parameters := [], returnType := some (.object "com/example/earnest_reactor/earnestreactor/core/ScheduledTask") }, accessFlags := 0, code := some k3c2 }
def k3c3 : Code := { maxStack := 3, maxLocals := 4, code := prog_35_method_7_code, exceptionTable := #[], attributes := #[] }
def k3m3 : Method := { name := "removeAt", desc := "(I)V", sig := { parameters := [.int], returnType := none }, accessFlags := 2, code := some k3c3 }
def k3c4 : Code := { maxStack := 4, maxLocals := 5, code := prog_35_method_8_code, exceptionTable := #[], attributes := #[] }
def k3m4 : Method := { name := "siftUp", desc := "(ILcom/example/earnest_reactor/earnestreactor/core/ScheduledTask;)V", sig := { parameters := [.int, (.object "com/example/earnest_reactor/earnestreactor/core/ScheduledTask")], returnType := none }, accessFlags := 2, code := some k3c4 }
def k3c5 : Code := { maxStack := 4, maxLocals := 6, code := prog_35_method_9_code, exceptionTable := #[], attributes := #[] }
def k3m5 : Method := { name := "siftDown", desc := "(ILcom/example/earnest_reactor/earnestreactor/core/ScheduledTask;)V", sig := { parameters := [.int, (.object "com/example/earnest_reactor/earnestreactor/core/ScheduledTask")], returnType := none }, accessFlags := 2, code := some k3c5 }
def k3c6 : Code := { maxStack := 3, maxLocals := 3, code := prog_35_method_10_code, exceptionTable := #[], attributes := #[] }
def k3m6 : Method := { name := "place", desc := "(ILcom/example/earnest_reactor/earnestreactor/core/ScheduledTask;)V", sig := { parameters := [.int, (.object "com/example/earnest_reactor/earnestreactor/core/ScheduledTask")], returnType := none }, accessFlags := 2, code := some k3c6 }
/-- com/example/earnest_reactor/earnestreactor/core/TimerQueue -/
def k3 : Class := { plain "com/example/earnest_reactor/earnestreactor/core/TimerQueue" (some 0) with
  accessFlags := 32
  interfaces := #[]
  cf := some (fileOf pool3 7 #[] #[{ accessFlags := 0, nameIndex := 5, descriptorIndex := 6, attributes := #[] }, { accessFlags := 0, nameIndex := 60, descriptorIndex := 61, attributes := #[] }, { accessFlags := 0, nameIndex := 62, descriptorIndex := 59, attributes := #[] }, { accessFlags := 2, nameIndex := 32, descriptorIndex := 33, attributes := #[] }, { accessFlags := 2, nameIndex := 28, descriptorIndex := 29, attributes := #[] }, { accessFlags := 2, nameIndex := 42, descriptorIndex := 29, attributes := #[] }, { accessFlags := 2, nameIndex := 49, descriptorIndex := 29, attributes := #[] }] 32 2 #[] #[{ accessFlags := 26, nameIndex := 50, descriptorIndex := 18, attributes := #[] }, { accessFlags := 2, nameIndex := 13, descriptorIndex := 14, attributes := #[] }, { accessFlags := 2, nameIndex := 17, descriptorIndex := 18, attributes := #[] }])
  fields := #[{ name := "INITIAL_CAPACITY", type := .int, accessFlags := 26, slot := 0, constantValue := 0 }, { name := "heap", type := (.array (.object "com/example/earnest_reactor/earnestreactor/core/ScheduledTask")), accessFlags := 2, slot := 0, constantValue := 0 }, { name := "size", type := .int, accessFlags := 2, slot := 1, constantValue := 0 }]
  methods := #[k3m0, k3m1, k3m2, k3m3, k3m4, k3m5, k3m6]
  instanceTypes := #[(.array (.object "com/example/earnest_reactor/earnestreactor/core/ScheduledTask")), .int]
  staticTypes := #[.int]
  resolved := Array.replicate 66 none
  statics := none }

def pool4 : Array CpInfo := pool [(1, u "java/lang/Cloneable"), (0, .class_ 1), (0, u "java/lang/Object"), (0, .class_ 3)] 3

/-- java/lang/Cloneable -/
def k4 : Class := { plain "java/lang/Cloneable" (some 0) with
  accessFlags := 1537
  interfaces := #[]
  cf := some (fileOf pool4 2 #[] #[] 1537 4 #[] #[])
  fields := #[]
  methods := #[]
  instanceTypes := #[]
  staticTypes := #[]
  resolved := Array.replicate 8 none
  statics := none }

def pool5 : Array CpInfo := pool [(1, u "java/io/Serializable"), (0, .class_ 1), (0, u "java/lang/Object"), (0, .class_ 3)] 3

/-- java/io/Serializable -/
def k5 : Class := { plain "java/io/Serializable" (some 0) with
  accessFlags := 1537
  interfaces := #[]
  cf := some (fileOf pool5 2 #[] #[] 1537 4 #[] #[])
  fields := #[]
  methods := #[]
  instanceTypes := #[]
  staticTypes := #[]
  resolved := Array.replicate 8 none
  statics := none }

/-- the primitive byte -/
def k6 : Class := { plain "byte" none with kind := .primitive 'B', accessFlags := 0x411 }
/-- [B -/
def k7 : Class := { plain "[B" (some 0) with kind := .array 6 .byte, interfaces := #[4, 5], accessFlags := 1041 }

/-- the primitive int -/
def k8 : Class := { plain "int" none with kind := .primitive 'I', accessFlags := 0x411 }
/-- [I -/
def k9 : Class := { plain "[I" (some 0) with kind := .array 8 .int, interfaces := #[4, 5], accessFlags := 1041 }

/-- the primitive long -/
def k10 : Class := { plain "long" none with kind := .primitive 'J', accessFlags := 0x411 }
/-- [J -/
def k11 : Class := { plain "[J" (some 0) with kind := .array 10 .long, interfaces := #[4, 5], accessFlags := 1041 }

/-- [Lcom/example/earnest_reactor/earnestreactor/core/ScheduledTask; -/
def k12 : Class := { plain "[Lcom/example/earnest_reactor/earnestreactor/core/ScheduledTask;" (some 0) with kind := .array 2 (.object "com/example/earnest_reactor/earnestreactor/core/ScheduledTask"), interfaces := #[4, 5], accessFlags := 1041 }

def heap : Heap := #[]
def classes : Array Class := #[k0, k1, k2, k3, k4, k5, k6, k7, k8, k9, k10, k11, k12]
def interned : List (Array UInt16 × Addr) := []
def slotsUsed : Nat := 0
def theMethod : MethodId := ⟨1, 1⟩
def args0 : Array Value := #[.long 5, .long 5, .long 5, .long 5, .int 5, .int 5]
def aboutOver (below : List Frame) : State where
  vm := { classes := classes, interned := interned.toArray }
  heap := heap
  slotsUsed := slotsUsed
  threads := #[{ frames := .invoking theMethod args0 :: below }]
def below0 : List Frame := [.native { method := ⟨0, 0⟩, args := #[] }]
def about1 : State := aboutOver below0
def p0 : Program := .bare "" "" ""
def e0 : Env := launch0.env 0 0 0
theorem w_frames : about1.frames = Frame.invoking theMethod args0 :: below0 := rfl
set_option maxRecDepth 65536 in
theorem w_args : argsFit about1.vm theMethod args0 = true := by decide +kernel
set_option maxRecDepth 65536 in
theorem w_heap : heapFits about1 = true := by decide +kernel
set_option maxRecDepth 65536 in
theorem w_runnable : about1.curStatus? = some .runnable := by decide +kernel
set_option maxRecDepth 65536 in
theorem w_alone : about1.alone = true := by decide +kernel
set_option maxRecDepth 65536 in
theorem w_named : about1.methodNamed? x = some theMethod := by decide +kernel
set_option maxRecDepth 65536 in
theorem w_hears : about1.hears theMethod below0 = true := by decide +kernel
set_option maxRecDepth 65536 in
theorem w_ripe : about1.ripe theMethod args0 below0 = true := by decide +kernel
theorem w_running : about1.status = .running := rfl
set_option maxRecDepth 65536 in
theorem w_room : about1.hasRoom e0.platform room_1 = true :=
  launch0.hasRoom_least _ room_1 (by decide +kernel) (by decide +kernel) (by decide +kernel) (by decide +kernel) (by decide +kernel) (by decide +kernel)
theorem allAtoms_all (ts : List Jvm.Cond) (a : Array Jvm.Value) (st : Jvm.State) : (allAtoms ts).before a st = ts.all (fun c => c.before a st) := by
  induction ts with
  | nil => rfl
  | cons c t ih =>
    show (Jvm.Cond.and c (allAtoms t)).before a st = _
    rw [Jvm.Cond.before_and, ih, List.all_cons]
def words1 : List Jvm.Cond := Jvm.Cond.code x code maxLocals ret :: tables_1
/-- a 'code' word, met by the world's own term for the bytes: nothing is compared byte by byte -/
theorem code_word {y : MethodName} {bytes : ByteArray} {mx : Nat} {rt : Option FieldType} {a : Array Value} {s : State} {m : MethodId} {meth : Method} {c : Code} (h1 : s.methodNamed? y = some m) (h2 : s.vm.method? m = some meth) (h3 : meth.code = some c) (h4 : c.code = bytes)
    (h5 : (c.maxLocals == mx && c.exceptionTable.isEmpty && decide (c.maxStack ≤ mostOperands) && decide (meth.sig.returnType = rt) && !meth.locks && decide (parseMethodDescriptor y.desc = some meth.sig)) = true) : (Jvm.Cond.code y bytes mx rt).before a s = true := by
  simp only [Bool.and_eq_true, beq_iff_eq, Bool.not_eq_true', decide_eq_true_eq] at h5
  obtain ⟨⟨⟨⟨⟨g1, g2⟩, g3⟩, g4⟩, g5⟩, g6⟩ := h5
  simp [Cond.before, Cond.holds, Cond.value, h1, h2, h3, h4, g1, g2, g3, g4, g5, g6]
def isCode : Jvm.Cond → Bool
  | .code _ _ _ _ => true
  | _ => false
theorem all_split {L : List Jvm.Cond} {P : Jvm.Cond → Bool} (h1 : L.all (fun c => isCode c || P c) = true) (h2 : ∀ c ∈ L.filter isCode, P c = true) : L.all P = true := by
  refine List.all_eq_true.mpr fun c hc => ?_
  have h := List.all_eq_true.mp h1 c hc
  rcases Bool.eq_false_or_eq_true (isCode c) with hi | hi
  · exact h2 c (List.mem_filter.mpr ⟨hc, hi⟩)
  · simpa [hi] using h
set_option maxRecDepth 65536 in
theorem w_c0 : (Jvm.Cond.code x code maxLocals ret).before args0 about1 = true := code_word (m := ⟨1, 1⟩) (meth := k1m1) (c := k1c1) (by decide +kernel) rfl rfl rfl (by decide +kernel)
set_option maxRecDepth 65536 in
theorem w_c1 : (Jvm.Cond.code ({ cls := "com/example/earnest_reactor/earnestreactor/core/ScheduledTask", name := "<init>", desc := "(Lcom/example/earnest_reactor/earnestreactor/core/EventLoop;JJLjava/lang/Runnable;)V" } : Jvm.MethodName) prog_31_method_1_code (7 : Nat) (Option.none : Option Jvm.ClassFile.FieldType)).before args0 about1 = true := code_word (m := ⟨2, 0⟩) (meth := k2m0) (c := k2c0) (by decide +kernel) rfl rfl rfl (by decide +kernel)
set_option maxRecDepth 65536 in
theorem w_c2 : (Jvm.Cond.code ({ cls := "java/lang/Object", name := "<init>", desc := "()V" } : Jvm.MethodName) object_method_1_code (1 : Nat) (Option.none : Option Jvm.ClassFile.FieldType)).before args0 about1 = true := code_word (m := ⟨0, 0⟩) (meth := k0m0) (c := k0c0) (by decide +kernel) rfl rfl rfl (by decide +kernel)
set_option maxRecDepth 65536 in
theorem w_c3 : (Jvm.Cond.code ({ cls := "com/example/earnest_reactor/earnestreactor/core/TimerQueue", name := "<init>", desc := "()V" } : Jvm.MethodName) prog_35_method_1_code (1 : Nat) (Option.none : Option Jvm.ClassFile.FieldType)).before args0 about1 = true := code_word (m := ⟨3, 0⟩) (meth := k3m0) (c := k3c0) (by decide +kernel) rfl rfl rfl (by decide +kernel)
set_option maxRecDepth 65536 in
theorem w_c4 : (Jvm.Cond.code ({ cls := "com/example/earnest_reactor/earnestreactor/core/TimerQueue", name := "poll", desc := "()Lcom/example/earnest_reactor/earnestreactor/core/ScheduledTask;" } : Jvm.MethodName) prog_35_method_5_code (2 : Nat) (Option.some (Jvm.ClassFile.FieldType.object "com/example/earnest_reactor/earnestreactor/core/ScheduledTask"))).before args0 about1 = true := code_word (m := ⟨3, 2⟩) (meth := k3m2) (c := k3c2) (by decide +kernel) rfl rfl rfl (by decide +kernel)
set_option maxRecDepth 65536 in
theorem w_c5 : (Jvm.Cond.code ({ cls := "com/example/earnest_reactor/earnestreactor/core/TimerQueuePollPinLaw", name := "expect", desc := "([J[JII[Lcom/example/earnest_reactor/earnestreactor/core/ScheduledTask;)Lcom/example/earnest_reactor/earnestreactor/core/ScheduledTask;" } : Jvm.MethodName) method_5_code (5 : Nat) (Option.some (Jvm.ClassFile.FieldType.object "com/example/earnest_reactor/earnestreactor/core/ScheduledTask"))).before args0 about1 = true := code_word (m := ⟨1, 4⟩) (meth := k1m4) (c := k1c4) (by decide +kernel) rfl rfl rfl (by decide +kernel)
set_option maxRecDepth 65536 in
theorem w_c6 : (Jvm.Cond.code ({ cls := "com/example/earnest_reactor/earnestreactor/core/TimerQueue", name := "add", desc := "(Lcom/example/earnest_reactor/earnestreactor/core/ScheduledTask;)V" } : Jvm.MethodName) prog_35_method_4_code (2 : Nat) (Option.none : Option Jvm.ClassFile.FieldType)).before args0 about1 = true := code_word (m := ⟨3, 1⟩) (meth := k3m1) (c := k3c1) (by decide +kernel) rfl rfl rfl (by decide +kernel)
set_option maxRecDepth 65536 in
theorem w_c7 : (Jvm.Cond.code ({ cls := "com/example/earnest_reactor/earnestreactor/core/TimerQueue", name := "siftUp", desc := "(ILcom/example/earnest_reactor/earnestreactor/core/ScheduledTask;)V" } : Jvm.MethodName) prog_35_method_8_code (5 : Nat) (Option.none : Option Jvm.ClassFile.FieldType)).before args0 about1 = true := code_word (m := ⟨3, 4⟩) (meth := k3m4) (c := k3c4) (by decide +kernel) rfl rfl rfl (by decide +kernel)
set_option maxRecDepth 65536 in
theorem w_c8 : (Jvm.Cond.code ({ cls := "com/example/earnest_reactor/earnestreactor/core/TimerQueue", name := "place", desc := "(ILcom/example/earnest_reactor/earnestreactor/core/ScheduledTask;)V" } : Jvm.MethodName) prog_35_method_10_code (3 : Nat) (Option.none : Option Jvm.ClassFile.FieldType)).before args0 about1 = true := code_word (m := ⟨3, 6⟩) (meth := k3m6) (c := k3c6) (by decide +kernel) rfl rfl rfl (by decide +kernel)
set_option maxRecDepth 65536 in
theorem w_c9 : (Jvm.Cond.code ({ cls := "com/example/earnest_reactor/earnestreactor/core/ScheduledTask", name := "queueIndex", desc := "(I)V" } : Jvm.MethodName) prog_31_method_7_code (2 : Nat) (Option.none : Option Jvm.ClassFile.FieldType)).before args0 about1 = true := code_word (m := ⟨2, 3⟩) (meth := k2m3) (c := k2c3) (by decide +kernel) rfl rfl rfl (by decide +kernel)
set_option maxRecDepth 65536 in
theorem w_c10 : (Jvm.Cond.code ({ cls := "com/example/earnest_reactor/earnestreactor/core/TimerQueue", name := "removeAt", desc := "(I)V" } : Jvm.MethodName) prog_35_method_7_code (4 : Nat) (Option.none : Option Jvm.ClassFile.FieldType)).before args0 about1 = true := code_word (m := ⟨3, 3⟩) (meth := k3m3) (c := k3c3) (by decide +kernel) rfl rfl rfl (by decide +kernel)
set_option maxRecDepth 65536 in
theorem w_c11 : (Jvm.Cond.code ({ cls := "com/example/earnest_reactor/earnestreactor/core/TimerQueuePollPinLaw", name := "rank", desc := "([J[JII)I" } : Jvm.MethodName) method_4_code (5 : Nat) (Option.some Jvm.ClassFile.FieldType.int)).before args0 about1 = true := code_word (m := ⟨1, 3⟩) (meth := k1m3) (c := k1c3) (by decide +kernel) rfl rfl rfl (by decide +kernel)
set_option maxRecDepth 65536 in
theorem w_c12 : (Jvm.Cond.code ({ cls := "com/example/earnest_reactor/earnestreactor/core/ScheduledTask", name := "queueIndex", desc := "()I" } : Jvm.MethodName) prog_31_method_6_code (1 : Nat) (Option.some Jvm.ClassFile.FieldType.int)).before args0 about1 = true := code_word (m := ⟨2, 2⟩) (meth := k2m2) (c := k2c2) (by decide +kernel) rfl rfl rfl (by decide +kernel)
set_option maxRecDepth 65536 in
theorem w_c13 : (Jvm.Cond.code ({ cls := "com/example/earnest_reactor/earnestreactor/core/ScheduledTask", name := "runsBefore", desc := "(Lcom/example/earnest_reactor/earnestreactor/core/ScheduledTask;)Z" } : Jvm.MethodName) prog_31_method_5_code (4 : Nat) (Option.some Jvm.ClassFile.FieldType.boolean)).before args0 about1 = true := code_word (m := ⟨2, 1⟩) (meth := k2m1) (c := k2c1) (by decide +kernel) rfl rfl rfl (by decide +kernel)
set_option maxRecDepth 65536 in
theorem w_c14 : (Jvm.Cond.code ({ cls := "com/example/earnest_reactor/earnestreactor/core/TimerQueue", name := "siftDown", desc := "(ILcom/example/earnest_reactor/earnestreactor/core/ScheduledTask;)V" } : Jvm.MethodName) prog_35_method_9_code (6 : Nat) (Option.none : Option Jvm.ClassFile.FieldType)).before args0 about1 = true := code_word (m := ⟨3, 5⟩) (meth := k3m5) (c := k3c5) (by decide +kernel) rfl rfl rfl (by decide +kernel)
set_option maxRecDepth 65536 in
theorem w_c15 : (Jvm.Cond.code ({ cls := "com/example/earnest_reactor/earnestreactor/core/TimerQueuePollPinLaw", name := "before", desc := "([J[JII)Z" } : Jvm.MethodName) method_3_code (4 : Nat) (Option.some Jvm.ClassFile.FieldType.boolean)).before args0 about1 = true := code_word (m := ⟨1, 2⟩) (meth := k1m2) (c := k1c2) (by decide +kernel) rfl rfl rfl (by decide +kernel)
def codes1 : List Jvm.Cond := [Jvm.Cond.code x code maxLocals ret, Jvm.Cond.code ({ cls := "com/example/earnest_reactor/earnestreactor/core/ScheduledTask", name := "<init>", desc := "(Lcom/example/earnest_reactor/earnestreactor/core/EventLoop;JJLjava/lang/Runnable;)V" } : Jvm.MethodName) prog_31_method_1_code (7 : Nat) (Option.none : Option Jvm.ClassFile.FieldType), Jvm.Cond.code ({ cls := "java/lang/Object", name := "<init>", desc := "()V" } : Jvm.MethodName) object_method_1_code (1 : Nat) (Option.none : Option Jvm.ClassFile.FieldType), Jvm.Cond.code ({ cls := "com/example/earnest_reactor/earnestreactor/core/TimerQueue", name := "<init>", desc := "()V" } : Jvm.MethodName) prog_35_method_1_code (1 : Nat) (Option.none : Option Jvm.ClassFile.FieldType), Jvm.Cond.code ({ cls := "com/example/earnest_reactor/earnestreactor/core/TimerQueue", name := "poll", desc := "()Lcom/example/earnest_reactor/earnestreactor/core/ScheduledTask;" } : Jvm.MethodName) prog_35_method_5_code (2 : Nat) (Option.some (Jvm.ClassFile.FieldType.object "com/example/earnest_reactor/earnestreactor/core/ScheduledTask")), Jvm.Cond.code ({ cls := "com/example/earnest_reactor/earnestreactor/core/TimerQueuePollPinLaw", name := "expect", desc := "([J[JII[Lcom/example/earnest_reactor/earnestreactor/core/ScheduledTask;)Lcom/example/earnest_reactor/earnestreactor/core/ScheduledTask;" } : Jvm.MethodName) method_5_code (5 : Nat) (Option.some (Jvm.ClassFile.FieldType.object "com/example/earnest_reactor/earnestreactor/core/ScheduledTask")), Jvm.Cond.code ({ cls := "com/example/earnest_reactor/earnestreactor/core/TimerQueue", name := "add", desc := "(Lcom/example/earnest_reactor/earnestreactor/core/ScheduledTask;)V" } : Jvm.MethodName) prog_35_method_4_code (2 : Nat) (Option.none : Option Jvm.ClassFile.FieldType), Jvm.Cond.code ({ cls := "com/example/earnest_reactor/earnestreactor/core/TimerQueue", name := "siftUp", desc := "(ILcom/example/earnest_reactor/earnestreactor/core/ScheduledTask;)V" } : Jvm.MethodName) prog_35_method_8_code (5 : Nat) (Option.none : Option Jvm.ClassFile.FieldType), Jvm.Cond.code ({ cls := "com/example/earnest_reactor/earnestreactor/core/TimerQueue", name := "place", desc := "(ILcom/example/earnest_reactor/earnestreactor/core/ScheduledTask;)V" } : Jvm.MethodName) prog_35_method_10_code (3 : Nat) (Option.none : Option Jvm.ClassFile.FieldType), Jvm.Cond.code ({ cls := "com/example/earnest_reactor/earnestreactor/core/ScheduledTask", name := "queueIndex", desc := "(I)V" } : Jvm.MethodName) prog_31_method_7_code (2 : Nat) (Option.none : Option Jvm.ClassFile.FieldType), Jvm.Cond.code ({ cls := "com/example/earnest_reactor/earnestreactor/core/TimerQueue", name := "removeAt", desc := "(I)V" } : Jvm.MethodName) prog_35_method_7_code (4 : Nat) (Option.none : Option Jvm.ClassFile.FieldType), Jvm.Cond.code ({ cls := "com/example/earnest_reactor/earnestreactor/core/TimerQueuePollPinLaw", name := "rank", desc := "([J[JII)I" } : Jvm.MethodName) method_4_code (5 : Nat) (Option.some Jvm.ClassFile.FieldType.int), Jvm.Cond.code ({ cls := "com/example/earnest_reactor/earnestreactor/core/ScheduledTask", name := "queueIndex", desc := "()I" } : Jvm.MethodName) prog_31_method_6_code (1 : Nat) (Option.some Jvm.ClassFile.FieldType.int), Jvm.Cond.code ({ cls := "com/example/earnest_reactor/earnestreactor/core/ScheduledTask", name := "runsBefore", desc := "(Lcom/example/earnest_reactor/earnestreactor/core/ScheduledTask;)Z" } : Jvm.MethodName) prog_31_method_5_code (4 : Nat) (Option.some Jvm.ClassFile.FieldType.boolean), Jvm.Cond.code ({ cls := "com/example/earnest_reactor/earnestreactor/core/TimerQueue", name := "siftDown", desc := "(ILcom/example/earnest_reactor/earnestreactor/core/ScheduledTask;)V" } : Jvm.MethodName) prog_35_method_9_code (6 : Nat) (Option.none : Option Jvm.ClassFile.FieldType), Jvm.Cond.code ({ cls := "com/example/earnest_reactor/earnestreactor/core/TimerQueuePollPinLaw", name := "before", desc := "([J[JII)Z" } : Jvm.MethodName) method_3_code (4 : Nat) (Option.some Jvm.ClassFile.FieldType.boolean)]
set_option maxRecDepth 65536 in
theorem codes_eq : words1.filter isCode = codes1 := rfl
theorem w_codes : ∀ c ∈ words1.filter isCode, c.before args0 about1 = true := by
  rw [codes_eq]
  intro c hc
  simp only [codes1, List.mem_cons, List.not_mem_nil, or_false] at hc
  rcases hc with rfl | rfl | rfl | rfl | rfl | rfl | rfl | rfl | rfl | rfl | rfl | rfl | rfl | rfl | rfl | rfl
  · exact w_c0
  · exact w_c1
  · exact w_c2
  · exact w_c3
  · exact w_c4
  · exact w_c5
  · exact w_c6
  · exact w_c7
  · exact w_c8
  · exact w_c9
  · exact w_c10
  · exact w_c11
  · exact w_c12
  · exact w_c13
  · exact w_c14
  · exact w_c15
set_option maxRecDepth 65536 in
theorem w_t1 : (words1.take 24).all (fun c => isCode c || c.before args0 about1) = true := by decide +kernel
set_option maxRecDepth 65536 in
theorem w_t2 : ((words1.drop 24).take 24).all (fun c => isCode c || c.before args0 about1) = true := by decide +kernel
set_option maxRecDepth 65536 in
theorem w_t3 : (((words1.drop 24).drop 24).take 24).all (fun c => isCode c || c.before args0 about1) = true := by decide +kernel
set_option maxRecDepth 65536 in
theorem w_t4 : (((words1.drop 24).drop 24).drop 24).all (fun c => isCode c || c.before args0 about1) = true := by decide +kernel
theorem w_tables : (allAtoms (Jvm.Cond.code x code maxLocals ret :: tables_1)).before args0 about1 = true := by
  rw [allAtoms_all]
  show words1.all (fun c => c.before args0 about1) = true
  refine all_split ?_ w_codes
  rw [← List.take_append_drop 24 words1, List.all_append, w_t1, ← List.take_append_drop 24 (words1.drop 24), List.all_append, w_t2, ← List.take_append_drop 24 ((words1.drop 24).drop 24), List.all_append, w_t3, w_t4]
  rfl
set_option maxRecDepth 65536 in
theorem w_case : (Jvm.Cond.and given_1 narrow_1).before args0 about1 = true := by decide +kernel
theorem w_applies : (headSpec (Jvm.Cond.code x code maxLocals ret :: tables_1) room_1).applies x e0.platform about1 = true :=
  (Spec.applies_iff w_frames).mpr ⟨w_running, w_runnable, w_alone, w_named, w_hears, w_ripe, w_room, w_tables⟩
theorem atStart : AtStart classFile x code maxLocals ret World_1 tables_1 room_1 Calls_1 rest_1 Pre_1 launch0 p0 e0 about1 theMethod args0 below0 :=
  ⟨lists_1, trivial, launch0.admits_env _ _ _, launch0.least_env, fairChoices_fair.cas, fairChoices_fair.clock, w_frames, w_args, w_heap, w_applies, trivial, trivial, w_case⟩
end start1
theorem witness_1 : WitnessClaimed_1 := ⟨start1.p0, start1.e0, start1.about1, start1.theMethod, start1.args0, start1.below0, start1.atStart⟩
end Jvm.Pilot.@@N@@
