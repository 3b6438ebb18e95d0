import JvmDerived
import JvmDerived.Pilot.@@N@@Statement
import JvmDerived.Pilot.@@N@@Code
set_option linter.unusedVariables false
set_option linter.unusedSimpArgs false
namespace Jvm.Pilot.@@N@@
open Jvm Jvm.ClassFile Sem Op Lib Jvm.Free Jvm.Stand Jvm.LawKit Jvm.RoadKit Bundle Jvm.Pilot.@@N@@.Jvm.D
section OwnKit
variable {p : Program} {l : Launch} {e : Env} {R : Room} {s : State} {m : MethodId} {args : Array Value} {below : List Frame} {meth : Method} {c : Code} {T : State} {locs : List Loc} {cells slots : Nat} {Q : Option Value → Heap → List Loc → Prop} {F : Option Value → State → Prop} {KC KS : Nat} {bs : ByteArray} {pc pc' : Nat} {Ls l' : Array Slot} {st : List Value}
/-- from U the run comes to its end: it returns v, and F says what it leaves -/
def own_End (p : Program) (e : Env) (below : List Frame) (F : Option Value → State → Prop) (U : State) : Prop :=
  ∃ s₂ v, Steps p.tables e below U s₂ ∧ s₂.status = .running ∧ Ended s₂ below (.returned v) ∧ F v s₂
def own_F (s : State) (Q : Option Value → Heap → List Loc → Prop) (KC KS : Nat) : Option Value → State → Prop := fun v s₂ => ∃ L, Q v s₂.heap L ∧ FrameEnd s (.returned v) s₂ L KC KS
def own_FS (s : State) (Q : Option Value → Heap → List Loc → Prop) (KC KS : Nat) : Option Value → State → Prop := fun v s₂ => ∃ L, Q v s₂.heap L ∧ ReturnedEndW s (.returned v) s₂ L KC KS
theorem own_body {U : State} (h : own_End p e below (own_F s Q KC KS) U) : ∃ s₂ o, Steps p.tables e below U s₂ ∧ s₂.status = .running ∧ Ended s₂ below o ∧ ∃ v L, o = .returned v ∧ Q v s₂.heap L ∧ FrameEnd s o s₂ L KC KS := by
  obtain ⟨s2, v, h1, h2, h3, L, h4, h5⟩ := h
  exact ⟨s2, _, h1, h2, h3, v, L, rfl, h4, h5⟩
theorem own_bodyS {U : State} (h : own_End p e below (own_FS s Q KC KS) U) : ∃ s₂ o, Steps p.tables e below U s₂ ∧ s₂.status = .running ∧ Ended s₂ below o ∧ ∃ v L, o = .returned v ∧ Q v s₂.heap L ∧ ReturnedEndW s o s₂ L KC KS := by
  obtain ⟨s2, v, h1, h2, h3, L, h4, h5⟩ := h
  exact ⟨s2, _, h1, h2, h3, v, L, rfl, h4, h5⟩
theorem own_step {U U' : State} (k : ∀ t, Steps p.tables e below U' t → Steps p.tables e below U t) (h : own_End p e below F U') : own_End p e below F U := by
  obtain ⟨s2, v, h1, h2⟩ := h
  exact ⟨s2, v, k _ h1, h2⟩
theorem own_trans {U U' : State} (k : Steps p.tables e below U U') (h : own_End p e below F U') : own_End p e below F U := by
  obtain ⟨s2, v, h1, h2⟩ := h
  exact ⟨s2, v, k.trans h1, h2⟩
theorem own_mono {cells' slots' : Nat} (X : Stand p l e R s m args below meth c T locs cells slots) (hc : cells ≤ cells') (hs : slots ≤ slots') : Stand p l e R s m args below meth c T locs cells' slots' := X.mono hc hs
theorem own_selPriv {y : MethodName} {n : Nat} (wi : (Cond.instantiable y.cls n).before args s = true) (hp : s.PrivateAt y) (hi : (Cond.instanceMethod y).before args s = true) (hy : y.cls ≠ "java/lang/invoke/MethodHandle" ∧ y.cls ≠ "java/lang/invoke/VarHandle") : (Cond.selects y.cls y y).before args s = true := by
  obtain ⟨c, k, h1, h2, -, h4, -⟩ := Cond.instantiable_spec wi
  exact selects_self_of_private h1 h2 (by simp only [Bool.or_eq_false_iff] at h4; exact h4.1) hp hi hy
theorem own_sta0 {Z : State} {h h' : Heap} {C n d : String} {v : Value} (S : Sta Z h C n d v) (K : Keep h h' []) : Sta Z h' C n d v := by
  obtain ⟨cf, i, k, f, st, cell, h1, h2, h3, h4, h5, h6, h7⟩ := S
  exact ⟨cf, i, k, f, st, cell, h1, h2, h3, h4, K.2.1 _ _ h5 nin0, h6, h7⟩
theorem own_sta1 {Z : State} {h h' : Heap} {C n d D : String} {v : Value} {a : Addr} (S : Sta Z h C n d v) (K : Keep h h' [a]) (E : Exa Z h a D) : Sta Z h' C n d v := by
  obtain ⟨cf, i, k, f, st, cell, h1, h2, h3, h4, h5, h6, h7⟩ := S
  obtain ⟨c', k', g1, -, -, g4, -⟩ := E
  have ne : st ≠ a := fun q => by subst q; cases h5.symm.trans g1; rw [g4] at h6; cases h6
  exact ⟨cf, i, k, f, st, cell, h1, h2, h3, h4, K.2.1 _ _ h5 (ninS ne nin0), h6, h7⟩
theorem own_cat1 {w : Value} (h : w.isRef = true) : w.category = 1 := by rcases ref_cases h with rfl | ⟨z, rfl⟩ <;> rfl
theorem own_nar {w : Value} {t : FieldType} (h : w.isRef = true) (ht : t.isReference = true) : narrow t w = w := by rcases ref_cases h with rfl | ⟨z, rfl⟩ <;> cases t <;> first | rfl | cases ht
theorem own_fit {w : Value} {t : FieldType} (h : w.isRef = true) (ht : t.isReference = true) : fits t w = true := by rcases ref_cases h with rfl | ⟨z, rfl⟩ <;> cases t <;> first | rfl | cases ht
/-- what the frame says where the run leaves -/
def own_Lv (F : Option Value → State → Prop) (s T : State) (locs : List Loc) (cells slots : Nat) (v : Option Value) : Prop := ∀ fs, s.WarmedH (T.setFrames fs).vm → s.sameButNew ({ T.setFrames fs with vm := s.vm } : State) locs cells slots → F v (T.setFrames fs)
theorem own_lv {v : Option Value} (hQ : Q v T.heap locs) (hc : cells ≤ KC) (hs : slots ≤ KS) : own_Lv (own_F s Q KC KS) s T locs cells slots v := fun fs hW hsm => ⟨locs, hQ, ⟨_, rfl⟩, hW, hsm.mono hc hs⟩
theorem own_lvS {v : Option Value} {vm₁ : Vm} {n : Nat} (hS : s.Since vm₁ n) (hn : n ≤ T.heap.size) (hQ : Q v T.heap locs) (hc : cells ≤ KC) (hs : slots ≤ KS) : own_Lv (own_FS s Q KC KS) (s.setVm vm₁) T locs cells slots v := fun fs hW hsm => by
  obtain ⟨a, b, c'⟩ := hS.ended (U := T.setFrames fs) hW hn hsm
  exact ⟨locs, hQ, ⟨_, rfl⟩, a, b, c'.mono hc hs⟩
theorem own_retW (X : Stand p l e R s m args below meth c T locs cells slots) (hx : p.tables.exec = Jvm.exec) (hlk : meth.locks = false) (hby : c.code = bs) {w : Value} {t : FieldType} {i : Instr} {rest : List Value} (hret : meth.sig.returnType = some t) (hn : narrow t w = w)
    (hi : (i = .ireturn ∧ (t = .int ∨ t = .boolean ∨ t = .byte ∨ t = .char ∨ t = .short) ∧ ∃ z, w = .int z) ∨ (i = .lreturn ∧ t = .long ∧ ∃ z, w = .long z) ∨ (i = .dreturn ∧ t = .double ∧ ∃ z, w = .double z) ∨ (i = .freturn ∧ t = .float ∧ ∃ z, w = .float z) ∨ (i = .areturn ∧ t.isReference = true ∧ w.isRef = true))
    (hd : decode bs pc = .ok (i, 1)) (hF : own_Lv F s T locs cells slots (some w)) : own_End p e below F (T.setTop (mkF m pc Ls (w :: rest))) := by
  obtain ⟨fs, hr, hrun, hended, hW, hsame⟩ := X.leave (v := some w) (fun h => by rw [hret] at h; cases h) hlk
  exact ⟨_, _, retOut X hx hret hn hi (hb hby hd) hr, hrun, hended, hF fs hW hsame⟩
theorem own_ireturn (X : Stand p l e R s m args below meth c T locs cells slots) (hx : p.tables.exec = Jvm.exec) (hlk : meth.locks = false) (hby : c.code = bs) {z : Int32} {rest : List Value} (hret : meth.sig.returnType = some .int)
    (hd : decode bs pc = .ok (.ireturn, 1)) (hF : own_Lv F s T locs cells slots (some (.int z))) : own_End p e below F (T.setTop (mkF m pc Ls (.int z :: rest))) :=
  own_retW X hx hlk hby hret rfl (Or.inl ⟨rfl, Or.inl rfl, _, rfl⟩) hd hF
theorem own_zreturn (X : Stand p l e R s m args below meth c T locs cells slots) (hx : p.tables.exec = Jvm.exec) (hlk : meth.locks = false) (hby : c.code = bs) {z : Int32} {rest : List Value} (hret : meth.sig.returnType = some .boolean) (hz : z = 0 ∨ z = 1)
    (hd : decode bs pc = .ok (.ireturn, 1)) (hF : own_Lv F s T locs cells slots (some (.int z))) : own_End p e below F (T.setTop (mkF m pc Ls (.int z :: rest))) :=
  own_retW X hx hlk hby hret (by rcases hz with rfl | rfl <;> rfl) (Or.inl ⟨rfl, Or.inr (Or.inl rfl), _, rfl⟩) hd hF
theorem own_breturn (X : Stand p l e R s m args below meth c T locs cells slots) (hx : p.tables.exec = Jvm.exec) (hlk : meth.locks = false) (hby : c.code = bs) {z : Int32} {rest : List Value} (hret : meth.sig.returnType = some .byte) (hz : z.toInt8.toInt32 = z)
    (hd : decode bs pc = .ok (.ireturn, 1)) (hF : own_Lv F s T locs cells slots (some (.int z))) : own_End p e below F (T.setTop (mkF m pc Ls (.int z :: rest))) :=
  own_retW X hx hlk hby hret (show Value.int z.toInt8.toInt32 = .int z by rw [hz]) (Or.inl ⟨rfl, Or.inr (Or.inr (Or.inl rfl)), _, rfl⟩) hd hF
theorem own_lreturn (X : Stand p l e R s m args below meth c T locs cells slots) (hx : p.tables.exec = Jvm.exec) (hlk : meth.locks = false) (hby : c.code = bs) {z : Int64} {rest : List Value} (hret : meth.sig.returnType = some .long)
    (hd : decode bs pc = .ok (.lreturn, 1)) (hF : own_Lv F s T locs cells slots (some (.long z))) : own_End p e below F (T.setTop (mkF m pc Ls (.long z :: rest))) :=
  own_retW X hx hlk hby hret rfl (Or.inr (Or.inl ⟨rfl, rfl, _, rfl⟩)) hd hF
theorem own_areturn (X : Stand p l e R s m args below meth c T locs cells slots) (hx : p.tables.exec = Jvm.exec) (hlk : meth.locks = false) (hby : c.code = bs) {w : Value} {t : FieldType} {rest : List Value} (hret : meth.sig.returnType = some t) (ht : t.isReference = true) (hw : w.isRef = true)
    (hd : decode bs pc = .ok (.areturn, 1)) (hF : own_Lv F s T locs cells slots (some w)) : own_End p e below F (T.setTop (mkF m pc Ls (w :: rest))) :=
  own_retW X hx hlk hby hret (own_nar hw ht) (Or.inr (Or.inr (Or.inr (Or.inr ⟨rfl, ht, hw⟩)))) hd hF
theorem own_return (X : Stand p l e R s m args below meth c T locs cells slots) (hx : p.tables.exec = Jvm.exec) (hlk : meth.locks = false) (hby : c.code = bs) (hret : meth.sig.returnType = none)
    (hd : decode bs pc = .ok (.return_, 1)) (hF : own_Lv F s T locs cells slots none) : own_End p e below F (T.setTop (mkF m pc Ls [])) := by
  obtain ⟨fs, hr, hrun, hended, hW, hsame⟩ := X.leave (v := none) (fun _ => rfl) hlk
  exact ⟨_, _, X.returnOut hx hret (hb hby hd) hr, hrun, hended, hF fs hW hsame⟩
section Plain
theorem own_iload (X : Stand p l e R s m args below meth c T locs cells slots) (hx : p.tables.exec = Jvm.exec) (hby : c.code = bs) {k : Nat} {v : Int32} (hd : decode bs pc = .ok (.iload k, 2)) (hp : pc + 2 = pc') (hl : Ls[k]? = some (.val (.int v))) (h : own_End p e below F (T.setTop (mkF m pc' Ls (.int v :: st)))) : own_End p e below F (T.setTop (mkF m pc Ls st)) := by
  subst hp; exact own_step (fun t k => XS.iload X.here hx rfl (hb hby hd) hl k) h
theorem own_iloadN (X : Stand p l e R s m args below meth c T locs cells slots) (hx : p.tables.exec = Jvm.exec) (hby : c.code = bs) {k : Fin 4} {v : Int32} (hd : decode bs pc = .ok (.iload_n k, 1)) (hp : pc + 1 = pc') (hl : Ls[k.val]? = some (.val (.int v))) (h : own_End p e below F (T.setTop (mkF m pc' Ls (.int v :: st)))) : own_End p e below F (T.setTop (mkF m pc Ls st)) := by
  subst hp; exact own_step (fun t k => XS.iloadN X.here hx rfl (hb hby hd) hl k) h
theorem own_lload (X : Stand p l e R s m args below meth c T locs cells slots) (hx : p.tables.exec = Jvm.exec) (hby : c.code = bs) {k : Nat} {v : Int64} (hd : decode bs pc = .ok (.lload k, 2)) (hp : pc + 2 = pc') (hl : Ls[k]? = some (.val (.long v))) (h : own_End p e below F (T.setTop (mkF m pc' Ls (.long v :: st)))) : own_End p e below F (T.setTop (mkF m pc Ls st)) := by
  subst hp; exact own_step (fun t k => XS.lload X.here hx rfl (hb hby hd) hl k) h
theorem own_lloadN (X : Stand p l e R s m args below meth c T locs cells slots) (hx : p.tables.exec = Jvm.exec) (hby : c.code = bs) {k : Fin 4} {v : Int64} (hd : decode bs pc = .ok (.lload_n k, 1)) (hp : pc + 1 = pc') (hl : Ls[k.val]? = some (.val (.long v))) (h : own_End p e below F (T.setTop (mkF m pc' Ls (.long v :: st)))) : own_End p e below F (T.setTop (mkF m pc Ls st)) := by
  subst hp; exact own_step (fun t k => XS.lloadN X.here hx rfl (hb hby hd) hl k) h
theorem own_aload (X : Stand p l e R s m args below meth c T locs cells slots) (hx : p.tables.exec = Jvm.exec) (hby : c.code = bs) {k : Nat} {v : Value} (hd : decode bs pc = .ok (.aload k, 2)) (hp : pc + 2 = pc') (hl : Ls[k]? = some (.val v)) (hv : v.isRef = true) (h : own_End p e below F (T.setTop (mkF m pc' Ls (v :: st)))) : own_End p e below F (T.setTop (mkF m pc Ls st)) := by
  subst hp; exact own_step (fun t k => XS.aload X.here hx rfl (hb hby hd) hl hv k) h
theorem own_aloadN (X : Stand p l e R s m args below meth c T locs cells slots) (hx : p.tables.exec = Jvm.exec) (hby : c.code = bs) {k : Fin 4} {v : Value} (hd : decode bs pc = .ok (.aload_n k, 1)) (hp : pc + 1 = pc') (hl : Ls[k.val]? = some (.val v)) (hv : v.isRef = true) (h : own_End p e below F (T.setTop (mkF m pc' Ls (v :: st)))) : own_End p e below F (T.setTop (mkF m pc Ls st)) := by
  subst hp; exact own_step (fun t k => XS.aloadN X.here hx rfl (hb hby hd) hl hv k) h
theorem own_istore (X : Stand p l e R s m args below meth c T locs cells slots) (hx : p.tables.exec = Jvm.exec) (hby : c.code = bs) {k : Nat} {x : Int32} (hd : decode bs pc = .ok (.istore k, 2)) (hp : pc + 2 = pc') (hl : storeLocals Ls k (.int x) = some l') (h : own_End p e below F (T.setTop (mkF m pc' l' st))) : own_End p e below F (T.setTop (mkF m pc Ls (.int x :: st))) := by
  subst hp; exact own_step (fun t k => XS.istore X.here hx rfl (hb hby hd) rfl hl k) h
theorem own_istoreN (X : Stand p l e R s m args below meth c T locs cells slots) (hx : p.tables.exec = Jvm.exec) (hby : c.code = bs) {k : Fin 4} {x : Int32} (hd : decode bs pc = .ok (.istore_n k, 1)) (hp : pc + 1 = pc') (hl : storeLocals Ls k.val (.int x) = some l') (h : own_End p e below F (T.setTop (mkF m pc' l' st))) : own_End p e below F (T.setTop (mkF m pc Ls (.int x :: st))) := by
  subst hp; exact own_step (fun t k => XS.istoreN X.here hx rfl (hb hby hd) rfl hl k) h
theorem own_lstore (X : Stand p l e R s m args below meth c T locs cells slots) (hx : p.tables.exec = Jvm.exec) (hby : c.code = bs) {k : Nat} {x : Int64} (hd : decode bs pc = .ok (.lstore k, 2)) (hp : pc + 2 = pc') (hl : storeLocals Ls k (.long x) = some l') (h : own_End p e below F (T.setTop (mkF m pc' l' st))) : own_End p e below F (T.setTop (mkF m pc Ls (.long x :: st))) := by
  subst hp; exact own_step (fun t k => XS.lstore X.here hx rfl (hb hby hd) rfl hl k) h
theorem own_lstoreN (X : Stand p l e R s m args below meth c T locs cells slots) (hx : p.tables.exec = Jvm.exec) (hby : c.code = bs) {k : Fin 4} {x : Int64} (hd : decode bs pc = .ok (.lstore_n k, 1)) (hp : pc + 1 = pc') (hl : storeLocals Ls k.val (.long x) = some l') (h : own_End p e below F (T.setTop (mkF m pc' l' st))) : own_End p e below F (T.setTop (mkF m pc Ls (.long x :: st))) := by
  subst hp; exact own_step (fun t k => XS.lstoreN X.here hx rfl (hb hby hd) rfl hl k) h
theorem own_astore (X : Stand p l e R s m args below meth c T locs cells slots) (hx : p.tables.exec = Jvm.exec) (hby : c.code = bs) {k : Nat} {x : Value} (hd : decode bs pc = .ok (.astore k, 2)) (hp : pc + 2 = pc') (hv : x.isRef = true) (hl : storeLocals Ls k x = some l') (h : own_End p e below F (T.setTop (mkF m pc' l' st))) : own_End p e below F (T.setTop (mkF m pc Ls (x :: st))) := by
  subst hp; exact own_step (fun t k => XS.astore X.here hx rfl (hb hby hd) rfl hv hl k) h
theorem own_astoreN (X : Stand p l e R s m args below meth c T locs cells slots) (hx : p.tables.exec = Jvm.exec) (hby : c.code = bs) {k : Fin 4} {x : Value} (hd : decode bs pc = .ok (.astore_n k, 1)) (hp : pc + 1 = pc') (hv : x.isRef = true) (hl : storeLocals Ls k.val x = some l') (h : own_End p e below F (T.setTop (mkF m pc' l' st))) : own_End p e below F (T.setTop (mkF m pc Ls (x :: st))) := by
  subst hp; exact own_step (fun t k => XS.astoreN X.here hx rfl (hb hby hd) rfl hv hl k) h
theorem own_iinc (X : Stand p l e R s m args below meth c T locs cells slots) (hx : p.tables.exec = Jvm.exec) (hby : c.code = bs) {k : Nat} {cst : Int} {x y : Int32} (hd : decode bs pc = .ok (.iinc k cst, 3)) (hp : pc + 3 = pc') (hl : Ls[k]? = some (.val (.int x))) (hy : x + Int32.ofInt cst = y) (hl' : storeLocals Ls k (.int y) = some l') (h : own_End p e below F (T.setTop (mkF m pc' l' st))) : own_End p e below F (T.setTop (mkF m pc Ls st)) := by
  subst hp hy; exact own_step (fun t k => XS.iinc X.here hx rfl (hb hby hd) hl hl' k) h
theorem own_iconst (X : Stand p l e R s m args below meth c T locs cells slots) (hx : p.tables.exec = Jvm.exec) (hby : c.code = bs) {i : Int} {n : Int32} (hd : decode bs pc = .ok (.iconst i, 1)) (hp : pc + 1 = pc') (hn : Int32.ofInt i = n) (h : own_End p e below F (T.setTop (mkF m pc' Ls (.int n :: st)))) : own_End p e below F (T.setTop (mkF m pc Ls st)) := by
  subst hp hn; exact own_step (fun t k => XS.iconst X.here hx rfl (hb hby hd) k) h
theorem own_bipush (X : Stand p l e R s m args below meth c T locs cells slots) (hx : p.tables.exec = Jvm.exec) (hby : c.code = bs) {i : Int} {n : Int32} (hd : decode bs pc = .ok (.bipush i, 2)) (hp : pc + 2 = pc') (hn : (Int8.ofInt i).toInt32 = n) (h : own_End p e below F (T.setTop (mkF m pc' Ls (.int n :: st)))) : own_End p e below F (T.setTop (mkF m pc Ls st)) := by
  subst hp hn; exact own_step (fun t k => XS.bipush X.here hx rfl (hb hby hd) k) h
theorem own_sipush (X : Stand p l e R s m args below meth c T locs cells slots) (hx : p.tables.exec = Jvm.exec) (hby : c.code = bs) {i : Int} {n : Int32} (hd : decode bs pc = .ok (.sipush i, 3)) (hp : pc + 3 = pc') (hn : (Int16.ofInt i).toInt32 = n) (h : own_End p e below F (T.setTop (mkF m pc' Ls (.int n :: st)))) : own_End p e below F (T.setTop (mkF m pc Ls st)) := by
  subst hp hn; exact own_step (fun t k => XS.sipush X.here hx rfl (hb hby hd) k) h
theorem own_lconst (X : Stand p l e R s m args below meth c T locs cells slots) (hx : p.tables.exec = Jvm.exec) (hby : c.code = bs) {i : Fin 2} {n : Int64} (hd : decode bs pc = .ok (.lconst i, 1)) (hp : pc + 1 = pc') (hn : Int64.ofNat i.val = n) (h : own_End p e below F (T.setTop (mkF m pc' Ls (.long n :: st)))) : own_End p e below F (T.setTop (mkF m pc Ls st)) := by
  subst hp hn; exact own_step (fun t k => XS.lconst X.here hx rfl (hb hby hd) k) h
theorem own_aconst_null (X : Stand p l e R s m args below meth c T locs cells slots) (hx : p.tables.exec = Jvm.exec) (hby : c.code = bs) (hd : decode bs pc = .ok (.aconst_null, 1)) (hp : pc + 1 = pc') (h : own_End p e below F (T.setTop (mkF m pc' Ls (.null :: st)))) : own_End p e below F (T.setTop (mkF m pc Ls st)) := by
  subst hp; exact own_step (fun t k => XS.aconstNull X.here hx rfl (hb hby hd) k) h
theorem own_goto (X : Stand p l e R s m args below meth c T locs cells slots) (hx : p.tables.exec = Jvm.exec) (hby : c.code = bs) {o : Int} (hd : decode bs pc = .ok (.goto o, 3)) (ho : 0 ≤ (pc : Int) + o) (hp : ((pc : Int) + o).toNat = pc') (h : own_End p e below F (T.setTop (mkF m pc' Ls st))) : own_End p e below F (T.setTop (mkF m pc Ls st)) :=
  own_step (fun t k => XS.goto X.here hx rfl (pc0 := pc) (pc' := pc') rfl (hb hby hd) ho hp k) h
theorem own_dup (X : Stand p l e R s m args below meth c T locs cells slots) (hx : p.tables.exec = Jvm.exec) (hby : c.code = bs) {x : Value} (hd : decode bs pc = .ok (.dup, 1)) (hp : pc + 1 = pc') (hc : x.category = 1) (h : own_End p e below F (T.setTop (mkF m pc' Ls (x :: x :: st)))) : own_End p e below F (T.setTop (mkF m pc Ls (x :: st))) := by
  subst hp; exact own_step (fun t k => XS.dup X.here hx rfl (hb hby hd) rfl hc k) h
theorem own_dup_x1 (X : Stand p l e R s m args below meth c T locs cells slots) (hx : p.tables.exec = Jvm.exec) (hby : c.code = bs) {x y : Value} (hd : decode bs pc = .ok (.dup_x1, 1)) (hp : pc + 1 = pc') (hc : x.category = 1) (hc2 : y.category = 1) (h : own_End p e below F (T.setTop (mkF m pc' Ls (x :: y :: x :: st)))) : own_End p e below F (T.setTop (mkF m pc Ls (x :: y :: st))) := by
  subst hp; exact own_step (fun t k => XS.dupX1 X.here hx rfl (hb hby hd) rfl hc hc2 k) h
theorem own_pop (X : Stand p l e R s m args below meth c T locs cells slots) (hx : p.tables.exec = Jvm.exec) (hby : c.code = bs) {x : Value} (hd : decode bs pc = .ok (.pop, 1)) (hp : pc + 1 = pc') (hc : x.category = 1) (h : own_End p e below F (T.setTop (mkF m pc' Ls st))) : own_End p e below F (T.setTop (mkF m pc Ls (x :: st))) := by
  subst hp; exact own_step (fun t k => XS.pop X.here hx rfl (hb hby hd) rfl hc k) h
theorem own_pop2 (X : Stand p l e R s m args below meth c T locs cells slots) (hx : p.tables.exec = Jvm.exec) (hby : c.code = bs) {x : Int64} (hd : decode bs pc = .ok (.pop2, 1)) (hp : pc + 1 = pc') (h : own_End p e below F (T.setTop (mkF m pc' Ls st))) : own_End p e below F (T.setTop (mkF m pc Ls (.long x :: st))) := by
  subst hp
  refine own_step (fun t k => ?_) h
  have hd' := hb hby hd
  have hc : (Value.long x).category = 2 := rfl
  jvm_step X.here [X.here.top, hx, hd', Op.pop2.wp_sem, hc]
  exact k
theorem own_iadd (X : Stand p l e R s m args below meth c T locs cells slots) (hx : p.tables.exec = Jvm.exec) (hby : c.code = bs) {x y : Int32} (hd : decode bs pc = .ok (.iadd, 1)) (hp : pc + 1 = pc') (h : own_End p e below F (T.setTop (mkF m pc' Ls (.int (x + y) :: st)))) : own_End p e below F (T.setTop (mkF m pc Ls (.int y :: .int x :: st))) := by
  subst hp; exact own_step (fun t k => XS.iadd X.here hx rfl (hb hby hd) rfl k) h
theorem own_isub (X : Stand p l e R s m args below meth c T locs cells slots) (hx : p.tables.exec = Jvm.exec) (hby : c.code = bs) {x y : Int32} (hd : decode bs pc = .ok (.isub, 1)) (hp : pc + 1 = pc') (h : own_End p e below F (T.setTop (mkF m pc' Ls (.int (x - y) :: st)))) : own_End p e below F (T.setTop (mkF m pc Ls (.int y :: .int x :: st))) := by
  subst hp; exact own_step (fun t k => XS.isub X.here hx rfl (hb hby hd) rfl k) h
theorem own_imul (X : Stand p l e R s m args below meth c T locs cells slots) (hx : p.tables.exec = Jvm.exec) (hby : c.code = bs) {x y : Int32} (hd : decode bs pc = .ok (.imul, 1)) (hp : pc + 1 = pc') (h : own_End p e below F (T.setTop (mkF m pc' Ls (.int (x * y) :: st)))) : own_End p e below F (T.setTop (mkF m pc Ls (.int y :: .int x :: st))) := by
  subst hp; exact own_step (fun t k => XS.imul X.here hx rfl (hb hby hd) rfl k) h
theorem own_iand (X : Stand p l e R s m args below meth c T locs cells slots) (hx : p.tables.exec = Jvm.exec) (hby : c.code = bs) {x y : Int32} (hd : decode bs pc = .ok (.iand, 1)) (hp : pc + 1 = pc') (h : own_End p e below F (T.setTop (mkF m pc' Ls (.int (x &&& y) :: st)))) : own_End p e below F (T.setTop (mkF m pc Ls (.int y :: .int x :: st))) := by
  subst hp; exact own_step (fun t k => XS.iand X.here hx rfl (hb hby hd) rfl k) h
theorem own_ior (X : Stand p l e R s m args below meth c T locs cells slots) (hx : p.tables.exec = Jvm.exec) (hby : c.code = bs) {x y : Int32} (hd : decode bs pc = .ok (.ior, 1)) (hp : pc + 1 = pc') (h : own_End p e below F (T.setTop (mkF m pc' Ls (.int (x ||| y) :: st)))) : own_End p e below F (T.setTop (mkF m pc Ls (.int y :: .int x :: st))) := by
  subst hp; exact own_step (fun t k => XS.ior X.here hx rfl (hb hby hd) rfl k) h
theorem own_ixor (X : Stand p l e R s m args below meth c T locs cells slots) (hx : p.tables.exec = Jvm.exec) (hby : c.code = bs) {x y : Int32} (hd : decode bs pc = .ok (.ixor, 1)) (hp : pc + 1 = pc') (h : own_End p e below F (T.setTop (mkF m pc' Ls (.int (x ^^^ y) :: st)))) : own_End p e below F (T.setTop (mkF m pc Ls (.int y :: .int x :: st))) := by
  subst hp; exact own_step (fun t k => XS.ixor X.here hx rfl (hb hby hd) rfl k) h
theorem own_ladd (X : Stand p l e R s m args below meth c T locs cells slots) (hx : p.tables.exec = Jvm.exec) (hby : c.code = bs) {x y : Int64} (hd : decode bs pc = .ok (.ladd, 1)) (hp : pc + 1 = pc') (h : own_End p e below F (T.setTop (mkF m pc' Ls (.long (x + y) :: st)))) : own_End p e below F (T.setTop (mkF m pc Ls (.long y :: .long x :: st))) := by
  subst hp; exact own_step (fun t k => XS.ladd X.here hx rfl (hb hby hd) rfl k) h
theorem own_lsub (X : Stand p l e R s m args below meth c T locs cells slots) (hx : p.tables.exec = Jvm.exec) (hby : c.code = bs) {x y : Int64} (hd : decode bs pc = .ok (.lsub, 1)) (hp : pc + 1 = pc') (h : own_End p e below F (T.setTop (mkF m pc' Ls (.long (x - y) :: st)))) : own_End p e below F (T.setTop (mkF m pc Ls (.long y :: .long x :: st))) := by
  subst hp; exact own_step (fun t k => XS.lsub X.here hx rfl (hb hby hd) rfl k) h
theorem own_lmul (X : Stand p l e R s m args below meth c T locs cells slots) (hx : p.tables.exec = Jvm.exec) (hby : c.code = bs) {x y : Int64} (hd : decode bs pc = .ok (.lmul, 1)) (hp : pc + 1 = pc') (h : own_End p e below F (T.setTop (mkF m pc' Ls (.long (x * y) :: st)))) : own_End p e below F (T.setTop (mkF m pc Ls (.long y :: .long x :: st))) := by
  subst hp; exact own_step (fun t k => XS.lmul X.here hx rfl (hb hby hd) rfl k) h
theorem own_land (X : Stand p l e R s m args below meth c T locs cells slots) (hx : p.tables.exec = Jvm.exec) (hby : c.code = bs) {x y : Int64} (hd : decode bs pc = .ok (.land, 1)) (hp : pc + 1 = pc') (h : own_End p e below F (T.setTop (mkF m pc' Ls (.long (x &&& y) :: st)))) : own_End p e below F (T.setTop (mkF m pc Ls (.long y :: .long x :: st))) := by
  subst hp; exact own_step (fun t k => XS.land X.here hx rfl (hb hby hd) rfl k) h
theorem own_lor (X : Stand p l e R s m args below meth c T locs cells slots) (hx : p.tables.exec = Jvm.exec) (hby : c.code = bs) {x y : Int64} (hd : decode bs pc = .ok (.lor, 1)) (hp : pc + 1 = pc') (h : own_End p e below F (T.setTop (mkF m pc' Ls (.long (x ||| y) :: st)))) : own_End p e below F (T.setTop (mkF m pc Ls (.long y :: .long x :: st))) := by
  subst hp; exact own_step (fun t k => XS.lor X.here hx rfl (hb hby hd) rfl k) h
theorem own_lxor (X : Stand p l e R s m args below meth c T locs cells slots) (hx : p.tables.exec = Jvm.exec) (hby : c.code = bs) {x y : Int64} (hd : decode bs pc = .ok (.lxor, 1)) (hp : pc + 1 = pc') (h : own_End p e below F (T.setTop (mkF m pc' Ls (.long (x ^^^ y) :: st)))) : own_End p e below F (T.setTop (mkF m pc Ls (.long y :: .long x :: st))) := by
  subst hp; exact own_step (fun t k => XS.lxor X.here hx rfl (hb hby hd) rfl k) h
theorem own_ishl (X : Stand p l e R s m args below meth c T locs cells slots) (hx : p.tables.exec = Jvm.exec) (hby : c.code = bs) {x y : Int32} (hd : decode bs pc = .ok (.ishl, 1)) (hp : pc + 1 = pc') (h : own_End p e below F (T.setTop (mkF m pc' Ls (.int (x <<< (y &&& 31)) :: st)))) : own_End p e below F (T.setTop (mkF m pc Ls (.int y :: .int x :: st))) := by
  subst hp; exact own_step (fun t k => XS.ishl X.here hx rfl (hb hby hd) rfl k) h
theorem own_ishr (X : Stand p l e R s m args below meth c T locs cells slots) (hx : p.tables.exec = Jvm.exec) (hby : c.code = bs) {x y : Int32} (hd : decode bs pc = .ok (.ishr, 1)) (hp : pc + 1 = pc') (h : own_End p e below F (T.setTop (mkF m pc' Ls (.int (x >>> (y &&& 31)) :: st)))) : own_End p e below F (T.setTop (mkF m pc Ls (.int y :: .int x :: st))) := by
  subst hp; exact own_step (fun t k => XS.ishr X.here hx rfl (hb hby hd) rfl k) h
theorem own_iushr (X : Stand p l e R s m args below meth c T locs cells slots) (hx : p.tables.exec = Jvm.exec) (hby : c.code = bs) {x y : Int32} (hd : decode bs pc = .ok (.iushr, 1)) (hp : pc + 1 = pc') (h : own_End p e below F (T.setTop (mkF m pc' Ls (.int ((x.toUInt32 >>> (y &&& 31).toUInt32).toInt32) :: st)))) : own_End p e below F (T.setTop (mkF m pc Ls (.int y :: .int x :: st))) := by
  subst hp; exact own_step (fun t k => XS.iushr X.here hx rfl (hb hby hd) rfl k) h
theorem own_lshl (X : Stand p l e R s m args below meth c T locs cells slots) (hx : p.tables.exec = Jvm.exec) (hby : c.code = bs) {x : Int64} {y : Int32} (hd : decode bs pc = .ok (.lshl, 1)) (hp : pc + 1 = pc') (h : own_End p e below F (T.setTop (mkF m pc' Ls (.long (x <<< (y &&& 0x3f).toInt64) :: st)))) : own_End p e below F (T.setTop (mkF m pc Ls (.int y :: .long x :: st))) := by
  subst hp; exact own_step (fun t k => XS.lshl X.here hx rfl (hb hby hd) rfl k) h
theorem own_lshr (X : Stand p l e R s m args below meth c T locs cells slots) (hx : p.tables.exec = Jvm.exec) (hby : c.code = bs) {x : Int64} {y : Int32} (hd : decode bs pc = .ok (.lshr, 1)) (hp : pc + 1 = pc') (h : own_End p e below F (T.setTop (mkF m pc' Ls (.long (x >>> (y &&& 0x3f).toInt64) :: st)))) : own_End p e below F (T.setTop (mkF m pc Ls (.int y :: .long x :: st))) := by
  subst hp; exact own_step (fun t k => XS.lshr X.here hx rfl (hb hby hd) rfl k) h
theorem own_lushr (X : Stand p l e R s m args below meth c T locs cells slots) (hx : p.tables.exec = Jvm.exec) (hby : c.code = bs) {x : Int64} {y : Int32} (hd : decode bs pc = .ok (.lushr, 1)) (hp : pc + 1 = pc') (h : own_End p e below F (T.setTop (mkF m pc' Ls (.long ((x.toUInt64 >>> (y &&& 0x3f).toInt64.toUInt64).toInt64) :: st)))) : own_End p e below F (T.setTop (mkF m pc Ls (.int y :: .long x :: st))) := by
  subst hp; exact own_step (fun t k => XS.lushr X.here hx rfl (hb hby hd) rfl k) h
theorem own_lcmp (X : Stand p l e R s m args below meth c T locs cells slots) (hx : p.tables.exec = Jvm.exec) (hby : c.code = bs) {x y : Int64} (hd : decode bs pc = .ok (.lcmp, 1)) (hp : pc + 1 = pc') (h : own_End p e below F (T.setTop (mkF m pc' Ls (.int (lcmpW x y) :: st)))) : own_End p e below F (T.setTop (mkF m pc Ls (.long y :: .long x :: st))) := by
  subst hp; exact own_step (fun t k => XS.lcmp X.here hx rfl (hb hby hd) rfl k) h
theorem own_ineg (X : Stand p l e R s m args below meth c T locs cells slots) (hx : p.tables.exec = Jvm.exec) (hby : c.code = bs) {x : Int32} (hd : decode bs pc = .ok (.ineg, 1)) (hp : pc + 1 = pc') (h : own_End p e below F (T.setTop (mkF m pc' Ls (.int (-x) :: st)))) : own_End p e below F (T.setTop (mkF m pc Ls (.int x :: st))) := by
  subst hp; exact own_step (fun t k => XS.ineg X.here hx rfl (hb hby hd) rfl k) h
theorem own_i2b (X : Stand p l e R s m args below meth c T locs cells slots) (hx : p.tables.exec = Jvm.exec) (hby : c.code = bs) {x : Int32} (hd : decode bs pc = .ok (.i2b, 1)) (hp : pc + 1 = pc') (h : own_End p e below F (T.setTop (mkF m pc' Ls (.int (x.toInt8.toInt32) :: st)))) : own_End p e below F (T.setTop (mkF m pc Ls (.int x :: st))) := by
  subst hp; exact own_step (fun t k => XS.i2b X.here hx rfl (hb hby hd) rfl k) h
theorem own_i2s (X : Stand p l e R s m args below meth c T locs cells slots) (hx : p.tables.exec = Jvm.exec) (hby : c.code = bs) {x : Int32} (hd : decode bs pc = .ok (.i2s, 1)) (hp : pc + 1 = pc') (h : own_End p e below F (T.setTop (mkF m pc' Ls (.int (x.toInt16.toInt32) :: st)))) : own_End p e below F (T.setTop (mkF m pc Ls (.int x :: st))) := by
  subst hp; exact own_step (fun t k => XS.i2s X.here hx rfl (hb hby hd) rfl k) h
theorem own_i2c (X : Stand p l e R s m args below meth c T locs cells slots) (hx : p.tables.exec = Jvm.exec) (hby : c.code = bs) {x : Int32} (hd : decode bs pc = .ok (.i2c, 1)) (hp : pc + 1 = pc') (h : own_End p e below F (T.setTop (mkF m pc' Ls (.int (x.toUInt32.toUInt16.toUInt32.toInt32) :: st)))) : own_End p e below F (T.setTop (mkF m pc Ls (.int x :: st))) := by
  subst hp; exact own_step (fun t k => XS.i2c X.here hx rfl (hb hby hd) rfl k) h
theorem own_i2l (X : Stand p l e R s m args below meth c T locs cells slots) (hx : p.tables.exec = Jvm.exec) (hby : c.code = bs) {x : Int32} (hd : decode bs pc = .ok (.i2l, 1)) (hp : pc + 1 = pc') (h : own_End p e below F (T.setTop (mkF m pc' Ls (.long (x.toInt64) :: st)))) : own_End p e below F (T.setTop (mkF m pc Ls (.int x :: st))) := by
  subst hp; exact own_step (fun t k => XS.i2l X.here hx rfl (hb hby hd) rfl k) h
theorem own_lneg (X : Stand p l e R s m args below meth c T locs cells slots) (hx : p.tables.exec = Jvm.exec) (hby : c.code = bs) {x : Int64} (hd : decode bs pc = .ok (.lneg, 1)) (hp : pc + 1 = pc') (h : own_End p e below F (T.setTop (mkF m pc' Ls (.long (-x) :: st)))) : own_End p e below F (T.setTop (mkF m pc Ls (.long x :: st))) := by
  subst hp; exact own_step (fun t k => XS.lneg X.here hx rfl (hb hby hd) rfl k) h
theorem own_l2i (X : Stand p l e R s m args below meth c T locs cells slots) (hx : p.tables.exec = Jvm.exec) (hby : c.code = bs) {x : Int64} (hd : decode bs pc = .ok (.l2i, 1)) (hp : pc + 1 = pc') (h : own_End p e below F (T.setTop (mkF m pc' Ls (.int (x.toInt32) :: st)))) : own_End p e below F (T.setTop (mkF m pc Ls (.long x :: st))) := by
  subst hp; exact own_step (fun t k => XS.l2i X.here hx rfl (hb hby hd) rfl k) h
theorem own_idiv (X : Stand p l e R s m args below meth c T locs cells slots) (hx : p.tables.exec = Jvm.exec) (hby : c.code = bs) {x y : Int32} (hd : decode bs pc = .ok (.idiv, 1)) (hp : pc + 1 = pc') (hy : ¬ y = 0) (h : own_End p e below F (T.setTop (mkF m pc' Ls (.int (x / y) :: st)))) : own_End p e below F (T.setTop (mkF m pc Ls (.int y :: .int x :: st))) := by
  subst hp; exact own_step (fun t k => XS.idiv X.here hx rfl (hb hby hd) rfl hy k) h
theorem own_irem (X : Stand p l e R s m args below meth c T locs cells slots) (hx : p.tables.exec = Jvm.exec) (hby : c.code = bs) {x y : Int32} (hd : decode bs pc = .ok (.irem, 1)) (hp : pc + 1 = pc') (hy : ¬ y = 0) (h : own_End p e below F (T.setTop (mkF m pc' Ls (.int (x % y) :: st)))) : own_End p e below F (T.setTop (mkF m pc Ls (.int y :: .int x :: st))) := by
  subst hp; exact own_step (fun t k => iremM X hx rfl (hb hby hd) rfl hy k) h
theorem own_ldiv (X : Stand p l e R s m args below meth c T locs cells slots) (hx : p.tables.exec = Jvm.exec) (hby : c.code = bs) {x y : Int64} (hd : decode bs pc = .ok (.ldiv, 1)) (hp : pc + 1 = pc') (hy : ¬ y = 0) (h : own_End p e below F (T.setTop (mkF m pc' Ls (.long (x / y) :: st)))) : own_End p e below F (T.setTop (mkF m pc Ls (.long y :: .long x :: st))) := by
  subst hp; exact own_step (fun t k => XS.ldiv X.here hx rfl (hb hby hd) rfl hy k) h
theorem own_lrem (X : Stand p l e R s m args below meth c T locs cells slots) (hx : p.tables.exec = Jvm.exec) (hby : c.code = bs) {x y : Int64} (hd : decode bs pc = .ok (.lrem, 1)) (hp : pc + 1 = pc') (hy : ¬ y = 0) (h : own_End p e below F (T.setTop (mkF m pc' Ls (.long (x % y) :: st)))) : own_End p e below F (T.setTop (mkF m pc Ls (.long y :: .long x :: st))) := by
  subst hp; exact own_step (fun t k => XS.lrem X.here hx rfl (hb hby hd) rfl hy (by rw [lrem_mod]; exact k)) h
/-- the branch's condition, and its contrary -/
abbrev own_ct (cd : ClassFile.Cond) (x y : Int32) : Prop := match cd with | .eq => x = y | .ne => ¬ x = y | .lt => x < y | .ge => ¬ x < y | .gt => y < x | .le => ¬ y < x
abbrev own_cf (cd : ClassFile.Cond) (x y : Int32) : Prop := match cd with | .eq => ¬ x = y | .ne => x = y | .lt => ¬ x < y | .ge => x < y | .gt => ¬ y < x | .le => y < x
abbrev own_ctL (cd : ClassFile.Cond) (x y : Int64) : Prop := match cd with | .eq => x = y | .ne => ¬ x = y | .lt => x < y | .ge => ¬ x < y | .gt => y < x | .le => ¬ y < x
abbrev own_cfL (cd : ClassFile.Cond) (x y : Int64) : Prop := match cd with | .eq => ¬ x = y | .ne => x = y | .lt => ¬ x < y | .ge => x < y | .gt => ¬ y < x | .le => y < x
theorem own_ct_y {cd : ClassFile.Cond} {x y : Int32} (h : own_ct cd x y) : if_icmp.holds cd x y = true := by
  cases cd
  · exact (teq h).1
  · exact (feq h).2
  · exact (tlt h).1
  · exact (flt h).2.1
  · exact (tlt h).2.2.1
  · exact (flt h).2.2.2
theorem own_ct_n {cd : ClassFile.Cond} {x y : Int32} (h : own_cf cd x y) : if_icmp.holds cd x y = false := by
  cases cd
  · exact (feq h).1
  · exact (teq h).2
  · exact (flt h).1
  · exact (tlt h).2.1
  · exact (flt h).2.2.1
  · exact (tlt h).2.2.2
theorem own_ct_or (cd : ClassFile.Cond) (x y : Int32) : own_ct cd x y ∨ own_cf cd x y := by
  cases cd
  · exact Decidable.em _
  · exact (Decidable.em _).symm
  · exact Decidable.em _
  · exact (Decidable.em _).symm
  · exact Decidable.em _
  · exact (Decidable.em _).symm
theorem own_ctL_or (cd : ClassFile.Cond) (x y : Int64) : own_ctL cd x y ∨ own_cfL cd x y := by
  cases cd
  · exact Decidable.em _
  · exact (Decidable.em _).symm
  · exact Decidable.em _
  · exact (Decidable.em _).symm
  · exact Decidable.em _
  · exact (Decidable.em _).symm
theorem own_ctL_y {cd : ClassFile.Cond} {x y : Int64} (h : own_ctL cd x y) : own_ct cd (lcmpW x y) 0 := by
  cases cd
  · exact (lw_eq x y).mpr h
  · exact fun q => h ((lw_eq x y).mp q)
  · exact (lw_lt x y).mpr h
  · exact fun q => h ((lw_lt x y).mp q)
  · exact (lw_gt x y).mpr h
  · exact fun q => h ((lw_gt x y).mp q)
theorem own_ctL_n {cd : ClassFile.Cond} {x y : Int64} (h : own_cfL cd x y) : own_cf cd (lcmpW x y) 0 := by
  cases cd
  · exact fun q => h ((lw_eq x y).mp q)
  · exact (lw_eq x y).mpr h
  · exact fun q => h ((lw_lt x y).mp q)
  · exact (lw_lt x y).mpr h
  · exact fun q => h ((lw_gt x y).mp q)
  · exact (lw_gt x y).mpr h
theorem own_ifY (X : Stand p l e R s m args below meth c T locs cells slots) (hx : p.tables.exec = Jvm.exec) (hby : c.code = bs) {cd : ClassFile.Cond} {x : Int32} {o : Int} (hd : decode bs pc = .ok (.ifCond cd o, 3)) (ho : 0 ≤ (pc : Int) + o) (hp : ((pc : Int) + o).toNat = pc') (hc : own_ct cd x 0) (h : own_End p e below F (T.setTop (mkF m pc' Ls st))) : own_End p e below F (T.setTop (mkF m pc Ls (.int x :: st))) :=
  own_step (fun t k => XS.ifYes X.here hx rfl (pc0 := pc) (pc' := pc') rfl (hb hby hd) rfl ((if0 _ _).trans (own_ct_y hc)) ho hp k) h
theorem own_ifN (X : Stand p l e R s m args below meth c T locs cells slots) (hx : p.tables.exec = Jvm.exec) (hby : c.code = bs) {cd : ClassFile.Cond} {x : Int32} {o : Int} (hd : decode bs pc = .ok (.ifCond cd o, 3)) (hp : pc + 3 = pc') (hc : own_cf cd x 0) (h : own_End p e below F (T.setTop (mkF m pc' Ls st))) : own_End p e below F (T.setTop (mkF m pc Ls (.int x :: st))) := by
  subst hp; exact own_step (fun t k => XS.ifNo X.here hx rfl (hb hby hd) rfl ((if0 _ _).trans (own_ct_n hc)) k) h
theorem own_icY (X : Stand p l e R s m args below meth c T locs cells slots) (hx : p.tables.exec = Jvm.exec) (hby : c.code = bs) {cd : ClassFile.Cond} {x y : Int32} {o : Int} (hd : decode bs pc = .ok (.if_icmp cd o, 3)) (ho : 0 ≤ (pc : Int) + o) (hp : ((pc : Int) + o).toNat = pc') (hc : own_ct cd x y) (h : own_End p e below F (T.setTop (mkF m pc' Ls st))) : own_End p e below F (T.setTop (mkF m pc Ls (.int y :: .int x :: st))) :=
  own_step (fun t k => XS.icmpYes X.here hx rfl (pc0 := pc) (pc' := pc') rfl (hb hby hd) rfl (own_ct_y hc) ho hp k) h
theorem own_icN (X : Stand p l e R s m args below meth c T locs cells slots) (hx : p.tables.exec = Jvm.exec) (hby : c.code = bs) {cd : ClassFile.Cond} {x y : Int32} {o : Int} (hd : decode bs pc = .ok (.if_icmp cd o, 3)) (hp : pc + 3 = pc') (hc : own_cf cd x y) (h : own_End p e below F (T.setTop (mkF m pc' Ls st))) : own_End p e below F (T.setTop (mkF m pc Ls (.int y :: .int x :: st))) := by
  subst hp; exact own_step (fun t k => XS.icmpNo X.here hx rfl (hb hby hd) rfl (own_ct_n hc) k) h
theorem own_if2 (X : Stand p l e R s m args below meth c T locs cells slots) (hx : p.tables.exec = Jvm.exec) (hby : c.code = bs) {cd : ClassFile.Cond} {x : Int32} {o : Int} {pc1 pc2 : Nat} (hd : decode bs pc = .ok (.ifCond cd o, 3)) (ho : 0 ≤ (pc : Int) + o) (hp : ((pc : Int) + o).toNat = pc1) (hp2 : pc + 3 = pc2) (h1 : own_ct cd x 0 → own_End p e below F (T.setTop (mkF m pc1 Ls st))) (h2 : own_cf cd x 0 → own_End p e below F (T.setTop (mkF m pc2 Ls st))) : own_End p e below F (T.setTop (mkF m pc Ls (.int x :: st))) :=
  (own_ct_or cd x 0).elim (fun q => own_ifY X hx hby hd ho hp q (h1 q)) (fun q => own_ifN X hx hby hd hp2 q (h2 q))
theorem own_ic2 (X : Stand p l e R s m args below meth c T locs cells slots) (hx : p.tables.exec = Jvm.exec) (hby : c.code = bs) {cd : ClassFile.Cond} {x y : Int32} {o : Int} {pc1 pc2 : Nat} (hd : decode bs pc = .ok (.if_icmp cd o, 3)) (ho : 0 ≤ (pc : Int) + o) (hp : ((pc : Int) + o).toNat = pc1) (hp2 : pc + 3 = pc2) (h1 : own_ct cd x y → own_End p e below F (T.setTop (mkF m pc1 Ls st))) (h2 : own_cf cd x y → own_End p e below F (T.setTop (mkF m pc2 Ls st))) : own_End p e below F (T.setTop (mkF m pc Ls (.int y :: .int x :: st))) :=
  (own_ct_or cd x y).elim (fun q => own_icY X hx hby hd ho hp q (h1 q)) (fun q => own_icN X hx hby hd hp2 q (h2 q))
theorem own_ifL2 (X : Stand p l e R s m args below meth c T locs cells slots) (hx : p.tables.exec = Jvm.exec) (hby : c.code = bs) {cd : ClassFile.Cond} {x y : Int64} {o : Int} {pc1 pc2 : Nat} (hd : decode bs pc = .ok (.ifCond cd o, 3)) (ho : 0 ≤ (pc : Int) + o) (hp : ((pc : Int) + o).toNat = pc1) (hp2 : pc + 3 = pc2) (h1 : own_ctL cd x y → own_End p e below F (T.setTop (mkF m pc1 Ls st))) (h2 : own_cfL cd x y → own_End p e below F (T.setTop (mkF m pc2 Ls st))) : own_End p e below F (T.setTop (mkF m pc Ls (.int (lcmpW x y) :: st))) :=
  (own_ctL_or cd x y).elim (fun q => own_ifY X hx hby hd ho hp (own_ctL_y q) (h1 q)) (fun q => own_ifN X hx hby hd hp2 (own_ctL_n q) (h2 q))
theorem own_ifnullY (X : Stand p l e R s m args below meth c T locs cells slots) (hx : p.tables.exec = Jvm.exec) (hby : c.code = bs) {o : Int} (hd : decode bs pc = .ok (.ifnull o, 3)) (ho : 0 ≤ (pc : Int) + o) (hp : ((pc : Int) + o).toNat = pc') (h : own_End p e below F (T.setTop (mkF m pc' Ls st))) : own_End p e below F (T.setTop (mkF m pc Ls (.null :: st))) :=
  own_step (fun t k => XS.ifnullYes X.here hx rfl (pc0 := pc) (pc' := pc') rfl (hb hby hd) rfl ho hp k) h
theorem own_ifnullN (X : Stand p l e R s m args below meth c T locs cells slots) (hx : p.tables.exec = Jvm.exec) (hby : c.code = bs) {o : Int} {b : Addr} (hd : decode bs pc = .ok (.ifnull o, 3)) (hp : pc + 3 = pc') (h : own_End p e below F (T.setTop (mkF m pc' Ls st))) : own_End p e below F (T.setTop (mkF m pc Ls (.ref b :: st))) := by
  subst hp; exact own_step (fun t k => XS.ifnullNo X.here hx rfl (hb hby hd) rfl k) h
theorem own_ifnonnullY (X : Stand p l e R s m args below meth c T locs cells slots) (hx : p.tables.exec = Jvm.exec) (hby : c.code = bs) {o : Int} {b : Addr} (hd : decode bs pc = .ok (.ifnonnull o, 3)) (ho : 0 ≤ (pc : Int) + o) (hp : ((pc : Int) + o).toNat = pc') (h : own_End p e below F (T.setTop (mkF m pc' Ls st))) : own_End p e below F (T.setTop (mkF m pc Ls (.ref b :: st))) :=
  own_step (fun t k => XS.ifnonnullYes X.here hx rfl (pc0 := pc) (pc' := pc') rfl (hb hby hd) rfl ho hp k) h
theorem own_ifnonnullN (X : Stand p l e R s m args below meth c T locs cells slots) (hx : p.tables.exec = Jvm.exec) (hby : c.code = bs) {o : Int} (hd : decode bs pc = .ok (.ifnonnull o, 3)) (hp : pc + 3 = pc') (h : own_End p e below F (T.setTop (mkF m pc' Ls st))) : own_End p e below F (T.setTop (mkF m pc Ls (.null :: st))) := by
  subst hp; exact own_step (fun t k => XS.ifnonnullNo X.here hx rfl (hb hby hd) rfl k) h
theorem own_acmp (X : Stand p l e R s m args below meth c T locs cells slots) (hx : p.tables.exec = Jvm.exec) (hby : c.code = bs) {cd : ACond} {x y : Value} {o : Int} {same : Bool} (hd : decode bs pc = .ok (.if_acmp cd o, 3)) (h1 : x.isRef = true) (h2 : y.isRef = true) (hq : decide (x = y) = same) (ho : 0 ≤ (pc : Int) + o) (hp : pc' = if acV cd same = true then ((pc : Int) + o).toNat else pc + 3) (h : own_End p e below F (T.setTop (mkF m pc' Ls st))) : own_End p e below F (T.setTop (mkF m pc Ls (y :: x :: st))) :=
  own_step (fun t k => Jvm.RoadKit.acmp (g := mkF m pc Ls (y :: x :: st)) X hx rfl h1 h2 (pc0 := pc) (pc' := pc') (same := same) rfl (hb hby hd) rfl hq ho hp k) h
end Plain
section Words
variable {Z : State} {a0 : Array Value}
theorem own_ldcInt (X : Stand p l e R s m args below meth c T locs cells slots) (hx : p.tables.exec = Jvm.exec) (hZ : Z.Warmed39 s.vm) (hby : c.code = bs) {own : String} {index : Nat} {v : Int32} (hown : s.vm.findClass own = some m.cls) (w : (Cond.constant own index v).before a0 Z = true) (hd : decode bs pc = .ok (.ldc index, 2)) (hp : pc + 2 = pc') (h : own_End p e below F (T.setTop (mkF m pc' Ls (.int v :: st)))) : own_End p e below F (T.setTop (mkF m pc Ls st)) := by
  subst hp; exact own_step (X.ldcInt hx hown (mvT hZ w) (g := mkF m pc Ls st) rfl (hb hby hd)) h
theorem own_ldc2Long (X : Stand p l e R s m args below meth c T locs cells slots) (hx : p.tables.exec = Jvm.exec) (hZ : Z.Warmed39 s.vm) (hby : c.code = bs) {own : String} {index : Nat} {v : Int64} (hown : s.vm.findClass own = some m.cls) (w : (Cond.constantLong own index v).before a0 Z = true) (hd : decode bs pc = .ok (.ldc2_w index, 3)) (hp : pc + 3 = pc') (h : own_End p e below F (T.setTop (mkF m pc' Ls (.long v :: st)))) : own_End p e below F (T.setTop (mkF m pc Ls st)) := by
  subst hp; exact own_step (X.ldc2Long hx hown (mvT hZ w) (g := mkF m pc Ls st) rfl (hb hby hd)) h
end Words
section Heap
variable {Z : State} {a0 : Array Value} {h : Heap}
theorem own_getF (X : Stand p l e R s m args below meth c T locs cells slots) (hx : p.tables.exec = Jvm.exec) (hZ : Z.Warmed39 s.vm) (hby : c.code = bs) {own R0 O n d host : String} {index : Nat} {a : Addr} {v : Value} (hown : s.vm.findClass own = some m.cls) (w : (Cond.fieldLink own index R0 n d).before a0 Z = true ∨ (Cond.fieldLinkNest own index R0 n d host).before a0 Z = true) (via : Via Z R0 O n d) (eT : T.heap = h) (Fd : Fld Z h a O n d v) (hd : decode bs pc = .ok (.getfield index, 3)) (hp : pc + 3 = pc')
    (k : ∀ T', Stand p l e R s m args below meth c T' locs cells slots → T'.heap = h → own_End p e below F (T'.setTop (mkF m pc' Ls (v :: st)))) : own_End p e below F (T.setTop (mkF m pc Ls (.ref a :: st))) := by
  subst hp
  obtain ⟨T', X', e', stp⟩ := getF X hx hZ hown w via eT Fd (g := mkF m pc Ls (.ref a :: st)) rfl rfl (hb hby hd)
  exact own_step stp (k T' X' e')
theorem own_getS (X : Stand p l e R s m args below meth c T locs cells slots) (hx : p.tables.exec = Jvm.exec) (hZ : Z.Warmed39 s.vm) (hby : c.code = bs) {own R0 O n d host : String} {index : Nat} {v : Value} (hown : s.vm.findClass own = some m.cls) (w : (Cond.fieldLink own index R0 n d).before a0 Z = true ∨ (Cond.fieldLinkNest own index R0 n d host).before a0 Z = true) (via : Via Z R0 O n d) (eT : T.heap = h) (Fd : Sta Z h O n d v) (hd : decode bs pc = .ok (.getstatic index, 3)) (hp : pc + 3 = pc')
    (k : ∀ T', Stand p l e R s m args below meth c T' locs cells slots → T'.heap = h → own_End p e below F (T'.setTop (mkF m pc' Ls (v :: st)))) : own_End p e below F (T.setTop (mkF m pc Ls st)) := by
  subst hp
  obtain ⟨T', X', e', stp⟩ := getS2 X hx hZ hown w via eT Fd (g := mkF m pc Ls st) rfl (hb hby hd)
  exact own_step stp (k T' X' e')
theorem own_putF (X : Stand p l e R s m args below meth c T locs cells slots) (hx : p.tables.exec = Jvm.exec) (hZ : Z.Warmed39 s.vm) (hby : c.code = bs) {own R0 O n d host C : String} {index kk : Nat} {ty : FieldType} {a : Addr} {v old : Value} (hown : s.vm.findClass own = some m.cls) (w : (Cond.fieldLink own index R0 n d).before a0 Z = true ∨ (Cond.fieldLinkNest own index R0 n d host).before a0 Z = true) (via : Via Z R0 O n d) (eT : T.heap = h) (Fd : Fld Z h a O n d old) (E : Exa Z h a C)
    (La : (Cond.lays C O n d).before a0 Z = true ∨ ((Cond.laysFinal C O n d).before a0 Z = true ∧ own = O ∧ meth.name = "<init>")) (wi : (Cond.instantiable C kk).before a0 Z = true) (hty : parseFieldDescriptor d = some ty) (hn : narrow ty v = v) (hf : fits ty v = true) (hd : decode bs pc = .ok (.putfield index, 3)) (hp : pc + 3 = pc')
    (k : ∀ T' h', Stand p l e R s m args below meth c T' (locs ++ [⟨a, Jvm.RoadKit.slotOf Z O n d⟩]) cells slots → T'.heap = h' → Wr h h' a (Jvm.RoadKit.slotOf Z O n d) v → own_End p e below F (T'.setTop (mkF m pc' Ls st))) : own_End p e below F (T.setTop (mkF m pc Ls (v :: .ref a :: st))) := by
  subst hp
  obtain ⟨T', h', X', e', W', stp⟩ := putF X hx hZ hown w via eT Fd E La wi hty hn hf (g := mkF m pc Ls (v :: .ref a :: st)) rfl rfl (hb hby hd)
  exact own_step stp (k T' h' X' e' W')
theorem own_putN (X : Stand p l e R s m args below meth c T locs cells slots) (hx : p.tables.exec = Jvm.exec) (hZ : Z.Warmed39 s.vm) (hby : c.code = bs) {own R0 O n d C : String} {index kk : Nat} {ty : FieldType} {a : Addr} {v v' old : Value} (hown : s.vm.findClass own = some m.cls) (w : (Cond.fieldLink own index R0 n d).before a0 Z = true) (via : Via Z R0 O n d) (eT : T.heap = h) (Fd : Fld Z h a O n d old) (E : Exa Z h a C)
    (La : (Cond.lays C O n d).before a0 Z = true ∨ ((Cond.laysFinal C O n d).before a0 Z = true ∧ own = O ∧ meth.name = "<init>")) (wi : (Cond.instantiable C kk).before a0 Z = true) (hty : parseFieldDescriptor d = some ty) (hn : narrow ty v = v') (hf : fits ty v' = true) (hd : decode bs pc = .ok (.putfield index, 3)) (hp : pc + 3 = pc')
    (k : ∀ T' h', Stand p l e R s m args below meth c T' (locs ++ [⟨a, Jvm.RoadKit.slotOf Z O n d⟩]) cells slots → T'.heap = h' → Wr h h' a (Jvm.RoadKit.slotOf Z O n d) v' → own_End p e below F (T'.setTop (mkF m pc' Ls st))) : own_End p e below F (T.setTop (mkF m pc Ls (v :: .ref a :: st))) := by
  subst hp
  obtain ⟨T', h', X', e', W', stp⟩ := putFN X hx hZ hown w via eT Fd E La wi hty hn hf (g := mkF m pc Ls (v :: .ref a :: st)) rfl rfl (hb hby hd)
  exact own_step stp (k T' h' X' e' W')
theorem own_new (X : Stand p l e R s m args below meth c T locs cells slots) (hx : p.tables.exec = Jvm.exec) (hZ : Z.Warmed39 s.vm) (hby : c.code = bs) {own C : String} {index n : Nat} (hown : s.vm.findClass own = some m.cls) (w : (Cond.classLink own index C).before a0 Z = true) (wi : (Cond.instantiable C n).before a0 Z = true) (wz : (Cond.initialized C).before a0 Z = true) (eT : T.heap = h) (hd : decode bs pc = .ok (.new index, 3)) (hp : pc + 3 = pc') (hc : cells + 1 ≤ R.cells) (hl : slots + n ≤ R.slots)
    (k : ∀ T' h' (b : Addr), b = h.size → Stand p l e R s m args below meth c T' locs (cells + 1) (slots + n) → T'.heap = h' → Ext h h' → Exa Z h' b C → (∀ {O nm d : String} {ty : FieldType}, Laid Z a0 C O nm d → parseFieldDescriptor d = some ty → Fld Z h' b O nm d (defaultValue ty)) → own_End p e below F (T'.setTop (mkF m pc' Ls (.ref b :: st)))) : own_End p e below F (T.setTop (mkF m pc Ls st)) := by
  subst hp
  obtain ⟨T', h', X', e', E', A', D', -, stp⟩ := newO X hx hZ hown w wi wz eT (g := mkF m pc Ls st) rfl (hb hby hd) hc hl
  exact own_step stp (k T' h' h.size rfl X' e' E' A' D')
theorem own_newP (X : Stand p l e R s m args below meth c T locs cells slots) (hx : p.tables.exec = Jvm.exec) (hZ : Z.Warmed39 s.vm) (hby : c.code = bs) {aty : ArrayType} {n : Int32} {cap : Nat} (w : (Cond.arrayClass (newarray.typeOf aty)).before a0 Z = true) (eT : T.heap = h) (hd : decode bs pc = .ok (.newarray aty, 2)) (hp : pc + 2 = pc') (hn : ¬ n < 0) (hcap : n.toNatClampNeg ≤ cap) (hb' : cap * 8 ≤ 536870912) (hc : cells + 1 ≤ R.cells) (hl : slots + cap ≤ R.slots)
    (k : ∀ T' h' cA (b : Addr), b = h.size → Stand p l e R s m args below meth c T' locs (cells + 1) (slots + cap) → T'.heap = h' → Ext h h' → Arr Z h' b (newA cA (newarray.typeOf aty) n) (newarray.typeOf aty) → own_End p e below F (T'.setTop (mkF m pc' Ls (.ref b :: st)))) : own_End p e below F (T.setTop (mkF m pc Ls (.int n :: st))) := by
  subst hp
  obtain ⟨T', h', cA, X', e', E', A', stp⟩ := newP X hx hZ w eT (g := mkF m pc Ls (.int n :: st)) rfl (hb hby hd) rfl hn hcap hb' hc hl
  exact own_step stp (k T' h' cA h.size rfl X' e' E' A')
theorem own_newPE (X : Stand p l e R s m args below meth c T locs cells slots) (hx : p.tables.exec = Jvm.exec) (hZ : Z.Warmed39 s.vm) (hby : c.code = bs) {aty : ArrayType} {n : Int32} {cap : Nat} {ad : String} (had : "[" ++ (newarray.typeOf aty).toString = ad) (w : (Cond.arrayClass (newarray.typeOf aty)).before a0 Z = true) (eT : T.heap = h) (hd : decode bs pc = .ok (.newarray aty, 2)) (hp : pc + 2 = pc') (hn : ¬ n < 0) (hcap : n.toNatClampNeg ≤ cap) (hb' : cap * 8 ≤ 536870912) (hc : cells + 1 ≤ R.cells) (hl : slots + cap ≤ R.slots)
    (k : ∀ T' h' cA (b : Addr), b = h.size → Stand p l e R s m args below meth c T' locs (cells + 1) (slots + cap) → T'.heap = h' → Ext h h' → Arr Z h' b (newA cA (newarray.typeOf aty) n) (newarray.typeOf aty) → Exa Z h' b ad → own_End p e below F (T'.setTop (mkF m pc' Ls (.ref b :: st)))) : own_End p e below F (T.setTop (mkF m pc Ls (.int n :: st))) := by
  subst hp
  obtain ⟨T', h', cA, X', e', E', A', Ex', stp⟩ := newPE X hx hZ w eT (g := mkF m pc Ls (.int n :: st)) rfl (hb hby hd) rfl hn hcap hb' hc hl had
  exact own_step stp (k T' h' cA h.size rfl X' e' E' A' Ex')
theorem own_newR (X : Stand p l e R s m args below meth c T locs cells slots) (hx : p.tables.exec = Jvm.exec) (hZ : Z.Warmed39 s.vm) (hby : c.code = bs) {own C : String} {index : Nat} {n : Int32} {cap : Nat} (hown : s.vm.findClass own = some m.cls) (w1 : (Cond.classLink own index C).before a0 Z = true) (w2 : (Cond.arrayOver (.object C)).before a0 Z = true) (eT : T.heap = h) (hd : decode bs pc = .ok (.anewarray index, 3)) (hp : pc + 3 = pc') (hn : ¬ n < 0) (hcap : n.toNatClampNeg ≤ cap) (hb' : cap * 8 ≤ 536870912) (hc : cells + 1 ≤ R.cells) (hl : slots + cap ≤ R.slots)
    (k : ∀ T' h' cA (b : Addr), b = h.size → Stand p l e R s m args below meth c T' locs (cells + 1) (slots + cap) → T'.heap = h' → Ext h h' → Arr Z h' b (newA cA (.object C) n) (.object C) → Ovr Z cA C → own_End p e below F (T'.setTop (mkF m pc' Ls (.ref b :: st)))) : own_End p e below F (T.setTop (mkF m pc Ls (.int n :: st))) := by
  subst hp
  obtain ⟨T', h', cA, X', e', E', A', O', stp⟩ := newR X hx hZ hown w1 w2 eT (g := mkF m pc Ls (.int n :: st)) rfl (hb hby hd) rfl hn hcap hb' hc hl
  exact own_step stp (k T' h' cA h.size rfl X' e' E' A' O')
theorem own_iastore (X : Stand p l e R s m args below meth c T locs cells slots) (hx : p.tables.exec = Jvm.exec) (hZ : Z.Warmed39 s.vm) (hby : c.code = bs) {a : Addr} {cl : Cell} (eT : T.heap = h) (A : Arr Z h a cl .int) {j : Int32} {x : Int32} (hj : ¬ (j < 0 ∨ cl.slots.size ≤ j.toNatClampNeg)) (hd : decode bs pc = .ok (.iastore, 1)) (hp : pc + 1 = pc')
    (k : ∀ T' h', Stand p l e R s m args below meth c T' (locs ++ [⟨a, j.toNatClampNeg⟩]) cells slots → T'.heap = h' → Wr h h' a j.toNatClampNeg (.int x) → own_End p e below F (T'.setTop (mkF m pc' Ls st))) : own_End p e below F (T.setTop (mkF m pc Ls (.int x :: .int j :: .ref a :: st))) := by
  subst hp
  obtain ⟨T', h', X', e', W', stp⟩ := stI X hx hZ eT A hj (g := mkF m pc Ls (.int x :: .int j :: .ref a :: st)) rfl rfl (hb hby hd)
  exact own_step stp (k T' h' X' e' W')
theorem own_lastore (X : Stand p l e R s m args below meth c T locs cells slots) (hx : p.tables.exec = Jvm.exec) (hZ : Z.Warmed39 s.vm) (hby : c.code = bs) {a : Addr} {cl : Cell} (eT : T.heap = h) (A : Arr Z h a cl .long) {j : Int32} {x : Int64} (hj : ¬ (j < 0 ∨ cl.slots.size ≤ j.toNatClampNeg)) (hd : decode bs pc = .ok (.lastore, 1)) (hp : pc + 1 = pc')
    (k : ∀ T' h', Stand p l e R s m args below meth c T' (locs ++ [⟨a, j.toNatClampNeg⟩]) cells slots → T'.heap = h' → Wr h h' a j.toNatClampNeg (.long x) → own_End p e below F (T'.setTop (mkF m pc' Ls st))) : own_End p e below F (T.setTop (mkF m pc Ls (.long x :: .int j :: .ref a :: st))) := by
  subst hp
  obtain ⟨T', h', X', e', W', stp⟩ := stJ X hx hZ eT A hj (g := mkF m pc Ls (.long x :: .int j :: .ref a :: st)) rfl rfl (hb hby hd)
  exact own_step stp (k T' h' X' e' W')
theorem own_castore (X : Stand p l e R s m args below meth c T locs cells slots) (hx : p.tables.exec = Jvm.exec) (hZ : Z.Warmed39 s.vm) (hby : c.code = bs) {a : Addr} {cl : Cell} (eT : T.heap = h) (A : Arr Z h a cl .char) {j : Int32} {x : Int32} (hj : ¬ (j < 0 ∨ cl.slots.size ≤ j.toNatClampNeg)) (hd : decode bs pc = .ok (.castore, 1)) (hp : pc + 1 = pc')
    (k : ∀ T' h', Stand p l e R s m args below meth c T' (locs ++ [⟨a, j.toNatClampNeg⟩]) cells slots → T'.heap = h' → Wr h h' a j.toNatClampNeg (.int (nar .char x)) → own_End p e below F (T'.setTop (mkF m pc' Ls st))) : own_End p e below F (T.setTop (mkF m pc Ls (.int x :: .int j :: .ref a :: st))) := by
  subst hp
  obtain ⟨T', h', X', e', W', stp⟩ := stC X hx hZ eT A hj (g := mkF m pc Ls (.int x :: .int j :: .ref a :: st)) rfl rfl (hb hby hd)
  exact own_step stp (k T' h' X' e' W')
theorem own_bastore (X : Stand p l e R s m args below meth c T locs cells slots) (hx : p.tables.exec = Jvm.exec) (hZ : Z.Warmed39 s.vm) (hby : c.code = bs) {a : Addr} {cl : Cell} (eT : T.heap = h) (A : Arr Z h a cl .byte) {j : Int32} {x : Int32} (hj : ¬ (j < 0 ∨ cl.slots.size ≤ j.toNatClampNeg)) (hd : decode bs pc = .ok (.bastore, 1)) (hp : pc + 1 = pc')
    (k : ∀ T' h', Stand p l e R s m args below meth c T' (locs ++ [⟨a, j.toNatClampNeg⟩]) cells slots → T'.heap = h' → Wr h h' a j.toNatClampNeg (.int (nar .byte x)) → own_End p e below F (T'.setTop (mkF m pc' Ls st))) : own_End p e below F (T.setTop (mkF m pc Ls (.int x :: .int j :: .ref a :: st))) := by
  subst hp
  obtain ⟨T', h', X', e', W', stp⟩ := stB X hx hZ eT A hj (g := mkF m pc Ls (.int x :: .int j :: .ref a :: st)) rfl rfl (hb hby hd)
  exact own_step stp (k T' h' X' e' W')
theorem own_stR (X : Stand p l e R s m args below meth c T locs cells slots) (hx : p.tables.exec = Jvm.exec) (hZ : Z.Warmed39 s.vm) (hby : c.code = bs) {a : Addr} {cl : Cell} {ty : FieldType} (eT : T.heap = h) (A : Arr Z h a cl ty) {j : Int32} {v : Value} (hj : ¬ (j < 0 ∨ cl.slots.size ≤ j.toNatClampNeg)) (hty : ty.isReference = true) (S : Sto Z h a v) (hd : decode bs pc = .ok (.aastore, 1)) (hp : pc + 1 = pc')
    (k : ∀ T' h', Stand p l e R s m args below meth c T' (locs ++ [⟨a, j.toNatClampNeg⟩]) cells slots → T'.heap = h' → Wr h h' a j.toNatClampNeg v → own_End p e below F (T'.setTop (mkF m pc' Ls st))) : own_End p e below F (T.setTop (mkF m pc Ls (v :: .int j :: .ref a :: st))) := by
  subst hp
  obtain ⟨T', h', X', e', W', stp⟩ := stR X hx hZ eT A hj hty S (g := mkF m pc Ls (v :: .int j :: .ref a :: st)) rfl rfl (hb hby hd)
  exact own_step stp (k T' h' X' e' W')
theorem own_iaload (X : Stand p l e R s m args below meth c T locs cells slots) (hx : p.tables.exec = Jvm.exec) (hZ : Z.Warmed39 s.vm) (hby : c.code = bs) {a : Addr} {cl : Cell} (eT : T.heap = h) (A : Arr Z h a cl .int) {j : Int32} {v : Value} (hj : ¬ (j < 0 ∨ cl.slots.size ≤ j.toNatClampNeg)) (hv : cl.slots[j.toNatClampNeg]? = some v) (hd : decode bs pc = .ok (.iaload, 1)) (hp : pc + 1 = pc') (k : own_End p e below F (T.setTop (mkF m pc' Ls (v :: st)))) : own_End p e below F (T.setTop (mkF m pc Ls (.int j :: .ref a :: st))) := by
  subst hp
  exact own_step (fun t q => X.iaload hx (j := j) (v := v) (by rw [eT]; exact A.1) (State.isArrayOf_alike hZ.alike A.2.1) A.2.2 hj hv (g := mkF m pc Ls (.int j :: .ref a :: st)) rfl rfl (hb hby hd) _ q) k
theorem own_laload (X : Stand p l e R s m args below meth c T locs cells slots) (hx : p.tables.exec = Jvm.exec) (hZ : Z.Warmed39 s.vm) (hby : c.code = bs) {a : Addr} {cl : Cell} (eT : T.heap = h) (A : Arr Z h a cl .long) {j : Int32} {v : Value} (hj : ¬ (j < 0 ∨ cl.slots.size ≤ j.toNatClampNeg)) (hv : cl.slots[j.toNatClampNeg]? = some v) (hd : decode bs pc = .ok (.laload, 1)) (hp : pc + 1 = pc') (k : own_End p e below F (T.setTop (mkF m pc' Ls (v :: st)))) : own_End p e below F (T.setTop (mkF m pc Ls (.int j :: .ref a :: st))) := by
  subst hp
  exact own_step (fun t q => X.laload hx (j := j) (v := v) (by rw [eT]; exact A.1) (State.isArrayOf_alike hZ.alike A.2.1) A.2.2 hj hv (g := mkF m pc Ls (.int j :: .ref a :: st)) rfl rfl (hb hby hd) _ q) k
theorem own_caload (X : Stand p l e R s m args below meth c T locs cells slots) (hx : p.tables.exec = Jvm.exec) (hZ : Z.Warmed39 s.vm) (hby : c.code = bs) {a : Addr} {cl : Cell} (eT : T.heap = h) (A : Arr Z h a cl .char) {j : Int32} {v : Value} (hj : ¬ (j < 0 ∨ cl.slots.size ≤ j.toNatClampNeg)) (hv : cl.slots[j.toNatClampNeg]? = some v) (hd : decode bs pc = .ok (.caload, 1)) (hp : pc + 1 = pc') (k : own_End p e below F (T.setTop (mkF m pc' Ls (v :: st)))) : own_End p e below F (T.setTop (mkF m pc Ls (.int j :: .ref a :: st))) := by
  subst hp
  exact own_step (fun t q => X.caload hx (j := j) (v := v) (by rw [eT]; exact A.1) (State.isArrayOf_alike hZ.alike A.2.1) A.2.2 hj hv (g := mkF m pc Ls (.int j :: .ref a :: st)) rfl rfl (hb hby hd) _ q) k
theorem own_baload (X : Stand p l e R s m args below meth c T locs cells slots) (hx : p.tables.exec = Jvm.exec) (hZ : Z.Warmed39 s.vm) (hby : c.code = bs) {a : Addr} {cl : Cell} (eT : T.heap = h) (A : Arr Z h a cl .byte) {j : Int32} {v : Value} (hj : ¬ (j < 0 ∨ cl.slots.size ≤ j.toNatClampNeg)) (hv : cl.slots[j.toNatClampNeg]? = some v) (hd : decode bs pc = .ok (.baload, 1)) (hp : pc + 1 = pc') (k : own_End p e below F (T.setTop (mkF m pc' Ls (v :: st)))) : own_End p e below F (T.setTop (mkF m pc Ls (.int j :: .ref a :: st))) := by
  subst hp
  exact own_step (fun t q => X.baloadBytes hx (j := j) (v := v) (by rw [eT]; exact A.1) (State.isArrayOf_alike hZ.alike A.2.1) A.2.2 hj hv (g := mkF m pc Ls (.int j :: .ref a :: st)) rfl rfl (hb hby hd) _ q) k
theorem own_aaload (X : Stand p l e R s m args below meth c T locs cells slots) (hx : p.tables.exec = Jvm.exec) (hZ : Z.Warmed39 s.vm) (hby : c.code = bs) {a : Addr} {cl : Cell} {ty : FieldType} (eT : T.heap = h) (A : Arr Z h a cl ty) (hty : ty.isReference = true) {j : Int32} {v : Value} (hj : ¬ (j < 0 ∨ cl.slots.size ≤ j.toNatClampNeg)) (hv : cl.slots[j.toNatClampNeg]? = some v) (hd : decode bs pc = .ok (.aaload, 1)) (hp : pc + 1 = pc') (k : own_End p e below F (T.setTop (mkF m pc' Ls (v :: st)))) : own_End p e below F (T.setTop (mkF m pc Ls (.int j :: .ref a :: st))) := by
  subst hp
  exact own_step (fun t q => X.aaload hx (j := j) (v := v) (by rw [eT]; exact A.1) (State.isArrayOf_alike hZ.alike A.2.1) hty A.2.2 hj hv (g := mkF m pc Ls (.int j :: .ref a :: st)) rfl rfl (hb hby hd) _ q) k
theorem own_alen (X : Stand p l e R s m args below meth c T locs cells slots) (hx : p.tables.exec = Jvm.exec) (hZ : Z.Warmed39 s.vm) (hby : c.code = bs) {a : Addr} {cl : Cell} {ty : FieldType} {z : Int32} (eT : T.heap = h) (A : Arr Z h a cl ty) (S : cl.slots.size = z.toNatClampNeg) (M : ¬ z < 0) (hd : decode bs pc = .ok (.arraylength, 1)) (hp : pc + 1 = pc') (k : own_End p e below F (T.setTop (mkF m pc' Ls (.int z :: st)))) : own_End p e below F (T.setTop (mkF m pc Ls (.ref a :: st))) := by
  subst hp
  have hl := len_of S M
  exact own_step (fun t q => X.arraylength hx (by rw [eT]; exact A.1) (State.isArrayOf_alike hZ.alike A.2.1) (g := mkF m pc Ls (.ref a :: st)) rfl rfl (hb hby hd) _ (by rw [hl]; exact q)) k
theorem own_init (X : Stand p l e R s m args below meth c T locs cells slots) (hx : p.tables.exec = Jvm.exec) (hZ : Z.Warmed39 s.vm) (hby : c.code = bs) {own : String} {index : Nat} {a : Addr} {W : Nat} (hown : s.vm.findClass own = some m.cls) (w1 : (Cond.methodLink own index Lib.objectInit).before a0 Z = true) (w2 : (Cond.instanceMethod Lib.objectInit).before a0 Z = true) (w3 : (Cond.code Lib.objectInit ⟨#[0xb1]⟩ 1 none).before a0 Z = true) (eT : T.heap = h) (hsz : Ls.size = c.maxLocals) (hd : decode bs pc = .ok (.invokespecial index, 3)) (hp : pc + 3 = pc') (hf : 1 ≤ R.frames) (hW : (st.map fun v => v.category).sum ≤ W) (hl : W + 12 ≤ R.locals)
    (k : ∀ T', Stand p l e R s m args below meth c T' locs cells slots → T'.heap = h → own_End p e below F (T'.setTop (mkF m pc' Ls st))) : own_End p e below F (T.setTop (mkF m pc Ls (.ref a :: st))) := by
  subst hp
  obtain ⟨T', X', e', stp⟩ := initO X hx hZ hown w1 w2 w3 eT (g := mkF m pc Ls (.ref a :: st)) rfl hsz rfl (hb hby hd) hf (W := W) (by show 2 * 0 + _ ≤ _; omega) hl
  exact own_step stp (k T' X' e')
theorem own_cast (X : Stand p l e R s m args below meth c T locs cells slots) (hx : p.tables.exec = Jvm.exec) (hZ : Z.Warmed39 s.vm) (hby : c.code = bs) {own K : String} {index : Nat} {a : Addr} (hown : s.vm.findClass own = some m.cls) (w : (Cond.classLink own index K).before a0 Z = true) (eT : T.heap = h) (I : Ins Z h a K true) (hd : decode bs pc = .ok (.checkcast index, 3)) (hp : pc + 3 = pc')
    (k : ∀ T', Stand p l e R s m args below meth c T' locs cells slots → T'.heap = h → own_End p e below F (T'.setTop (mkF m pc' Ls (.ref a :: st)))) : own_End p e below F (T.setTop (mkF m pc Ls (.ref a :: st))) := by
  subst hp
  obtain ⟨T', X', e', stp⟩ := castY X hx hZ hown w eT I (g := mkF m pc Ls (.ref a :: st)) rfl rfl (hb hby hd)
  exact own_step stp (k T' X' e')
theorem own_inst (X : Stand p l e R s m args below meth c T locs cells slots) (hx : p.tables.exec = Jvm.exec) (hZ : Z.Warmed39 s.vm) (hby : c.code = bs) {own K : String} {index : Nat} {a : Addr} (hown : s.vm.findClass own = some m.cls) (w : (Cond.classLink own index K).before a0 Z = true) (eT : T.heap = h) (I : Ins Z h a K true) (hd : decode bs pc = .ok (.instanceof index, 3)) (hp : pc + 3 = pc')
    (k : ∀ T', Stand p l e R s m args below meth c T' locs cells slots → T'.heap = h → own_End p e below F (T'.setTop (mkF m pc' Ls (.int 1 :: st)))) : own_End p e below F (T.setTop (mkF m pc Ls (.ref a :: st))) := by
  subst hp
  obtain ⟨T', X', e', stp⟩ := instY X hx hZ hown w eT I (g := mkF m pc Ls (.ref a :: st)) rfl rfl (hb hby hd)
  exact own_step stp (k T' X' e')
theorem own_instNull (X : Stand p l e R s m args below meth c T locs cells slots) (hx : p.tables.exec = Jvm.exec) (hby : c.code = bs) {index : Nat} (hd : decode bs pc = .ok (.instanceof index, 3)) (hp : pc + 3 = pc') (k : own_End p e below F (T.setTop (mkF m pc' Ls (.int 0 :: st)))) : own_End p e below F (T.setTop (mkF m pc Ls (.null :: st))) := by
  subst hp
  exact own_step (fun t q => X.instanceofNull hx (g := mkF m pc Ls (.null :: st)) rfl rfl (hb hby hd) _ q) k
end Heap
end OwnKit

theorem wd_0 {a0 : Array Value} {Z : State} (hw : ∀ d ∈ tables_1, d.before a0 Z = true) : (Jvm.Cond.constant "com/example/hermod/hermod/xrap/FrameReaderAtEndPinLaw" (7 : Nat) (2147483647 : Int32)).before a0 Z = true := hw _ (List.mem_of_getElem? (i := 0) rfl)
theorem wd_1 {a0 : Array Value} {Z : State} (hw : ∀ d ∈ tables_1, d.before a0 Z = true) : (Jvm.Cond.classLink "com/example/hermod/hermod/xrap/FrameReaderAtEndPinLaw" (8 : Nat) "com/example/hermod/hermod/xrap/FrameReader").before a0 Z = true := hw _ (List.mem_of_getElem? (i := 1) rfl)
theorem wd_2 {a0 : Array Value} {Z : State} (hw : ∀ d ∈ tables_1, d.before a0 Z = true) : (Jvm.Cond.instantiable "com/example/hermod/hermod/xrap/FrameReader" (2 : Nat)).before a0 Z = true := hw _ (List.mem_of_getElem? (i := 2) rfl)
theorem wd_3 {a0 : Array Value} {Z : State} (hw : ∀ d ∈ tables_1, d.before a0 Z = true) : (Jvm.Cond.initialized "com/example/hermod/hermod/xrap/FrameReader").before a0 Z = true := hw _ (List.mem_of_getElem? (i := 3) rfl)
theorem wd_4 {a0 : Array Value} {Z : State} (hw : ∀ d ∈ tables_1, d.before a0 Z = true) : (Jvm.Cond.arrayClass Jvm.ClassFile.FieldType.byte).before a0 Z = true := hw _ (List.mem_of_getElem? (i := 4) rfl)
theorem wd_5 {a0 : Array Value} {Z : State} (hw : ∀ d ∈ tables_1, d.before a0 Z = true) : (Jvm.Cond.methodLink "com/example/hermod/hermod/xrap/FrameReaderAtEndPinLaw" (10 : Nat) ({ cls := "com/example/hermod/hermod/xrap/FrameReader", name := "<init>", desc := "([B)V" } : Jvm.MethodName)).before a0 Z = true := hw _ (List.mem_of_getElem? (i := 5) rfl)
theorem wd_6 {a0 : Array Value} {Z : State} (hw : ∀ d ∈ tables_1, d.before a0 Z = true) : (Jvm.Cond.instanceMethod ({ cls := "com/example/hermod/hermod/xrap/FrameReader", name := "<init>", desc := "([B)V" } : Jvm.MethodName)).before a0 Z = true := hw _ (List.mem_of_getElem? (i := 6) rfl)
theorem wd_7 {a0 : Array Value} {Z : State} (hw : ∀ d ∈ tables_1, d.before a0 Z = true) : (Jvm.Cond.code ({ cls := "com/example/hermod/hermod/xrap/FrameReader", name := "<init>", desc := "([B)V" } : Jvm.MethodName) prog_14_method_1_code (2 : Nat) (Option.none : Option Jvm.ClassFile.FieldType)).before a0 Z = true := hw _ (List.mem_of_getElem? (i := 7) rfl)
theorem wd_8 {a0 : Array Value} {Z : State} (hw : ∀ d ∈ tables_1, d.before a0 Z = true) : (Jvm.Cond.methodLink "com/example/hermod/hermod/xrap/FrameReader" (1 : Nat) ({ cls := "java/lang/Object", name := "<init>", desc := "()V" } : Jvm.MethodName)).before a0 Z = true := hw _ (List.mem_of_getElem? (i := 8) rfl)
theorem wd_9 {a0 : Array Value} {Z : State} (hw : ∀ d ∈ tables_1, d.before a0 Z = true) : (Jvm.Cond.instanceMethod ({ cls := "java/lang/Object", name := "<init>", desc := "()V" } : Jvm.MethodName)).before a0 Z = true := hw _ (List.mem_of_getElem? (i := 9) rfl)
theorem wd_10 {a0 : Array Value} {Z : State} (hw : ∀ d ∈ tables_1, d.before a0 Z = true) : (Jvm.Cond.code ({ cls := "java/lang/Object", name := "<init>", desc := "()V" } : Jvm.MethodName) object_method_1_code (1 : Nat) (Option.none : Option Jvm.ClassFile.FieldType)).before a0 Z = true := hw _ (List.mem_of_getElem? (i := 10) rfl)
theorem wd_11 {a0 : Array Value} {Z : State} (hw : ∀ d ∈ tables_1, d.before a0 Z = true) : (Jvm.Cond.stringLink "com/example/hermod/hermod/xrap/FrameReader" (7 : Nat) "frame").before a0 Z = true := hw _ (List.mem_of_getElem? (i := 11) rfl)
theorem wd_12 {a0 : Array Value} {Z : State} (hw : ∀ d ∈ tables_1, d.before a0 Z = true) : (Jvm.Cond.initialized "java/lang/String").before a0 Z = true := hw _ (List.mem_of_getElem? (i := 12) rfl)
theorem wd_13 {a0 : Array Value} {Z : State} (hw : ∀ d ∈ tables_1, d.before a0 Z = true) : (Jvm.Cond.instantiable "java/lang/String" (4 : Nat)).before a0 Z = true := hw _ (List.mem_of_getElem? (i := 13) rfl)
theorem wd_14 {a0 : Array Value} {Z : State} (hw : ∀ d ∈ tables_1, d.before a0 Z = true) : (Jvm.Cond.laysFinal "java/lang/String" "java/lang/String" "value" "[B").before a0 Z = true := hw _ (List.mem_of_getElem? (i := 14) rfl)
theorem wd_15 {a0 : Array Value} {Z : State} (hw : ∀ d ∈ tables_1, d.before a0 Z = true) : (Jvm.Cond.laysFinal "java/lang/String" "java/lang/String" "coder" "B").before a0 Z = true := hw _ (List.mem_of_getElem? (i := 15) rfl)
theorem wd_16 {a0 : Array Value} {Z : State} (hw : ∀ d ∈ tables_1, d.before a0 Z = true) : (Jvm.Cond.soleField "java/lang/String" "value").before a0 Z = true := hw _ (List.mem_of_getElem? (i := 16) rfl)
theorem wd_17 {a0 : Array Value} {Z : State} (hw : ∀ d ∈ tables_1, d.before a0 Z = true) : (Jvm.Cond.soleField "java/lang/String" "coder").before a0 Z = true := hw _ (List.mem_of_getElem? (i := 17) rfl)
theorem wd_18 {a0 : Array Value} {Z : State} (hw : ∀ d ∈ tables_1, d.before a0 Z = true) : (Jvm.Cond.methodLink "com/example/hermod/hermod/xrap/FrameReader" (9 : Nat) ({ cls := "java/util/Objects", name := "requireNonNull", desc := "(Ljava/lang/Object;Ljava/lang/String;)Ljava/lang/Object;" } : Jvm.MethodName)).before a0 Z = true := hw _ (List.mem_of_getElem? (i := 18) rfl)
theorem wd_19 {a0 : Array Value} {Z : State} (hw : ∀ d ∈ tables_1, d.before a0 Z = true) : (Jvm.Cond.static ({ cls := "java/util/Objects", name := "requireNonNull", desc := "(Ljava/lang/Object;Ljava/lang/String;)Ljava/lang/Object;" } : Jvm.MethodName)).before a0 Z = true := hw _ (List.mem_of_getElem? (i := 19) rfl)
theorem wd_20 {a0 : Array Value} {Z : State} (hw : ∀ d ∈ tables_1, d.before a0 Z = true) : (Jvm.Cond.initialized "java/util/Objects").before a0 Z = true := hw _ (List.mem_of_getElem? (i := 20) rfl)
theorem wd_21 {a0 : Array Value} {Z : State} (hw : ∀ d ∈ tables_1, d.before a0 Z = true) : (Jvm.Cond.code ({ cls := "java/util/Objects", name := "requireNonNull", desc := "(Ljava/lang/Object;Ljava/lang/String;)Ljava/lang/Object;" } : Jvm.MethodName) jdk_31_method_11_code (2 : Nat) (Option.some (Jvm.ClassFile.FieldType.object "java/lang/Object"))).before a0 Z = true := hw _ (List.mem_of_getElem? (i := 21) rfl)
theorem wd_22 {a0 : Array Value} {Z : State} (hw : ∀ d ∈ tables_1, d.before a0 Z = true) : (Jvm.Cond.classLink "com/example/hermod/hermod/xrap/FrameReader" (15 : Nat) "[B").before a0 Z = true := hw _ (List.mem_of_getElem? (i := 22) rfl)
theorem wd_24 {a0 : Array Value} {Z : State} (hw : ∀ d ∈ tables_1, d.before a0 Z = true) : (Jvm.Cond.fieldLink "com/example/hermod/hermod/xrap/FrameReader" (17 : Nat) "com/example/hermod/hermod/xrap/FrameReader" "frame" "[B").before a0 Z = true := hw _ (List.mem_of_getElem? (i := 24) rfl)
theorem wd_25 {a0 : Array Value} {Z : State} (hw : ∀ d ∈ tables_1, d.before a0 Z = true) : (Jvm.Cond.laysFinal "com/example/hermod/hermod/xrap/FrameReader" "com/example/hermod/hermod/xrap/FrameReader" "frame" "[B").before a0 Z = true := hw _ (List.mem_of_getElem? (i := 25) rfl)
theorem wd_26 {a0 : Array Value} {Z : State} (hw : ∀ d ∈ tables_1, d.before a0 Z = true) : (Jvm.Cond.methodLink "com/example/hermod/hermod/xrap/FrameReaderAtEndPinLaw" (13 : Nat) ({ cls := "com/example/hermod/hermod/xrap/FrameReader", name := "atEnd", desc := "()Z" } : Jvm.MethodName)).before a0 Z = true := hw _ (List.mem_of_getElem? (i := 26) rfl)
theorem wd_27 {a0 : Array Value} {Z : State} (hw : ∀ d ∈ tables_1, d.before a0 Z = true) : (Jvm.Cond.declares ({ cls := "com/example/hermod/hermod/xrap/FrameReader", name := "atEnd", desc := "()Z" } : Jvm.MethodName)).before a0 Z = true := hw _ (List.mem_of_getElem? (i := 27) rfl)
theorem wd_28 {a0 : Array Value} {Z : State} (hw : ∀ d ∈ tables_1, d.before a0 Z = true) : (Jvm.Cond.instanceMethod ({ cls := "com/example/hermod/hermod/xrap/FrameReader", name := "atEnd", desc := "()Z" } : Jvm.MethodName)).before a0 Z = true := hw _ (List.mem_of_getElem? (i := 28) rfl)
theorem wd_29 {a0 : Array Value} {Z : State} (hw : ∀ d ∈ tables_1, d.before a0 Z = true) : (Jvm.Cond.selects "com/example/hermod/hermod/xrap/FrameReader" ({ cls := "com/example/hermod/hermod/xrap/FrameReader", name := "atEnd", desc := "()Z" } : Jvm.MethodName) ({ cls := "com/example/hermod/hermod/xrap/FrameReader", name := "atEnd", desc := "()Z" } : Jvm.MethodName)).before a0 Z = true := hw _ (List.mem_of_getElem? (i := 29) rfl)
theorem wd_30 {a0 : Array Value} {Z : State} (hw : ∀ d ∈ tables_1, d.before a0 Z = true) : (Jvm.Cond.code ({ cls := "com/example/hermod/hermod/xrap/FrameReader", name := "atEnd", desc := "()Z" } : Jvm.MethodName) prog_14_method_9_code (1 : Nat) (Option.some Jvm.ClassFile.FieldType.boolean)).before a0 Z = true := hw _ (List.mem_of_getElem? (i := 30) rfl)
theorem wd_31 {a0 : Array Value} {Z : State} (hw : ∀ d ∈ tables_1, d.before a0 Z = true) : (Jvm.Cond.fieldLink "com/example/hermod/hermod/xrap/FrameReader" (50 : Nat) "com/example/hermod/hermod/xrap/FrameReader" "position" "I").before a0 Z = true := hw _ (List.mem_of_getElem? (i := 31) rfl)
theorem wd_32 {a0 : Array Value} {Z : State} (hw : ∀ d ∈ tables_1, d.before a0 Z = true) : (Jvm.Cond.lays "com/example/hermod/hermod/xrap/FrameReader" "com/example/hermod/hermod/xrap/FrameReader" "position" "I").before a0 Z = true := hw _ (List.mem_of_getElem? (i := 32) rfl)
theorem wd_33 {a0 : Array Value} {Z : State} (hw : ∀ d ∈ tables_1, d.before a0 Z = true) : (Jvm.Cond.methodLink "com/example/hermod/hermod/xrap/FrameReaderAtEndPinLaw" (25 : Nat) ({ cls := "com/example/hermod/hermod/xrap/FrameReader", name := "readNumber1", desc := "()I" } : Jvm.MethodName)).before a0 Z = true := hw _ (List.mem_of_getElem? (i := 33) rfl)
theorem wd_34 {a0 : Array Value} {Z : State} (hw : ∀ d ∈ tables_1, d.before a0 Z = true) : (Jvm.Cond.declares ({ cls := "com/example/hermod/hermod/xrap/FrameReader", name := "readNumber1", desc := "()I" } : Jvm.MethodName)).before a0 Z = true := hw _ (List.mem_of_getElem? (i := 34) rfl)
theorem wd_35 {a0 : Array Value} {Z : State} (hw : ∀ d ∈ tables_1, d.before a0 Z = true) : (Jvm.Cond.instanceMethod ({ cls := "com/example/hermod/hermod/xrap/FrameReader", name := "readNumber1", desc := "()I" } : Jvm.MethodName)).before a0 Z = true := hw _ (List.mem_of_getElem? (i := 35) rfl)
theorem wd_36 {a0 : Array Value} {Z : State} (hw : ∀ d ∈ tables_1, d.before a0 Z = true) : (Jvm.Cond.selects "com/example/hermod/hermod/xrap/FrameReader" ({ cls := "com/example/hermod/hermod/xrap/FrameReader", name := "readNumber1", desc := "()I" } : Jvm.MethodName) ({ cls := "com/example/hermod/hermod/xrap/FrameReader", name := "readNumber1", desc := "()I" } : Jvm.MethodName)).before a0 Z = true := hw _ (List.mem_of_getElem? (i := 36) rfl)
theorem wd_37 {a0 : Array Value} {Z : State} (hw : ∀ d ∈ tables_1, d.before a0 Z = true) : (Jvm.Cond.code ({ cls := "com/example/hermod/hermod/xrap/FrameReader", name := "readNumber1", desc := "()I" } : Jvm.MethodName) prog_14_method_2_code (1 : Nat) (Option.some Jvm.ClassFile.FieldType.int)).before a0 Z = true := hw _ (List.mem_of_getElem? (i := 37) rfl)
theorem wd_38 {a0 : Array Value} {Z : State} (hw : ∀ d ∈ tables_1, d.before a0 Z = true) : (Jvm.Cond.stringLink "com/example/hermod/hermod/xrap/FrameReader" (21 : Nat) "number1").before a0 Z = true := hw _ (List.mem_of_getElem? (i := 38) rfl)
theorem wd_39 {a0 : Array Value} {Z : State} (hw : ∀ d ∈ tables_1, d.before a0 Z = true) : (Jvm.Cond.methodLink "com/example/hermod/hermod/xrap/FrameReader" (23 : Nat) ({ cls := "com/example/hermod/hermod/xrap/FrameReader", name := "readNumber", desc := "(ILjava/lang/String;)J" } : Jvm.MethodName)).before a0 Z = true := hw _ (List.mem_of_getElem? (i := 39) rfl)
theorem wd_40 {a0 : Array Value} {Z : State} (hw : ∀ d ∈ tables_1, d.before a0 Z = true) : (Jvm.Cond.instanceMethod ({ cls := "com/example/hermod/hermod/xrap/FrameReader", name := "readNumber", desc := "(ILjava/lang/String;)J" } : Jvm.MethodName)).before a0 Z = true := hw _ (List.mem_of_getElem? (i := 40) rfl)
theorem wd_41 {a0 : Array Value} {Z : State} (hw : ∀ d ∈ tables_1, d.before a0 Z = true) : (Jvm.Cond.privateMethod ({ cls := "com/example/hermod/hermod/xrap/FrameReader", name := "readNumber", desc := "(ILjava/lang/String;)J" } : Jvm.MethodName)).before a0 Z = true := hw _ (List.mem_of_getElem? (i := 41) rfl)
theorem wd_42 {a0 : Array Value} {Z : State} (hw : ∀ d ∈ tables_1, d.before a0 Z = true) : (Jvm.Cond.code ({ cls := "com/example/hermod/hermod/xrap/FrameReader", name := "readNumber", desc := "(ILjava/lang/String;)J" } : Jvm.MethodName) prog_14_method_11_code (7 : Nat) (Option.some Jvm.ClassFile.FieldType.long)).before a0 Z = true := hw _ (List.mem_of_getElem? (i := 42) rfl)
theorem wd_43 {a0 : Array Value} {Z : State} (hw : ∀ d ∈ tables_1, d.before a0 Z = true) : (Jvm.Cond.methodLink "com/example/hermod/hermod/xrap/FrameReader" (39 : Nat) ({ cls := "com/example/hermod/hermod/xrap/FrameReader", name := "claim", desc := "(JLjava/lang/String;)I" } : Jvm.MethodName)).before a0 Z = true := hw _ (List.mem_of_getElem? (i := 43) rfl)
theorem wd_44 {a0 : Array Value} {Z : State} (hw : ∀ d ∈ tables_1, d.before a0 Z = true) : (Jvm.Cond.instanceMethod ({ cls := "com/example/hermod/hermod/xrap/FrameReader", name := "claim", desc := "(JLjava/lang/String;)I" } : Jvm.MethodName)).before a0 Z = true := hw _ (List.mem_of_getElem? (i := 44) rfl)
theorem wd_45 {a0 : Array Value} {Z : State} (hw : ∀ d ∈ tables_1, d.before a0 Z = true) : (Jvm.Cond.privateMethod ({ cls := "com/example/hermod/hermod/xrap/FrameReader", name := "claim", desc := "(JLjava/lang/String;)I" } : Jvm.MethodName)).before a0 Z = true := hw _ (List.mem_of_getElem? (i := 45) rfl)
theorem wd_46 {a0 : Array Value} {Z : State} (hw : ∀ d ∈ tables_1, d.before a0 Z = true) : (Jvm.Cond.code ({ cls := "com/example/hermod/hermod/xrap/FrameReader", name := "claim", desc := "(JLjava/lang/String;)I" } : Jvm.MethodName) prog_14_method_13_code (5 : Nat) (Option.some Jvm.ClassFile.FieldType.int)).before a0 Z = true := hw _ (List.mem_of_getElem? (i := 46) rfl)
theorem wd_47 {a0 : Array Value} {Z : State} (hw : ∀ d ∈ tables_1, d.before a0 Z = true) : (Jvm.Cond.methodLink "com/example/hermod/hermod/xrap/FrameReaderAtEndPinLaw" (21 : Nat) ({ cls := "com/example/hermod/hermod/xrap/FrameReader", name := "readNumber2", desc := "()I" } : Jvm.MethodName)).before a0 Z = true := hw _ (List.mem_of_getElem? (i := 47) rfl)
theorem wd_48 {a0 : Array Value} {Z : State} (hw : ∀ d ∈ tables_1, d.before a0 Z = true) : (Jvm.Cond.declares ({ cls := "com/example/hermod/hermod/xrap/FrameReader", name := "readNumber2", desc := "()I" } : Jvm.MethodName)).before a0 Z = true := hw _ (List.mem_of_getElem? (i := 48) rfl)
theorem wd_49 {a0 : Array Value} {Z : State} (hw : ∀ d ∈ tables_1, d.before a0 Z = true) : (Jvm.Cond.instanceMethod ({ cls := "com/example/hermod/hermod/xrap/FrameReader", name := "readNumber2", desc := "()I" } : Jvm.MethodName)).before a0 Z = true := hw _ (List.mem_of_getElem? (i := 49) rfl)
theorem wd_50 {a0 : Array Value} {Z : State} (hw : ∀ d ∈ tables_1, d.before a0 Z = true) : (Jvm.Cond.selects "com/example/hermod/hermod/xrap/FrameReader" ({ cls := "com/example/hermod/hermod/xrap/FrameReader", name := "readNumber2", desc := "()I" } : Jvm.MethodName) ({ cls := "com/example/hermod/hermod/xrap/FrameReader", name := "readNumber2", desc := "()I" } : Jvm.MethodName)).before a0 Z = true := hw _ (List.mem_of_getElem? (i := 50) rfl)
theorem wd_51 {a0 : Array Value} {Z : State} (hw : ∀ d ∈ tables_1, d.before a0 Z = true) : (Jvm.Cond.code ({ cls := "com/example/hermod/hermod/xrap/FrameReader", name := "readNumber2", desc := "()I" } : Jvm.MethodName) prog_14_method_3_code (1 : Nat) (Option.some Jvm.ClassFile.FieldType.int)).before a0 Z = true := hw _ (List.mem_of_getElem? (i := 51) rfl)
theorem wd_52 {a0 : Array Value} {Z : State} (hw : ∀ d ∈ tables_1, d.before a0 Z = true) : (Jvm.Cond.stringLink "com/example/hermod/hermod/xrap/FrameReader" (27 : Nat) "number2").before a0 Z = true := hw _ (List.mem_of_getElem? (i := 52) rfl)
theorem wd_53 {a0 : Array Value} {Z : State} (hw : ∀ d ∈ tables_1, d.before a0 Z = true) : (Jvm.Cond.methodLink "com/example/hermod/hermod/xrap/FrameReaderAtEndPinLaw" (17 : Nat) ({ cls := "com/example/hermod/hermod/xrap/FrameReader", name := "readNumber4", desc := "()J" } : Jvm.MethodName)).before a0 Z = true := hw _ (List.mem_of_getElem? (i := 53) rfl)
theorem wd_54 {a0 : Array Value} {Z : State} (hw : ∀ d ∈ tables_1, d.before a0 Z = true) : (Jvm.Cond.declares ({ cls := "com/example/hermod/hermod/xrap/FrameReader", name := "readNumber4", desc := "()J" } : Jvm.MethodName)).before a0 Z = true := hw _ (List.mem_of_getElem? (i := 54) rfl)
theorem wd_55 {a0 : Array Value} {Z : State} (hw : ∀ d ∈ tables_1, d.before a0 Z = true) : (Jvm.Cond.instanceMethod ({ cls := "com/example/hermod/hermod/xrap/FrameReader", name := "readNumber4", desc := "()J" } : Jvm.MethodName)).before a0 Z = true := hw _ (List.mem_of_getElem? (i := 55) rfl)
theorem wd_56 {a0 : Array Value} {Z : State} (hw : ∀ d ∈ tables_1, d.before a0 Z = true) : (Jvm.Cond.selects "com/example/hermod/hermod/xrap/FrameReader" ({ cls := "com/example/hermod/hermod/xrap/FrameReader", name := "readNumber4", desc := "()J" } : Jvm.MethodName) ({ cls := "com/example/hermod/hermod/xrap/FrameReader", name := "readNumber4", desc := "()J" } : Jvm.MethodName)).before a0 Z = true := hw _ (List.mem_of_getElem? (i := 56) rfl)
theorem wd_57 {a0 : Array Value} {Z : State} (hw : ∀ d ∈ tables_1, d.before a0 Z = true) : (Jvm.Cond.code ({ cls := "com/example/hermod/hermod/xrap/FrameReader", name := "readNumber4", desc := "()J" } : Jvm.MethodName) prog_14_method_4_code (1 : Nat) (Option.some Jvm.ClassFile.FieldType.long)).before a0 Z = true := hw _ (List.mem_of_getElem? (i := 57) rfl)
theorem wd_58 {a0 : Array Value} {Z : State} (hw : ∀ d ∈ tables_1, d.before a0 Z = true) : (Jvm.Cond.stringLink "com/example/hermod/hermod/xrap/FrameReader" (29 : Nat) "number4").before a0 Z = true := hw _ (List.mem_of_getElem? (i := 58) rfl)
theorem d1_0 : decode prog_14_method_1_code 0 = .ok (.aload_n 0, 1) := by decide +kernel
theorem d1_1 : decode prog_14_method_1_code 1 = .ok (.invokespecial 1, 3) := by decide +kernel
theorem d1_4 : decode prog_14_method_1_code 4 = .ok (.aload_n 0, 1) := by decide +kernel
theorem d1_5 : decode prog_14_method_1_code 5 = .ok (.aload_n 1, 1) := by decide +kernel
theorem d1_6 : decode prog_14_method_1_code 6 = .ok (.ldc 7, 2) := by decide +kernel
theorem d1_8 : decode prog_14_method_1_code 8 = .ok (.invokestatic 9, 3) := by decide +kernel
theorem d1_11 : decode prog_14_method_1_code 11 = .ok (.checkcast 15, 3) := by decide +kernel
theorem d1_14 : decode prog_14_method_1_code 14 = .ok (.putfield 17, 3) := by decide +kernel
theorem d1_17 : decode prog_14_method_1_code 17 = .ok (.return_, 1) := by decide +kernel
theorem d3_0 : decode jdk_31_method_11_code 0 = .ok (.aload_n 0, 1) := by decide +kernel
theorem d3_1 : decode jdk_31_method_11_code 1 = .ok (.ifnonnull 12, 3) := by decide +kernel
theorem d3_13 : decode jdk_31_method_11_code 13 = .ok (.aload_n 0, 1) := by decide +kernel
theorem d3_14 : decode jdk_31_method_11_code 14 = .ok (.areturn, 1) := by decide +kernel
theorem d4_0 : decode prog_14_method_9_code 0 = .ok (.aload_n 0, 1) := by decide +kernel
theorem d4_1 : decode prog_14_method_9_code 1 = .ok (.getfield 50, 3) := by decide +kernel
theorem d4_4 : decode prog_14_method_9_code 4 = .ok (.aload_n 0, 1) := by decide +kernel
theorem d4_5 : decode prog_14_method_9_code 5 = .ok (.getfield 17, 3) := by decide +kernel
theorem d4_8 : decode prog_14_method_9_code 8 = .ok (.arraylength, 1) := by decide +kernel
theorem d4_9 : decode prog_14_method_9_code 9 = .ok (.if_icmp .ne 7, 3) := by decide +kernel
theorem d4_12 : decode prog_14_method_9_code 12 = .ok (.iconst 1, 1) := by decide +kernel
theorem d4_13 : decode prog_14_method_9_code 13 = .ok (.goto 4, 3) := by decide +kernel
theorem d4_16 : decode prog_14_method_9_code 16 = .ok (.iconst 0, 1) := by decide +kernel
theorem d4_17 : decode prog_14_method_9_code 17 = .ok (.ireturn, 1) := by decide +kernel
theorem d5_0 : decode prog_14_method_2_code 0 = .ok (.aload_n 0, 1) := by decide +kernel
theorem d5_1 : decode prog_14_method_2_code 1 = .ok (.iconst 1, 1) := by decide +kernel
theorem d5_2 : decode prog_14_method_2_code 2 = .ok (.ldc 21, 2) := by decide +kernel
theorem d5_4 : decode prog_14_method_2_code 4 = .ok (.invokevirtual 23, 3) := by decide +kernel
theorem d5_7 : decode prog_14_method_2_code 7 = .ok (.l2i, 1) := by decide +kernel
theorem d5_8 : decode prog_14_method_2_code 8 = .ok (.ireturn, 1) := by decide +kernel
theorem d6_0 : decode prog_14_method_11_code 0 = .ok (.aload_n 0, 1) := by decide +kernel
theorem d6_1 : decode prog_14_method_11_code 1 = .ok (.iload_n 1, 1) := by decide +kernel
theorem d6_2 : decode prog_14_method_11_code 2 = .ok (.i2l, 1) := by decide +kernel
theorem d6_3 : decode prog_14_method_11_code 3 = .ok (.aload_n 2, 1) := by decide +kernel
theorem d6_4 : decode prog_14_method_11_code 4 = .ok (.invokevirtual 39, 3) := by decide +kernel
theorem d6_7 : decode prog_14_method_11_code 7 = .ok (.istore_n 3, 1) := by decide +kernel
theorem d6_8 : decode prog_14_method_11_code 8 = .ok (.lconst 0, 1) := by decide +kernel
theorem d6_9 : decode prog_14_method_11_code 9 = .ok (.lstore 4, 2) := by decide +kernel
theorem d6_11 : decode prog_14_method_11_code 11 = .ok (.iload_n 3, 1) := by decide +kernel
theorem d6_12 : decode prog_14_method_11_code 12 = .ok (.istore 6, 2) := by decide +kernel
theorem d6_14 : decode prog_14_method_11_code 14 = .ok (.iload 6, 2) := by decide +kernel
theorem d6_16 : decode prog_14_method_11_code 16 = .ok (.aload_n 0, 1) := by decide +kernel
theorem d6_17 : decode prog_14_method_11_code 17 = .ok (.getfield 50, 3) := by decide +kernel
theorem d6_20 : decode prog_14_method_11_code 20 = .ok (.if_icmp .ge 29, 3) := by decide +kernel
theorem d6_23 : decode prog_14_method_11_code 23 = .ok (.lload 4, 2) := by decide +kernel
theorem d6_25 : decode prog_14_method_11_code 25 = .ok (.bipush 8, 2) := by decide +kernel
theorem d6_27 : decode prog_14_method_11_code 27 = .ok (.lshl, 1) := by decide +kernel
theorem d6_28 : decode prog_14_method_11_code 28 = .ok (.aload_n 0, 1) := by decide +kernel
theorem d6_29 : decode prog_14_method_11_code 29 = .ok (.getfield 17, 3) := by decide +kernel
theorem d6_32 : decode prog_14_method_11_code 32 = .ok (.iload 6, 2) := by decide +kernel
theorem d6_34 : decode prog_14_method_11_code 34 = .ok (.baload, 1) := by decide +kernel
theorem d6_35 : decode prog_14_method_11_code 35 = .ok (.sipush 255, 3) := by decide +kernel
theorem d6_38 : decode prog_14_method_11_code 38 = .ok (.iand, 1) := by decide +kernel
theorem d6_39 : decode prog_14_method_11_code 39 = .ok (.i2l, 1) := by decide +kernel
theorem d6_40 : decode prog_14_method_11_code 40 = .ok (.lor, 1) := by decide +kernel
theorem d6_41 : decode prog_14_method_11_code 41 = .ok (.lstore 4, 2) := by decide +kernel
theorem d6_43 : decode prog_14_method_11_code 43 = .ok (.iinc 6 1, 3) := by decide +kernel
theorem d6_46 : decode prog_14_method_11_code 46 = .ok (.goto (-32), 3) := by decide +kernel
theorem d6_49 : decode prog_14_method_11_code 49 = .ok (.lload 4, 2) := by decide +kernel
theorem d6_51 : decode prog_14_method_11_code 51 = .ok (.lreturn, 1) := by decide +kernel
theorem d7_0 : decode prog_14_method_13_code 0 = .ok (.aload_n 0, 1) := by decide +kernel
theorem d7_1 : decode prog_14_method_13_code 1 = .ok (.getfield 50, 3) := by decide +kernel
theorem d7_4 : decode prog_14_method_13_code 4 = .ok (.istore 4, 2) := by decide +kernel
theorem d7_6 : decode prog_14_method_13_code 6 = .ok (.lload_n 1, 1) := by decide +kernel
theorem d7_7 : decode prog_14_method_13_code 7 = .ok (.aload_n 0, 1) := by decide +kernel
theorem d7_8 : decode prog_14_method_13_code 8 = .ok (.getfield 17, 3) := by decide +kernel
theorem d7_11 : decode prog_14_method_13_code 11 = .ok (.arraylength, 1) := by decide +kernel
theorem d7_12 : decode prog_14_method_13_code 12 = .ok (.iload 4, 2) := by decide +kernel
theorem d7_14 : decode prog_14_method_13_code 14 = .ok (.isub, 1) := by decide +kernel
theorem d7_15 : decode prog_14_method_13_code 15 = .ok (.i2l, 1) := by decide +kernel
theorem d7_16 : decode prog_14_method_13_code 16 = .ok (.lcmp, 1) := by decide +kernel
theorem d7_17 : decode prog_14_method_13_code 17 = .ok (.ifCond .le 25, 3) := by decide +kernel
theorem d7_42 : decode prog_14_method_13_code 42 = .ok (.aload_n 0, 1) := by decide +kernel
theorem d7_43 : decode prog_14_method_13_code 43 = .ok (.iload 4, 2) := by decide +kernel
theorem d7_45 : decode prog_14_method_13_code 45 = .ok (.lload_n 1, 1) := by decide +kernel
theorem d7_46 : decode prog_14_method_13_code 46 = .ok (.l2i, 1) := by decide +kernel
theorem d7_47 : decode prog_14_method_13_code 47 = .ok (.iadd, 1) := by decide +kernel
theorem d7_48 : decode prog_14_method_13_code 48 = .ok (.putfield 50, 3) := by decide +kernel
theorem d7_51 : decode prog_14_method_13_code 51 = .ok (.iload 4, 2) := by decide +kernel
theorem d7_53 : decode prog_14_method_13_code 53 = .ok (.ireturn, 1) := by decide +kernel
theorem d8_0 : decode prog_14_method_3_code 0 = .ok (.aload_n 0, 1) := by decide +kernel
theorem d8_1 : decode prog_14_method_3_code 1 = .ok (.iconst 2, 1) := by decide +kernel
theorem d8_2 : decode prog_14_method_3_code 2 = .ok (.ldc 27, 2) := by decide +kernel
theorem d8_4 : decode prog_14_method_3_code 4 = .ok (.invokevirtual 23, 3) := by decide +kernel
theorem d8_7 : decode prog_14_method_3_code 7 = .ok (.l2i, 1) := by decide +kernel
theorem d8_8 : decode prog_14_method_3_code 8 = .ok (.ireturn, 1) := by decide +kernel
theorem d9_0 : decode prog_14_method_4_code 0 = .ok (.aload_n 0, 1) := by decide +kernel
theorem d9_1 : decode prog_14_method_4_code 1 = .ok (.iconst 4, 1) := by decide +kernel
theorem d9_2 : decode prog_14_method_4_code 2 = .ok (.ldc 29, 2) := by decide +kernel
theorem d9_4 : decode prog_14_method_4_code 4 = .ok (.invokevirtual 23, 3) := by decide +kernel
theorem d9_7 : decode prog_14_method_4_code 7 = .ok (.lreturn, 1) := by decide +kernel
theorem own_pn0 : plainName "java/util/Objects" = true := by first | (simp [plainName, overriddenIn]; done) | decide +kernel
theorem own_wS {a0 : Array Value} {Z : State} (hw : ∀ d ∈ tables_1, d.before a0 Z = true) : ∀ a ∈ Bundle.stringAtoms, a.before a0 Z = true := by
  intro d hd
  simp only [Bundle.stringAtoms, List.mem_cons, List.not_mem_nil, or_false] at hd
  rcases hd with rfl | rfl | rfl | rfl | rfl | rfl | rfl
  · exact wd_12 hw
  · exact wd_13 hw
  · exact wd_4 hw
  · exact wd_14 hw
  · exact wd_15 hw
  · exact wd_16 hw
  · exact wd_17 hw
theorem own_pd1 : parseMethodDescriptor "(Ljava/lang/Object;Ljava/lang/String;)Ljava/lang/Object;" = some ⟨[(.object "java/lang/Object"), (.object "java/lang/String")], some (.object "java/lang/Object")⟩ := by decide +kernel
theorem own_pn2 : plainName "com/example/hermod/hermod/xrap/FrameReader" = true := by first | (simp [plainName, overriddenIn]; done) | decide +kernel
theorem own_pd3 : parseMethodDescriptor "(JLjava/lang/String;)I" = some ⟨[.long, (.object "java/lang/String")], some .int⟩ := by decide +kernel
theorem own_pd4 : parseMethodDescriptor "(ILjava/lang/String;)J" = some ⟨[.int, (.object "java/lang/String")], some .long⟩ := by decide +kernel
theorem own_pd5 : parseMethodDescriptor "([B)V" = some ⟨[(.array .byte)], none⟩ := by decide +kernel
theorem own_pd6 : parseMethodDescriptor "()Z" = some ⟨[], some .boolean⟩ := by decide +kernel
theorem own_pd7 : parseMethodDescriptor "()I" = some ⟨[], some .int⟩ := by decide +kernel
theorem own_pd8 : parseMethodDescriptor "()J" = some ⟨[], some .long⟩ := by decide +kernel
theorem own_pn9 : plainName "com/example/hermod/hermod/xrap/FrameReaderAtEndPinLaw" = true := by first | (simp [plainName, overriddenIn]; done) | decide +kernel
set_option maxRecDepth 65536 in
theorem own_lk0 {p : Program} {l : Launch} {e : Env} {R : Room} {s : State} {m : MethodId} {args : Array Value} {below : List Frame} {meth : Method} {c : Code} {T : State} {locs : List Loc} {cells slots : Nat} {F : Option Value → State → Prop} {bs : ByteArray} {pc pc' : Nat} {Ls : Array Slot} {Z : State} {a0 : Array Value} {h : Heap} {x0 : Value} {x1 : Value} {rest : List Value} {W : Nat} {rm : Room} {Q : Option Value → Heap → List Loc → Prop} (hw : ∀ d ∈ tables_1, d.before a0 Z = true) (X : Stand p l e R s m args below meth c T locs cells slots) (hx : p.tables.exec = Jvm.exec) (hZ : Z.Warmed39 s.vm) (hby : c.code = bs) (hsz : Ls.size = c.maxLocals) (hown : s.vm.findClass "com/example/hermod/hermod/xrap/FrameReader" = some m.cls) (hd : decode bs pc = .ok (.invokestatic 9, 3)) (hp : pc + 3 = pc') (eT : T.heap = h) (hW : (rest.map fun v => v.category).sum ≤ W)
    (hM : MetFree l (⟨"java/util/Objects", "requireNonNull", "(Ljava/lang/Object;Ljava/lang/String;)Ljava/lang/Object;"⟩ : MethodName) (head1 [(Cond.code (⟨"java/util/Objects", "requireNonNull", "(Ljava/lang/Object;Ljava/lang/String;)Ljava/lang/Object;"⟩ : MethodName) jdk_31_method_11_code 2 (some (.object "java/lang/Object")))] rm) (fun aa U => aa = #[x0, x1] ∧ Z.Warmed39 U.vm ∧ U.heap = h) (fun _ _ _ _ _ => True) (fun _ U o U' => ∃ v L, o = .returned v ∧ Q v U'.heap L ∧ FrameEnd U o U' L rm.cells rm.slots)) (hf : rm.frames + 1 ≤ R.frames) (hl : W + (2 + 11) + rm.locals ≤ R.locals) (hc : cells + rm.cells ≤ R.cells) (hs : slots + rm.slots ≤ R.slots)
    (k : ∀ v T' L', Stand p l e R s m args below meth c T' (locs ++ L') (cells + rm.cells) (slots + rm.slots) → Q v T'.heap L' → own_End p e below F (T'.setTop (mkF m pc' Ls (v.toList ++ rest)))) : own_End p e below F (T.setTop (mkF m pc Ls (x1 :: x0 :: rest))) := by
  subst hp
  obtain ⟨v, _, ⟨T', L0, k0, n0⟩, -, X', ⟨L', hQ, e1, e2, e3⟩, stp⟩ := Jvm.LawKit.callS X hx (y := (⟨"java/util/Objects", "requireNonNull", "(Ljava/lang/Object;Ljava/lang/String;)Ljava/lang/Object;"⟩ : MethodName)) hown (mvT hZ (wd_18 hw)) (mvT hZ (wd_19 hw)) (mvT hZ (wd_20 hw)) (mvT hZ (wd_21 hw)) (by decide) (backOf (W := W) hM hZ (wd_21 hw) (wd_20 hw) hf hl) (g := mkF m pc Ls (x1 :: x0 :: rest)) rfl hsz (argsL := [x0, x1]) (rest := rest) (lenOf own_pd1 rfl) rfl (by show 2 * 0 + _ ≤ _; omega) (hb hby hd) (fun _ _ => ⟨rfl, eT, hc, hs⟩)
  dsimp only [Pt.U, Pt.locs, Pt.cells, Pt.slots] at X' e1 e2 e3 stp hQ
  subst e1 e2 e3
  exact own_step stp (k v T' L' X' hQ)
set_option maxRecDepth 65536 in
theorem own_lk1 {p : Program} {l : Launch} {e : Env} {R : Room} {s : State} {m : MethodId} {args : Array Value} {below : List Frame} {meth : Method} {c : Code} {T : State} {locs : List Loc} {cells slots : Nat} {F : Option Value → State → Prop} {bs : ByteArray} {pc pc' : Nat} {Ls : Array Slot} {Z : State} {a0 : Array Value} {h : Heap} {x0 : Value} {x1 : Value} {b : Addr} {rest : List Value} {W : Nat} {rm : Room} {Q : Option Value → Heap → List Loc → Prop} (hw : ∀ d ∈ tables_1, d.before a0 Z = true) (X : Stand p l e R s m args below meth c T locs cells slots) (hx : p.tables.exec = Jvm.exec) (hZ : Z.Warmed39 s.vm) (hby : c.code = bs) (hsz : Ls.size = c.maxLocals) (hown : s.vm.findClass "com/example/hermod/hermod/xrap/FrameReader" = some m.cls) (hd : decode bs pc = .ok (.invokevirtual 39, 3)) (hp : pc + 3 = pc') (eT : T.heap = h) (E : Exa Z h b "com/example/hermod/hermod/xrap/FrameReader") (hW : (rest.map fun v => v.category).sum ≤ W)
    (hM : MetFree l (⟨"com/example/hermod/hermod/xrap/FrameReader", "claim", "(JLjava/lang/String;)I"⟩ : MethodName) (head1 [(Cond.code (⟨"com/example/hermod/hermod/xrap/FrameReader", "claim", "(JLjava/lang/String;)I"⟩ : MethodName) prog_14_method_13_code 5 (some .int))] rm) (fun aa U => aa = #[.ref b, x0, x1] ∧ Z.Warmed39 U.vm ∧ U.heap = h) (fun _ _ _ _ _ => True) (fun _ U o U' => ∃ v L, o = .returned v ∧ Q v U'.heap L ∧ FrameEnd U o U' L rm.cells rm.slots)) (hf : rm.frames + 1 ≤ R.frames) (hl : W + (5 + 11) + rm.locals ≤ R.locals) (hc : cells + rm.cells ≤ R.cells) (hs : slots + rm.slots ≤ R.slots)
    (k : ∀ v T' L', Stand p l e R s m args below meth c T' (locs ++ L') (cells + rm.cells) (slots + rm.slots) → Q v T'.heap L' → own_End p e below F (T'.setTop (mkF m pc' Ls (v.toList ++ rest)))) : own_End p e below F (T.setTop (mkF m pc Ls (x1 :: x0 :: .ref b :: rest))) := by
  subst hp
  obtain ⟨cq, qa, qb⟩ := E.cell
  obtain ⟨v, _, ⟨T', L0, k0, n0⟩, -, X', ⟨L', hQ, e1, e2, e3⟩, stp⟩ := X.privateBack hx (y := (⟨"com/example/hermod/hermod/xrap/FrameReader", "claim", "(JLjava/lang/String;)I"⟩ : MethodName)) hown (mvT hZ (wd_43 hw)) (mvT hZ (wd_44 hw)) (own_selPriv (y := (⟨"com/example/hermod/hermod/xrap/FrameReader", "claim", "(JLjava/lang/String;)I"⟩ : MethodName)) (mvT hZ (wd_2 hw)) (Cond.privateMethod_at (mvP hZ (wd_45 hw) (args := #[]))) (mvT hZ (wd_44 hw)) (by decide)) (Cond.privateMethod_at (mvP hZ (wd_45 hw) (args := #[]))) (mvT hZ (wd_46 hw)) (by decide) (backOf (W := W) hM hZ (wd_46 hw) (wd_3 hw) hf hl) (g := mkF m pc Ls (x1 :: x0 :: .ref b :: rest)) rfl hsz (Steps.refl _) (a := b) (by rw [eT]; exact qa) qb (argsL := [x0, x1]) (rest := rest) (lenOf own_pd3 rfl) rfl (by show 2 * 0 + _ ≤ _; omega) (hb hby hd) (fun _ _ => ⟨rfl, eT, hc, hs⟩)
  dsimp only [Pt.U, Pt.locs, Pt.cells, Pt.slots] at X' e1 e2 e3 stp hQ
  subst e1 e2 e3
  exact own_trans stp (k v T' L' X' hQ)
set_option maxRecDepth 65536 in
theorem own_lk2 {p : Program} {l : Launch} {e : Env} {R : Room} {s : State} {m : MethodId} {args : Array Value} {below : List Frame} {meth : Method} {c : Code} {T : State} {locs : List Loc} {cells slots : Nat} {F : Option Value → State → Prop} {bs : ByteArray} {pc pc' : Nat} {Ls : Array Slot} {Z : State} {a0 : Array Value} {h : Heap} {x0 : Value} {x1 : Value} {b : Addr} {rest : List Value} {W : Nat} {rm : Room} {Q : Option Value → Heap → List Loc → Prop} (hw : ∀ d ∈ tables_1, d.before a0 Z = true) (X : Stand p l e R s m args below meth c T locs cells slots) (hx : p.tables.exec = Jvm.exec) (hZ : Z.Warmed39 s.vm) (hby : c.code = bs) (hsz : Ls.size = c.maxLocals) (hown : s.vm.findClass "com/example/hermod/hermod/xrap/FrameReader" = some m.cls) (hd : decode bs pc = .ok (.invokevirtual 23, 3)) (hp : pc + 3 = pc') (eT : T.heap = h) (E : Exa Z h b "com/example/hermod/hermod/xrap/FrameReader") (hW : (rest.map fun v => v.category).sum ≤ W)
    (hM : MetFree l (⟨"com/example/hermod/hermod/xrap/FrameReader", "readNumber", "(ILjava/lang/String;)J"⟩ : MethodName) (head1 [(Cond.code (⟨"com/example/hermod/hermod/xrap/FrameReader", "readNumber", "(ILjava/lang/String;)J"⟩ : MethodName) prog_14_method_11_code 7 (some .long))] rm) (fun aa U => aa = #[.ref b, x0, x1] ∧ Z.Warmed39 U.vm ∧ U.heap = h) (fun _ _ _ _ _ => True) (fun _ U o U' => ∃ v L, o = .returned v ∧ Q v U'.heap L ∧ FrameEnd U o U' L rm.cells rm.slots)) (hf : rm.frames + 1 ≤ R.frames) (hl : W + (7 + 11) + rm.locals ≤ R.locals) (hc : cells + rm.cells ≤ R.cells) (hs : slots + rm.slots ≤ R.slots)
    (k : ∀ v T' L', Stand p l e R s m args below meth c T' (locs ++ L') (cells + rm.cells) (slots + rm.slots) → Q v T'.heap L' → own_End p e below F (T'.setTop (mkF m pc' Ls (v.toList ++ rest)))) : own_End p e below F (T.setTop (mkF m pc Ls (x1 :: x0 :: .ref b :: rest))) := by
  subst hp
  obtain ⟨cq, qa, qb⟩ := E.cell
  obtain ⟨v, _, ⟨T', L0, k0, n0⟩, -, X', ⟨L', hQ, e1, e2, e3⟩, stp⟩ := X.privateBack hx (y := (⟨"com/example/hermod/hermod/xrap/FrameReader", "readNumber", "(ILjava/lang/String;)J"⟩ : MethodName)) hown (mvT hZ (wd_39 hw)) (mvT hZ (wd_40 hw)) (own_selPriv (y := (⟨"com/example/hermod/hermod/xrap/FrameReader", "readNumber", "(ILjava/lang/String;)J"⟩ : MethodName)) (mvT hZ (wd_2 hw)) (Cond.privateMethod_at (mvP hZ (wd_41 hw) (args := #[]))) (mvT hZ (wd_40 hw)) (by decide)) (Cond.privateMethod_at (mvP hZ (wd_41 hw) (args := #[]))) (mvT hZ (wd_42 hw)) (by decide) (backOf (W := W) hM hZ (wd_42 hw) (wd_3 hw) hf hl) (g := mkF m pc Ls (x1 :: x0 :: .ref b :: rest)) rfl hsz (Steps.refl _) (a := b) (by rw [eT]; exact qa) qb (argsL := [x0, x1]) (rest := rest) (lenOf own_pd4 rfl) rfl (by show 2 * 0 + _ ≤ _; omega) (hb hby hd) (fun _ _ => ⟨rfl, eT, hc, hs⟩)
  dsimp only [Pt.U, Pt.locs, Pt.cells, Pt.slots] at X' e1 e2 e3 stp hQ
  subst e1 e2 e3
  exact own_trans stp (k v T' L' X' hQ)
set_option maxRecDepth 65536 in
theorem own_lk3 {p : Program} {l : Launch} {e : Env} {R : Room} {s : State} {vm0 : Vm} {kS : Nat} {m : MethodId} {args : Array Value} {below : List Frame} {meth : Method} {c : Code} {T : State} {locs : List Loc} {cells slots : Nat} {F : Option Value → State → Prop} {bs : ByteArray} {pc pc' : Nat} {Ls : Array Slot} {Z : State} {a0 : Array Value} {h : Heap} {x0 : Value} {b : Addr} {rest : List Value} {W : Nat} {rm : Room} {Q : Option Value → Heap → List Loc → Prop} (hw : ∀ d ∈ tables_1, d.before a0 Z = true) (X : Stand p l e R (s.setVm vm0) m args below meth c T locs cells slots) (hx : p.tables.exec = Jvm.exec) (hZ : Z.Warmed39 (s.setVm vm0).vm) (hby : c.code = bs) (hsz : Ls.size = c.maxLocals) (hown : (s.setVm vm0).vm.findClass "com/example/hermod/hermod/xrap/FrameReaderAtEndPinLaw" = some m.cls) (hd : decode bs pc = .ok (.invokespecial 10, 3)) (hp : pc + 3 = pc') (eT : T.heap = h) (hW : (rest.map fun v => v.category).sum ≤ W)
    (hM : MetFree l (⟨"com/example/hermod/hermod/xrap/FrameReader", "<init>", "([B)V"⟩ : MethodName) (head1 [(Cond.code (⟨"com/example/hermod/hermod/xrap/FrameReader", "<init>", "([B)V"⟩ : MethodName) prog_14_method_1_code 2 none)] rm) (fun aa U => aa = #[.ref b, x0] ∧ Z.Warmed39 U.vm ∧ U.heap = h) (fun _ _ _ _ _ => True) (fun _ U o U' => ∃ v L, o = .returned v ∧ Q v U'.heap L ∧ ReturnedEndW U o U' L rm.cells rm.slots)) (hf : rm.frames + 1 ≤ R.frames) (hl : W + (2 + 11) + rm.locals ≤ R.locals) (hc : cells + rm.cells ≤ R.cells) (hs : slots + rm.slots ≤ R.slots)
    (hS : s.Since vm0 kS) (hSn : kS ≤ h.size) (k : ∀ v T' L', Stand p l e R (s.setVm T'.vm) m args below meth c T' (locs ++ L') (cells + rm.cells) (slots + rm.slots) → s.Since T'.vm T'.heap.size → T'.heap.size ≤ T'.heap.size → Z.Warmed39 (s.setVm T'.vm).vm → (s.setVm T'.vm).vm.findClass "com/example/hermod/hermod/xrap/FrameReaderAtEndPinLaw" = some m.cls → Q v T'.heap L' → own_End p e below F (T'.setTop (mkF m pc' Ls (v.toList ++ rest)))) : own_End p e below F (T.setTop (mkF m pc Ls (x0 :: .ref b :: rest))) := by
  subst hp
  obtain ⟨v, _, ⟨T', L0, k0, n0⟩, -, X', hSa, hSb, ⟨L', hQ, e1, e2, e3⟩, stp⟩ := X.specialBackS hx (y := (⟨"com/example/hermod/hermod/xrap/FrameReader", "<init>", "([B)V"⟩ : MethodName)) rfl hown (mvT hZ (wd_5 hw)) (mvT hZ (wd_6 hw)) (mvT hZ (wd_7 hw)) (by decide) (backOfS (W := W) hM hZ (wd_7 hw) (wd_3 hw) hf hl) (g := mkF m pc Ls (x0 :: .ref b :: rest)) rfl hsz (Steps.refl _) (a := b) (argsL := [x0]) (rest := rest) (lenOf own_pd5 rfl) rfl (by show 2 * 0 + _ ≤ _; omega) (hb hby hd) (fun _ _ => ⟨rfl, eT, hc, hs⟩)
  dsimp only [Pt.U, Pt.locs, Pt.cells, Pt.slots] at X' e1 e2 e3 stp hQ hSa hSb
  subst e1 e2 e3
  obtain ⟨X', hS', hZ', hown'⟩ := rebS hS (show kS ≤ T.heap.size by rw [eT]; exact hSn) X' hSa hSb hZ hown
  exact own_trans stp (k v T' L' X' hS' (Nat.le_refl _) hZ' hown' hQ)
set_option maxRecDepth 65536 in
theorem own_lk4 {p : Program} {l : Launch} {e : Env} {R : Room} {s : State} {m : MethodId} {args : Array Value} {below : List Frame} {meth : Method} {c : Code} {T : State} {locs : List Loc} {cells slots : Nat} {F : Option Value → State → Prop} {bs : ByteArray} {pc pc' : Nat} {Ls : Array Slot} {Z : State} {a0 : Array Value} {h : Heap} {b : Addr} {rest : List Value} {W : Nat} {rm : Room} {Q : Option Value → Heap → List Loc → Prop} (hw : ∀ d ∈ tables_1, d.before a0 Z = true) (X : Stand p l e R s m args below meth c T locs cells slots) (hx : p.tables.exec = Jvm.exec) (hZ : Z.Warmed39 s.vm) (hby : c.code = bs) (hsz : Ls.size = c.maxLocals) (hown : s.vm.findClass "com/example/hermod/hermod/xrap/FrameReaderAtEndPinLaw" = some m.cls) (hd : decode bs pc = .ok (.invokevirtual 13, 3)) (hp : pc + 3 = pc') (eT : T.heap = h) (E : Exa Z h b "com/example/hermod/hermod/xrap/FrameReader") (hW : (rest.map fun v => v.category).sum ≤ W)
    (hM : MetFree l (⟨"com/example/hermod/hermod/xrap/FrameReader", "atEnd", "()Z"⟩ : MethodName) (head1 [(Cond.code (⟨"com/example/hermod/hermod/xrap/FrameReader", "atEnd", "()Z"⟩ : MethodName) prog_14_method_9_code 1 (some .boolean))] rm) (fun aa U => aa = #[.ref b] ∧ Z.Warmed39 U.vm ∧ U.heap = h) (fun _ _ _ _ _ => True) (fun _ U o U' => ∃ v L, o = .returned v ∧ Q v U'.heap L ∧ FrameEnd U o U' L rm.cells rm.slots)) (hf : rm.frames + 1 ≤ R.frames) (hl : W + (1 + 11) + rm.locals ≤ R.locals) (hc : cells + rm.cells ≤ R.cells) (hs : slots + rm.slots ≤ R.slots)
    (k : ∀ v T' L', Stand p l e R s m args below meth c T' (locs ++ L') (cells + rm.cells) (slots + rm.slots) → Q v T'.heap L' → own_End p e below F (T'.setTop (mkF m pc' Ls (v.toList ++ rest)))) : own_End p e below F (T.setTop (mkF m pc Ls (.ref b :: rest))) := by
  subst hp
  obtain ⟨cq, kq, q1, q2, q3⟩ := isOf hZ eT E
  obtain ⟨v, _, ⟨T', L0, k0, n0⟩, -, X', ⟨L', hQ, e1, e2, e3⟩, stp⟩ := X.virtualBack hx (y := (⟨"com/example/hermod/hermod/xrap/FrameReader", "atEnd", "()Z"⟩ : MethodName)) (z := (⟨"com/example/hermod/hermod/xrap/FrameReader", "atEnd", "()Z"⟩ : MethodName)) hown (mvT hZ (wd_26 hw)) (mvT hZ (wd_27 hw)) (notFace_of_selects (args := #[]) (mvT hZ (wd_29 hw))) (mvT hZ (wd_29 hw)) (mvT hZ (wd_28 hw)) (by decide) (backOf (W := W) hM hZ (wd_30 hw) (wd_3 hw) hf hl) q1 q3 (g := mkF m pc Ls (.ref b :: rest)) rfl hsz (Steps.refl _) (argsL := []) (rest := rest) (lenOf own_pd6 rfl) rfl (by show 2 * 0 + _ ≤ _; omega) (hb hby hd) (fun _ _ => ⟨rfl, eT, hc, hs⟩)
  dsimp only [Pt.U, Pt.locs, Pt.cells, Pt.slots] at X' e1 e2 e3 stp hQ
  subst e1 e2 e3
  exact own_trans stp (k v T' L' X' hQ)
set_option maxRecDepth 65536 in
theorem own_lk5 {p : Program} {l : Launch} {e : Env} {R : Room} {s : State} {vm0 : Vm} {kS : Nat} {m : MethodId} {args : Array Value} {below : List Frame} {meth : Method} {c : Code} {T : State} {locs : List Loc} {cells slots : Nat} {F : Option Value → State → Prop} {bs : ByteArray} {pc pc' : Nat} {Ls : Array Slot} {Z : State} {a0 : Array Value} {h : Heap} {b : Addr} {rest : List Value} {W : Nat} {rm : Room} {Q : Option Value → Heap → List Loc → Prop} (hw : ∀ d ∈ tables_1, d.before a0 Z = true) (X : Stand p l e R (s.setVm vm0) m args below meth c T locs cells slots) (hx : p.tables.exec = Jvm.exec) (hZ : Z.Warmed39 (s.setVm vm0).vm) (hby : c.code = bs) (hsz : Ls.size = c.maxLocals) (hown : (s.setVm vm0).vm.findClass "com/example/hermod/hermod/xrap/FrameReaderAtEndPinLaw" = some m.cls) (hd : decode bs pc = .ok (.invokevirtual 25, 3)) (hp : pc + 3 = pc') (eT : T.heap = h) (E : Exa Z h b "com/example/hermod/hermod/xrap/FrameReader") (hW : (rest.map fun v => v.category).sum ≤ W)
    (hM : MetFree l (⟨"com/example/hermod/hermod/xrap/FrameReader", "readNumber1", "()I"⟩ : MethodName) (head1 [(Cond.code (⟨"com/example/hermod/hermod/xrap/FrameReader", "readNumber1", "()I"⟩ : MethodName) prog_14_method_2_code 1 (some .int))] rm) (fun aa U => aa = #[.ref b] ∧ Z.Warmed39 U.vm ∧ U.heap = h) (fun _ _ _ _ _ => True) (fun _ U o U' => ∃ v L, o = .returned v ∧ Q v U'.heap L ∧ ReturnedEndW U o U' L rm.cells rm.slots)) (hf : rm.frames + 1 ≤ R.frames) (hl : W + (1 + 11) + rm.locals ≤ R.locals) (hc : cells + rm.cells ≤ R.cells) (hs : slots + rm.slots ≤ R.slots)
    (hS : s.Since vm0 kS) (hSn : kS ≤ h.size) (k : ∀ v T' L', Stand p l e R (s.setVm T'.vm) m args below meth c T' (locs ++ L') (cells + rm.cells) (slots + rm.slots) → s.Since T'.vm T'.heap.size → T'.heap.size ≤ T'.heap.size → Z.Warmed39 (s.setVm T'.vm).vm → (s.setVm T'.vm).vm.findClass "com/example/hermod/hermod/xrap/FrameReaderAtEndPinLaw" = some m.cls → Q v T'.heap L' → own_End p e below F (T'.setTop (mkF m pc' Ls (v.toList ++ rest)))) : own_End p e below F (T.setTop (mkF m pc Ls (.ref b :: rest))) := by
  subst hp
  obtain ⟨cq, kq, q1, q2, q3⟩ := isOf hZ eT E
  obtain ⟨v, _, ⟨T', L0, k0, n0⟩, -, X', hSa, hSb, ⟨L', hQ, e1, e2, e3⟩, stp⟩ := X.virtualBackS hx (y := (⟨"com/example/hermod/hermod/xrap/FrameReader", "readNumber1", "()I"⟩ : MethodName)) (z := (⟨"com/example/hermod/hermod/xrap/FrameReader", "readNumber1", "()I"⟩ : MethodName)) hown (mvT hZ (wd_33 hw)) (mvT hZ (wd_34 hw)) (notFace_of_selects (args := #[]) (mvT hZ (wd_36 hw))) (mvT hZ (wd_36 hw)) (mvT hZ (wd_35 hw)) (by decide) (backOfS (W := W) hM hZ (wd_37 hw) (wd_3 hw) hf hl) q1 q3 (g := mkF m pc Ls (.ref b :: rest)) rfl hsz (Steps.refl _) (argsL := []) (rest := rest) (lenOf own_pd7 rfl) rfl (by show 2 * 0 + _ ≤ _; omega) (hb hby hd) (fun _ _ => ⟨rfl, eT, hc, hs⟩)
  dsimp only [Pt.U, Pt.locs, Pt.cells, Pt.slots] at X' e1 e2 e3 stp hQ hSa hSb
  subst e1 e2 e3
  obtain ⟨X', hS', hZ', hown'⟩ := rebS hS (show kS ≤ T.heap.size by rw [eT]; exact hSn) X' hSa hSb hZ hown
  exact own_trans stp (k v T' L' X' hS' (Nat.le_refl _) hZ' hown' hQ)
set_option maxRecDepth 65536 in
theorem own_lk6 {p : Program} {l : Launch} {e : Env} {R : Room} {s : State} {vm0 : Vm} {kS : Nat} {m : MethodId} {args : Array Value} {below : List Frame} {meth : Method} {c : Code} {T : State} {locs : List Loc} {cells slots : Nat} {F : Option Value → State → Prop} {bs : ByteArray} {pc pc' : Nat} {Ls : Array Slot} {Z : State} {a0 : Array Value} {h : Heap} {b : Addr} {rest : List Value} {W : Nat} {rm : Room} {Q : Option Value → Heap → List Loc → Prop} (hw : ∀ d ∈ tables_1, d.before a0 Z = true) (X : Stand p l e R (s.setVm vm0) m args below meth c T locs cells slots) (hx : p.tables.exec = Jvm.exec) (hZ : Z.Warmed39 (s.setVm vm0).vm) (hby : c.code = bs) (hsz : Ls.size = c.maxLocals) (hown : (s.setVm vm0).vm.findClass "com/example/hermod/hermod/xrap/FrameReaderAtEndPinLaw" = some m.cls) (hd : decode bs pc = .ok (.invokevirtual 21, 3)) (hp : pc + 3 = pc') (eT : T.heap = h) (E : Exa Z h b "com/example/hermod/hermod/xrap/FrameReader") (hW : (rest.map fun v => v.category).sum ≤ W)
    (hM : MetFree l (⟨"com/example/hermod/hermod/xrap/FrameReader", "readNumber2", "()I"⟩ : MethodName) (head1 [(Cond.code (⟨"com/example/hermod/hermod/xrap/FrameReader", "readNumber2", "()I"⟩ : MethodName) prog_14_method_3_code 1 (some .int))] rm) (fun aa U => aa = #[.ref b] ∧ Z.Warmed39 U.vm ∧ U.heap = h) (fun _ _ _ _ _ => True) (fun _ U o U' => ∃ v L, o = .returned v ∧ Q v U'.heap L ∧ ReturnedEndW U o U' L rm.cells rm.slots)) (hf : rm.frames + 1 ≤ R.frames) (hl : W + (1 + 11) + rm.locals ≤ R.locals) (hc : cells + rm.cells ≤ R.cells) (hs : slots + rm.slots ≤ R.slots)
    (hS : s.Since vm0 kS) (hSn : kS ≤ h.size) (k : ∀ v T' L', Stand p l e R (s.setVm T'.vm) m args below meth c T' (locs ++ L') (cells + rm.cells) (slots + rm.slots) → s.Since T'.vm T'.heap.size → T'.heap.size ≤ T'.heap.size → Z.Warmed39 (s.setVm T'.vm).vm → (s.setVm T'.vm).vm.findClass "com/example/hermod/hermod/xrap/FrameReaderAtEndPinLaw" = some m.cls → Q v T'.heap L' → own_End p e below F (T'.setTop (mkF m pc' Ls (v.toList ++ rest)))) : own_End p e below F (T.setTop (mkF m pc Ls (.ref b :: rest))) := by
  subst hp
  obtain ⟨cq, kq, q1, q2, q3⟩ := isOf hZ eT E
  obtain ⟨v, _, ⟨T', L0, k0, n0⟩, -, X', hSa, hSb, ⟨L', hQ, e1, e2, e3⟩, stp⟩ := X.virtualBackS hx (y := (⟨"com/example/hermod/hermod/xrap/FrameReader", "readNumber2", "()I"⟩ : MethodName)) (z := (⟨"com/example/hermod/hermod/xrap/FrameReader", "readNumber2", "()I"⟩ : MethodName)) hown (mvT hZ (wd_47 hw)) (mvT hZ (wd_48 hw)) (notFace_of_selects (args := #[]) (mvT hZ (wd_50 hw))) (mvT hZ (wd_50 hw)) (mvT hZ (wd_49 hw)) (by decide) (backOfS (W := W) hM hZ (wd_51 hw) (wd_3 hw) hf hl) q1 q3 (g := mkF m pc Ls (.ref b :: rest)) rfl hsz (Steps.refl _) (argsL := []) (rest := rest) (lenOf own_pd7 rfl) rfl (by show 2 * 0 + _ ≤ _; omega) (hb hby hd) (fun _ _ => ⟨rfl, eT, hc, hs⟩)
  dsimp only [Pt.U, Pt.locs, Pt.cells, Pt.slots] at X' e1 e2 e3 stp hQ hSa hSb
  subst e1 e2 e3
  obtain ⟨X', hS', hZ', hown'⟩ := rebS hS (show kS ≤ T.heap.size by rw [eT]; exact hSn) X' hSa hSb hZ hown
  exact own_trans stp (k v T' L' X' hS' (Nat.le_refl _) hZ' hown' hQ)
set_option maxRecDepth 65536 in
theorem own_lk7 {p : Program} {l : Launch} {e : Env} {R : Room} {s : State} {vm0 : Vm} {kS : Nat} {m : MethodId} {args : Array Value} {below : List Frame} {meth : Method} {c : Code} {T : State} {locs : List Loc} {cells slots : Nat} {F : Option Value → State → Prop} {bs : ByteArray} {pc pc' : Nat} {Ls : Array Slot} {Z : State} {a0 : Array Value} {h : Heap} {b : Addr} {rest : List Value} {W : Nat} {rm : Room} {Q : Option Value → Heap → List Loc → Prop} (hw : ∀ d ∈ tables_1, d.before a0 Z = true) (X : Stand p l e R (s.setVm vm0) m args below meth c T locs cells slots) (hx : p.tables.exec = Jvm.exec) (hZ : Z.Warmed39 (s.setVm vm0).vm) (hby : c.code = bs) (hsz : Ls.size = c.maxLocals) (hown : (s.setVm vm0).vm.findClass "com/example/hermod/hermod/xrap/FrameReaderAtEndPinLaw" = some m.cls) (hd : decode bs pc = .ok (.invokevirtual 17, 3)) (hp : pc + 3 = pc') (eT : T.heap = h) (E : Exa Z h b "com/example/hermod/hermod/xrap/FrameReader") (hW : (rest.map fun v => v.category).sum ≤ W)
    (hM : MetFree l (⟨"com/example/hermod/hermod/xrap/FrameReader", "readNumber4", "()J"⟩ : MethodName) (head1 [(Cond.code (⟨"com/example/hermod/hermod/xrap/FrameReader", "readNumber4", "()J"⟩ : MethodName) prog_14_method_4_code 1 (some .long))] rm) (fun aa U => aa = #[.ref b] ∧ Z.Warmed39 U.vm ∧ U.heap = h) (fun _ _ _ _ _ => True) (fun _ U o U' => ∃ v L, o = .returned v ∧ Q v U'.heap L ∧ ReturnedEndW U o U' L rm.cells rm.slots)) (hf : rm.frames + 1 ≤ R.frames) (hl : W + (1 + 11) + rm.locals ≤ R.locals) (hc : cells + rm.cells ≤ R.cells) (hs : slots + rm.slots ≤ R.slots)
    (hS : s.Since vm0 kS) (hSn : kS ≤ h.size) (k : ∀ v T' L', Stand p l e R (s.setVm T'.vm) m args below meth c T' (locs ++ L') (cells + rm.cells) (slots + rm.slots) → s.Since T'.vm T'.heap.size → T'.heap.size ≤ T'.heap.size → Z.Warmed39 (s.setVm T'.vm).vm → (s.setVm T'.vm).vm.findClass "com/example/hermod/hermod/xrap/FrameReaderAtEndPinLaw" = some m.cls → Q v T'.heap L' → own_End p e below F (T'.setTop (mkF m pc' Ls (v.toList ++ rest)))) : own_End p e below F (T.setTop (mkF m pc Ls (.ref b :: rest))) := by
  subst hp
  obtain ⟨cq, kq, q1, q2, q3⟩ := isOf hZ eT E
  obtain ⟨v, _, ⟨T', L0, k0, n0⟩, -, X', hSa, hSb, ⟨L', hQ, e1, e2, e3⟩, stp⟩ := X.virtualBackS hx (y := (⟨"com/example/hermod/hermod/xrap/FrameReader", "readNumber4", "()J"⟩ : MethodName)) (z := (⟨"com/example/hermod/hermod/xrap/FrameReader", "readNumber4", "()J"⟩ : MethodName)) hown (mvT hZ (wd_53 hw)) (mvT hZ (wd_54 hw)) (notFace_of_selects (args := #[]) (mvT hZ (wd_56 hw))) (mvT hZ (wd_56 hw)) (mvT hZ (wd_55 hw)) (by decide) (backOfS (W := W) hM hZ (wd_57 hw) (wd_3 hw) hf hl) q1 q3 (g := mkF m pc Ls (.ref b :: rest)) rfl hsz (Steps.refl _) (argsL := []) (rest := rest) (lenOf own_pd8 rfl) rfl (by show 2 * 0 + _ ≤ _; omega) (hb hby hd) (fun _ _ => ⟨rfl, eT, hc, hs⟩)
  dsimp only [Pt.U, Pt.locs, Pt.cells, Pt.slots] at X' e1 e2 e3 stp hQ hSa hSb
  subst e1 e2 e3
  obtain ⟨X', hS', hZ', hown'⟩ := rebS hS (show kS ≤ T.heap.size by rw [eT]; exact hSn) X' hSa hSb hZ hown
  exact own_trans stp (k v T' L' X' hS' (Nat.le_refl _) hZ' hown' hQ)

def own_FD (Z : State) (h : Heap) (a : Addr) (v0 : Value) (v1 : Int32) : Prop := Exa Z h a "com/example/hermod/hermod/xrap/FrameReader" ∧ Fld Z h a "com/example/hermod/hermod/xrap/FrameReader" "frame" "[B" v0 ∧ Fld Z h a "com/example/hermod/hermod/xrap/FrameReader" "position" "I" (.int v1)
theorem own_FD.ext {Z : State} {h h' : Heap} {a : Addr} {v0 : Value} {v1 : Int32} (O : own_FD Z h a v0 v1) (X : Ext h h') : own_FD Z h' a v0 v1 := by
  obtain ⟨E, F0, F1⟩ := O
  exact ⟨E.ext X, F0.ext X, F1.ext X⟩
theorem own_FD.keep {Z : State} {h h' : Heap} {a : Addr} {v0 : Value} {v1 : Int32} (O : own_FD Z h a v0 v1) {ws : List Addr} (K : Keep h h' ws) (q : a ∉ ws) : own_FD Z h' a v0 v1 := by
  obtain ⟨E, F0, F1⟩ := O
  exact ⟨E.keep K, F0.keep K q, F1.keep K q⟩
theorem own_FD.other {Z : State} {h h' : Heap} {a : Addr} {v0 : Value} {v1 : Int32} (O : own_FD Z h a v0 v1) {b : Addr} {sl : Nat} {v : Value} (W : Wr h h' b sl v) (q : a ≠ b) : own_FD Z h' a v0 v1 := by
  obtain ⟨E, F0, F1⟩ := O
  exact ⟨E.wr W, F0.other W (Or.inl q), F1.other W (Or.inl q)⟩
theorem own_FD.lt {Z : State} {h : Heap} {a : Addr} {v0 : Value} {v1 : Int32} (O : own_FD Z h a v0 v1) : a < h.size := by
  obtain ⟨E, F0, F1⟩ := O
  exact E.lt
def own_eq (p n : Int32) : Int32 := if p = n then 1 else 0
theorem own_L1_0 (q n : Int32) (h : 0 ≤ q.toInt ∧ q.toInt + 1 ≤ n.toInt ∧ n.toInt ≤ 7) : q < (q + (1 : Int32)) := by
  have hk := c_iadd q (1 : Int32)
  have rk := rng32 (q + (1 : Int32))
  have ek : (1 : Int32).toInt = 1 := rfl
  have e1 : (1 : Int32).toInt = 1 := rfl
  have e0 : (0 : Int32).toInt = 0 := rfl
  have h1 := c_iadd q (1 : Int32)
  have r1 := rng32 (q + (1 : Int32))
  rw [Int32.lt_iff_toInt_lt]
  omega
theorem own_B1_0 (q n : Int32) (h : 0 ≤ q.toInt ∧ q.toInt + 1 ≤ n.toInt ∧ n.toInt ≤ 7) : ¬ q < 0 ∧ q < n := by
  have hk := c_iadd q (1 : Int32)
  have rk := rng32 (q + (1 : Int32))
  have ek : (1 : Int32).toInt = 1 := rfl
  have e1 : (1 : Int32).toInt = 1 := rfl
  have e0 : (0 : Int32).toInt = 0 := rfl
  have h1 := c_iadd q (1 : Int32)
  have r1 := rng32 (q + (1 : Int32))
  rw [Int32.lt_iff_toInt_lt, Int32.lt_iff_toInt_lt]
  omega
theorem own_L1_1 (q n : Int32) (h : 0 ≤ q.toInt ∧ q.toInt + 1 ≤ n.toInt ∧ n.toInt ≤ 7) : ¬ (q + (1 : Int32)) < (q + (1 : Int32)) := by
  have hk := c_iadd q (1 : Int32)
  have rk := rng32 (q + (1 : Int32))
  have ek : (1 : Int32).toInt = 1 := rfl
  have e1 : (1 : Int32).toInt = 1 := rfl
  have e0 : (0 : Int32).toInt = 0 := rfl
  have h1 := c_iadd q (1 : Int32)
  have r1 := rng32 (q + (1 : Int32))
  rw [Int32.lt_iff_toInt_lt]
  omega
theorem own_C1 (q n : Int32) (h : 0 ≤ q.toInt ∧ q.toInt + 1 ≤ n.toInt ∧ n.toInt ≤ 7) : ¬ ((n - q).toInt64) < (1 : Int64) := by
  have h1 := c_isub n q
  have r1 := rng32 (n - q)
  have e : (1 : Int64).toInt = 1 := rfl
  rw [Int64.lt_iff_toInt_lt, c_i2l]
  omega
theorem own_L2_0 (q n : Int32) (h : 0 ≤ q.toInt ∧ q.toInt + 2 ≤ n.toInt ∧ n.toInt ≤ 7) : q < (q + (2 : Int32)) := by
  have hk := c_iadd q (2 : Int32)
  have rk := rng32 (q + (2 : Int32))
  have ek : (2 : Int32).toInt = 2 := rfl
  have e1 : (1 : Int32).toInt = 1 := rfl
  have e0 : (0 : Int32).toInt = 0 := rfl
  have h1 := c_iadd q (1 : Int32)
  have r1 := rng32 (q + (1 : Int32))
  have h2 := c_iadd (q + (1 : Int32)) (1 : Int32)
  have r2 := rng32 ((q + (1 : Int32)) + (1 : Int32))
  rw [Int32.lt_iff_toInt_lt]
  omega
theorem own_B2_0 (q n : Int32) (h : 0 ≤ q.toInt ∧ q.toInt + 2 ≤ n.toInt ∧ n.toInt ≤ 7) : ¬ q < 0 ∧ q < n := by
  have hk := c_iadd q (2 : Int32)
  have rk := rng32 (q + (2 : Int32))
  have ek : (2 : Int32).toInt = 2 := rfl
  have e1 : (1 : Int32).toInt = 1 := rfl
  have e0 : (0 : Int32).toInt = 0 := rfl
  have h1 := c_iadd q (1 : Int32)
  have r1 := rng32 (q + (1 : Int32))
  have h2 := c_iadd (q + (1 : Int32)) (1 : Int32)
  have r2 := rng32 ((q + (1 : Int32)) + (1 : Int32))
  rw [Int32.lt_iff_toInt_lt, Int32.lt_iff_toInt_lt]
  omega
theorem own_L2_1 (q n : Int32) (h : 0 ≤ q.toInt ∧ q.toInt + 2 ≤ n.toInt ∧ n.toInt ≤ 7) : (q + (1 : Int32)) < (q + (2 : Int32)) := by
  have hk := c_iadd q (2 : Int32)
  have rk := rng32 (q + (2 : Int32))
  have ek : (2 : Int32).toInt = 2 := rfl
  have e1 : (1 : Int32).toInt = 1 := rfl
  have e0 : (0 : Int32).toInt = 0 := rfl
  have h1 := c_iadd q (1 : Int32)
  have r1 := rng32 (q + (1 : Int32))
  have h2 := c_iadd (q + (1 : Int32)) (1 : Int32)
  have r2 := rng32 ((q + (1 : Int32)) + (1 : Int32))
  rw [Int32.lt_iff_toInt_lt]
  omega
theorem own_B2_1 (q n : Int32) (h : 0 ≤ q.toInt ∧ q.toInt + 2 ≤ n.toInt ∧ n.toInt ≤ 7) : ¬ (q + (1 : Int32)) < 0 ∧ (q + (1 : Int32)) < n := by
  have hk := c_iadd q (2 : Int32)
  have rk := rng32 (q + (2 : Int32))
  have ek : (2 : Int32).toInt = 2 := rfl
  have e1 : (1 : Int32).toInt = 1 := rfl
  have e0 : (0 : Int32).toInt = 0 := rfl
  have h1 := c_iadd q (1 : Int32)
  have r1 := rng32 (q + (1 : Int32))
  have h2 := c_iadd (q + (1 : Int32)) (1 : Int32)
  have r2 := rng32 ((q + (1 : Int32)) + (1 : Int32))
  rw [Int32.lt_iff_toInt_lt, Int32.lt_iff_toInt_lt]
  omega
theorem own_L2_2 (q n : Int32) (h : 0 ≤ q.toInt ∧ q.toInt + 2 ≤ n.toInt ∧ n.toInt ≤ 7) : ¬ ((q + (1 : Int32)) + (1 : Int32)) < (q + (2 : Int32)) := by
  have hk := c_iadd q (2 : Int32)
  have rk := rng32 (q + (2 : Int32))
  have ek : (2 : Int32).toInt = 2 := rfl
  have e1 : (1 : Int32).toInt = 1 := rfl
  have e0 : (0 : Int32).toInt = 0 := rfl
  have h1 := c_iadd q (1 : Int32)
  have r1 := rng32 (q + (1 : Int32))
  have h2 := c_iadd (q + (1 : Int32)) (1 : Int32)
  have r2 := rng32 ((q + (1 : Int32)) + (1 : Int32))
  rw [Int32.lt_iff_toInt_lt]
  omega
theorem own_C2 (q n : Int32) (h : 0 ≤ q.toInt ∧ q.toInt + 2 ≤ n.toInt ∧ n.toInt ≤ 7) : ¬ ((n - q).toInt64) < (2 : Int64) := by
  have h1 := c_isub n q
  have r1 := rng32 (n - q)
  have e : (2 : Int64).toInt = 2 := rfl
  rw [Int64.lt_iff_toInt_lt, c_i2l]
  omega
theorem own_L4_0 (q n : Int32) (h : 0 ≤ q.toInt ∧ q.toInt + 4 ≤ n.toInt ∧ n.toInt ≤ 7) : q < (q + (4 : Int32)) := by
  have hk := c_iadd q (4 : Int32)
  have rk := rng32 (q + (4 : Int32))
  have ek : (4 : Int32).toInt = 4 := rfl
  have e1 : (1 : Int32).toInt = 1 := rfl
  have e0 : (0 : Int32).toInt = 0 := rfl
  have h1 := c_iadd q (1 : Int32)
  have r1 := rng32 (q + (1 : Int32))
  have h2 := c_iadd (q + (1 : Int32)) (1 : Int32)
  have r2 := rng32 ((q + (1 : Int32)) + (1 : Int32))
  have h3 := c_iadd ((q + (1 : Int32)) + (1 : Int32)) (1 : Int32)
  have r3 := rng32 (((q + (1 : Int32)) + (1 : Int32)) + (1 : Int32))
  have h4 := c_iadd (((q + (1 : Int32)) + (1 : Int32)) + (1 : Int32)) (1 : Int32)
  have r4 := rng32 ((((q + (1 : Int32)) + (1 : Int32)) + (1 : Int32)) + (1 : Int32))
  rw [Int32.lt_iff_toInt_lt]
  omega
theorem own_B4_0 (q n : Int32) (h : 0 ≤ q.toInt ∧ q.toInt + 4 ≤ n.toInt ∧ n.toInt ≤ 7) : ¬ q < 0 ∧ q < n := by
  have hk := c_iadd q (4 : Int32)
  have rk := rng32 (q + (4 : Int32))
  have ek : (4 : Int32).toInt = 4 := rfl
  have e1 : (1 : Int32).toInt = 1 := rfl
  have e0 : (0 : Int32).toInt = 0 := rfl
  have h1 := c_iadd q (1 : Int32)
  have r1 := rng32 (q + (1 : Int32))
  have h2 := c_iadd (q + (1 : Int32)) (1 : Int32)
  have r2 := rng32 ((q + (1 : Int32)) + (1 : Int32))
  have h3 := c_iadd ((q + (1 : Int32)) + (1 : Int32)) (1 : Int32)
  have r3 := rng32 (((q + (1 : Int32)) + (1 : Int32)) + (1 : Int32))
  have h4 := c_iadd (((q + (1 : Int32)) + (1 : Int32)) + (1 : Int32)) (1 : Int32)
  have r4 := rng32 ((((q + (1 : Int32)) + (1 : Int32)) + (1 : Int32)) + (1 : Int32))
  rw [Int32.lt_iff_toInt_lt, Int32.lt_iff_toInt_lt]
  omega
theorem own_L4_1 (q n : Int32) (h : 0 ≤ q.toInt ∧ q.toInt + 4 ≤ n.toInt ∧ n.toInt ≤ 7) : (q + (1 : Int32)) < (q + (4 : Int32)) := by
  have hk := c_iadd q (4 : Int32)
  have rk := rng32 (q + (4 : Int32))
  have ek : (4 : Int32).toInt = 4 := rfl
  have e1 : (1 : Int32).toInt = 1 := rfl
  have e0 : (0 : Int32).toInt = 0 := rfl
  have h1 := c_iadd q (1 : Int32)
  have r1 := rng32 (q + (1 : Int32))
  have h2 := c_iadd (q + (1 : Int32)) (1 : Int32)
  have r2 := rng32 ((q + (1 : Int32)) + (1 : Int32))
  have h3 := c_iadd ((q + (1 : Int32)) + (1 : Int32)) (1 : Int32)
  have r3 := rng32 (((q + (1 : Int32)) + (1 : Int32)) + (1 : Int32))
  have h4 := c_iadd (((q + (1 : Int32)) + (1 : Int32)) + (1 : Int32)) (1 : Int32)
  have r4 := rng32 ((((q + (1 : Int32)) + (1 : Int32)) + (1 : Int32)) + (1 : Int32))
  rw [Int32.lt_iff_toInt_lt]
  omega
theorem own_B4_1 (q n : Int32) (h : 0 ≤ q.toInt ∧ q.toInt + 4 ≤ n.toInt ∧ n.toInt ≤ 7) : ¬ (q + (1 : Int32)) < 0 ∧ (q + (1 : Int32)) < n := by
  have hk := c_iadd q (4 : Int32)
  have rk := rng32 (q + (4 : Int32))
  have ek : (4 : Int32).toInt = 4 := rfl
  have e1 : (1 : Int32).toInt = 1 := rfl
  have e0 : (0 : Int32).toInt = 0 := rfl
  have h1 := c_iadd q (1 : Int32)
  have r1 := rng32 (q + (1 : Int32))
  have h2 := c_iadd (q + (1 : Int32)) (1 : Int32)
  have r2 := rng32 ((q + (1 : Int32)) + (1 : Int32))
  have h3 := c_iadd ((q + (1 : Int32)) + (1 : Int32)) (1 : Int32)
  have r3 := rng32 (((q + (1 : Int32)) + (1 : Int32)) + (1 : Int32))
  have h4 := c_iadd (((q + (1 : Int32)) + (1 : Int32)) + (1 : Int32)) (1 : Int32)
  have r4 := rng32 ((((q + (1 : Int32)) + (1 : Int32)) + (1 : Int32)) + (1 : Int32))
  rw [Int32.lt_iff_toInt_lt, Int32.lt_iff_toInt_lt]
  omega
theorem own_L4_2 (q n : Int32) (h : 0 ≤ q.toInt ∧ q.toInt + 4 ≤ n.toInt ∧ n.toInt ≤ 7) : ((q + (1 : Int32)) + (1 : Int32)) < (q + (4 : Int32)) := by
  have hk := c_iadd q (4 : Int32)
  have rk := rng32 (q + (4 : Int32))
  have ek : (4 : Int32).toInt = 4 := rfl
  have e1 : (1 : Int32).toInt = 1 := rfl
  have e0 : (0 : Int32).toInt = 0 := rfl
  have h1 := c_iadd q (1 : Int32)
  have r1 := rng32 (q + (1 : Int32))
  have h2 := c_iadd (q + (1 : Int32)) (1 : Int32)
  have r2 := rng32 ((q + (1 : Int32)) + (1 : Int32))
  have h3 := c_iadd ((q + (1 : Int32)) + (1 : Int32)) (1 : Int32)
  have r3 := rng32 (((q + (1 : Int32)) + (1 : Int32)) + (1 : Int32))
  have h4 := c_iadd (((q + (1 : Int32)) + (1 : Int32)) + (1 : Int32)) (1 : Int32)
  have r4 := rng32 ((((q + (1 : Int32)) + (1 : Int32)) + (1 : Int32)) + (1 : Int32))
  rw [Int32.lt_iff_toInt_lt]
  omega
theorem own_B4_2 (q n : Int32) (h : 0 ≤ q.toInt ∧ q.toInt + 4 ≤ n.toInt ∧ n.toInt ≤ 7) : ¬ ((q + (1 : Int32)) + (1 : Int32)) < 0 ∧ ((q + (1 : Int32)) + (1 : Int32)) < n := by
  have hk := c_iadd q (4 : Int32)
  have rk := rng32 (q + (4 : Int32))
  have ek : (4 : Int32).toInt = 4 := rfl
  have e1 : (1 : Int32).toInt = 1 := rfl
  have e0 : (0 : Int32).toInt = 0 := rfl
  have h1 := c_iadd q (1 : Int32)
  have r1 := rng32 (q + (1 : Int32))
  have h2 := c_iadd (q + (1 : Int32)) (1 : Int32)
  have r2 := rng32 ((q + (1 : Int32)) + (1 : Int32))
  have h3 := c_iadd ((q + (1 : Int32)) + (1 : Int32)) (1 : Int32)
  have r3 := rng32 (((q + (1 : Int32)) + (1 : Int32)) + (1 : Int32))
  have h4 := c_iadd (((q + (1 : Int32)) + (1 : Int32)) + (1 : Int32)) (1 : Int32)
  have r4 := rng32 ((((q + (1 : Int32)) + (1 : Int32)) + (1 : Int32)) + (1 : Int32))
  rw [Int32.lt_iff_toInt_lt, Int32.lt_iff_toInt_lt]
  omega
theorem own_L4_3 (q n : Int32) (h : 0 ≤ q.toInt ∧ q.toInt + 4 ≤ n.toInt ∧ n.toInt ≤ 7) : (((q + (1 : Int32)) + (1 : Int32)) + (1 : Int32)) < (q + (4 : Int32)) := by
  have hk := c_iadd q (4 : Int32)
  have rk := rng32 (q + (4 : Int32))
  have ek : (4 : Int32).toInt = 4 := rfl
  have e1 : (1 : Int32).toInt = 1 := rfl
  have e0 : (0 : Int32).toInt = 0 := rfl
  have h1 := c_iadd q (1 : Int32)
  have r1 := rng32 (q + (1 : Int32))
  have h2 := c_iadd (q + (1 : Int32)) (1 : Int32)
  have r2 := rng32 ((q + (1 : Int32)) + (1 : Int32))
  have h3 := c_iadd ((q + (1 : Int32)) + (1 : Int32)) (1 : Int32)
  have r3 := rng32 (((q + (1 : Int32)) + (1 : Int32)) + (1 : Int32))
  have h4 := c_iadd (((q + (1 : Int32)) + (1 : Int32)) + (1 : Int32)) (1 : Int32)
  have r4 := rng32 ((((q + (1 : Int32)) + (1 : Int32)) + (1 : Int32)) + (1 : Int32))
  rw [Int32.lt_iff_toInt_lt]
  omega
theorem own_B4_3 (q n : Int32) (h : 0 ≤ q.toInt ∧ q.toInt + 4 ≤ n.toInt ∧ n.toInt ≤ 7) : ¬ (((q + (1 : Int32)) + (1 : Int32)) + (1 : Int32)) < 0 ∧ (((q + (1 : Int32)) + (1 : Int32)) + (1 : Int32)) < n := by
  have hk := c_iadd q (4 : Int32)
  have rk := rng32 (q + (4 : Int32))
  have ek : (4 : Int32).toInt = 4 := rfl
  have e1 : (1 : Int32).toInt = 1 := rfl
  have e0 : (0 : Int32).toInt = 0 := rfl
  have h1 := c_iadd q (1 : Int32)
  have r1 := rng32 (q + (1 : Int32))
  have h2 := c_iadd (q + (1 : Int32)) (1 : Int32)
  have r2 := rng32 ((q + (1 : Int32)) + (1 : Int32))
  have h3 := c_iadd ((q + (1 : Int32)) + (1 : Int32)) (1 : Int32)
  have r3 := rng32 (((q + (1 : Int32)) + (1 : Int32)) + (1 : Int32))
  have h4 := c_iadd (((q + (1 : Int32)) + (1 : Int32)) + (1 : Int32)) (1 : Int32)
  have r4 := rng32 ((((q + (1 : Int32)) + (1 : Int32)) + (1 : Int32)) + (1 : Int32))
  rw [Int32.lt_iff_toInt_lt, Int32.lt_iff_toInt_lt]
  omega
theorem own_L4_4 (q n : Int32) (h : 0 ≤ q.toInt ∧ q.toInt + 4 ≤ n.toInt ∧ n.toInt ≤ 7) : ¬ ((((q + (1 : Int32)) + (1 : Int32)) + (1 : Int32)) + (1 : Int32)) < (q + (4 : Int32)) := by
  have hk := c_iadd q (4 : Int32)
  have rk := rng32 (q + (4 : Int32))
  have ek : (4 : Int32).toInt = 4 := rfl
  have e1 : (1 : Int32).toInt = 1 := rfl
  have e0 : (0 : Int32).toInt = 0 := rfl
  have h1 := c_iadd q (1 : Int32)
  have r1 := rng32 (q + (1 : Int32))
  have h2 := c_iadd (q + (1 : Int32)) (1 : Int32)
  have r2 := rng32 ((q + (1 : Int32)) + (1 : Int32))
  have h3 := c_iadd ((q + (1 : Int32)) + (1 : Int32)) (1 : Int32)
  have r3 := rng32 (((q + (1 : Int32)) + (1 : Int32)) + (1 : Int32))
  have h4 := c_iadd (((q + (1 : Int32)) + (1 : Int32)) + (1 : Int32)) (1 : Int32)
  have r4 := rng32 ((((q + (1 : Int32)) + (1 : Int32)) + (1 : Int32)) + (1 : Int32))
  rw [Int32.lt_iff_toInt_lt]
  omega
theorem own_C4 (q n : Int32) (h : 0 ≤ q.toInt ∧ q.toInt + 4 ≤ n.toInt ∧ n.toInt ≤ 7) : ¬ ((n - q).toInt64) < (4 : Int64) := by
  have h1 := c_isub n q
  have r1 := rng32 (n - q)
  have e : (4 : Int64).toInt = 4 := rfl
  rw [Int64.lt_iff_toInt_lt, c_i2l]
  omega
theorem own_n7 (x : Int32) : 0 ≤ (x &&& (7 : Int32)).toInt ∧ (x &&& (7 : Int32)).toInt ≤ 7 := by
  have h := c_mask x 7 3 (by decide) (by decide)
  omega
theorem own_nz (n : Int32) (h : 0 ≤ n.toInt ∧ n.toInt ≤ 7) : ¬ (n + (1 : Int32)) = (0 : Int32) := fun q => by
  have h1 := c_iadd n 1
  have r1 := rng32 (n + 1)
  have e : (1 : Int32).toInt = 1 := rfl
  have e0 : (0 : Int32).toInt = 0 := rfl
  rw [q] at h1
  omega
theorem own_rr (x n : Int32) (h : 0 ≤ n.toInt ∧ n.toInt ≤ 7) : 0 ≤ ((x &&& (2147483647 : Int32)) % (n + (1 : Int32))).toInt ∧ ((x &&& (2147483647 : Int32)) % (n + (1 : Int32))).toInt ≤ n.toInt := by
  have h0 := c_mask x 2147483647 31 (by decide) (by decide)
  have h1 := c_iadd n 1
  have r1 := rng32 (n + 1)
  have e : (1 : Int32).toInt = 1 := rfl
  have h2 := (c_iremV (x &&& 2147483647) (n + 1)).1 (by omega) (by omega)
  omega
theorem own_r8 (r n : Int32) (hn : 0 ≤ n.toInt ∧ n.toInt ≤ 7) (h : 0 ≤ r.toInt ∧ r.toInt ≤ n.toInt) : r = 0 ∨ r = 1 ∨ r = 2 ∨ r = 3 ∨ r = 4 ∨ r = 5 ∨ r = 6 ∨ r = 7 := by
  have e : ∀ k : Int32, r.toInt = k.toInt → r = k := fun k q => Int32.toInt_inj.mp q
  have : r.toInt = 0 ∨ r.toInt = 1 ∨ r.toInt = 2 ∨ r.toInt = 3 ∨ r.toInt = 4 ∨ r.toInt = 5 ∨ r.toInt = 6 ∨ r.toInt = 7 := by omega
  rcases this with q | q | q | q | q | q | q | q
  · exact Or.inl (e 0 q)
  · exact Or.inr (Or.inl (e 1 q))
  · exact Or.inr (Or.inr (Or.inl (e 2 q)))
  · exact Or.inr (Or.inr (Or.inr (Or.inl (e 3 q))))
  · exact Or.inr (Or.inr (Or.inr (Or.inr (Or.inl (e 4 q)))))
  · exact Or.inr (Or.inr (Or.inr (Or.inr (Or.inr (Or.inl (e 5 q))))))
  · exact Or.inr (Or.inr (Or.inr (Or.inr (Or.inr (Or.inr (Or.inl (e 6 q)))))))
  · exact Or.inr (Or.inr (Or.inr (Or.inr (Or.inr (Or.inr (Or.inr (e 7 q)))))))
theorem own_pos (n : Int32) (k : Int) (h : k ≤ n.toInt) (hk : 0 < k) : ¬ n = (0 : Int32) := fun q => by
  have e0 : (0 : Int32).toInt = 0 := rfl
  rw [q] at h
  omega
theorem own_nn (n : Int32) (h : 0 ≤ n.toInt ∧ n.toInt ≤ 7) : ¬ n < 0 := by
  have e0 : (0 : Int32).toInt = 0 := rfl
  rw [Int32.lt_iff_toInt_lt]
  omega
theorem own_cap (n : Int32) (h : 0 ≤ n.toInt ∧ n.toInt ≤ 7) : n.toNatClampNeg ≤ 7 := by
  show n.toInt.toNat ≤ 7
  omega
theorem own_ef_rm3 (m : MethodId) (o : Addr) (t : Addr)  : entryFrame m #[(.ref o), (.ref t)] 2 = mkF m 0 #[.val (.ref o), .val (.ref t)] [] := by first | (simp [entryFrame, mkF, argsToLocals, Value.category]; done) | rfl
def Q3 (Z : State) (o : Addr) (t : Addr) (h0 : Heap) (n0 : Nat) (v : Option Value) (h : Heap) (L : List Loc) : Prop := v = some (.ref o) ∧ Fr n0 L ∧ h = h0
set_option maxRecDepth 65536 in
set_option maxHeartbeats 40000000 in
theorem rm3 (l : Launch) (Z : State) (a0 : Array Value) (hw : ∀ d ∈ tables_1, d.before a0 Z = true) (ws : List Jvm.Cond) (o : Addr) (t : Addr) (h0 : Heap) (n0 : Nat) (Z0 : n0 ≤ h0.size)  :
    MetFree l (⟨"java/util/Objects", "requireNonNull", "(Ljava/lang/Object;Ljava/lang/String;)Ljava/lang/Object;"⟩ : MethodName) (head1 (Jvm.Cond.code (⟨"java/util/Objects", "requireNonNull", "(Ljava/lang/Object;Ljava/lang/String;)Ljava/lang/Object;"⟩ : MethodName) jdk_31_method_11_code 2 (some (.object "java/lang/Object")) :: ws) ({ frames := 0, cells := 0, slots := 0, locals := 0 } : Room)) (fun aa U => aa = #[(.ref o), (.ref t)] ∧ Z.Warmed39 U.vm ∧ U.heap = h0) (fun _ _ _ _ _ => True) (fun _ U oc U' => ∃ v L, oc = .returned v ∧ Q3 Z o t h0 n0 v U'.heap L ∧ FrameEnd U oc U' L ({ frames := 0, cells := 0, slots := 0, locals := 0 } : Room).cells ({ frames := 0, cells := 0, slots := 0, locals := 0 } : Room).slots) := by
  refine MetFree.of_bodySF (plainFor_of_name own_pn0) hisR ?_
  intro p e s m args below meth c s₁ Bd hml0 hP hK
  obtain ⟨rfl, hZ, hh⟩ := hP
  have hx := Bd.exec
  have hby := Bd.bytes
  have hlk := Bd.notSynchronized
  have hret := Bd.returns
  have hml : c.maxLocals = 2 := hml0
  have hown : s.vm.findClass "java/util/Objects" = some m.cls := findClass_of_methodNamed Bd.named
  have hnm := (name_of_methodNamed Bd.named Bd.method).1
  have X0 : Stand p l e ({ frames := 0, cells := 0, slots := 0, locals := 0 } : Room) s m #[(.ref o), (.ref t)] below meth c s₁ [] 0 0 := Stand.of_body Bd
  have e0 : s₁.heap = h0 := by rw [← hh, Bd.state]; rfl
  have N0 := Fr.nil n0
  refine own_body (Q := Q3 Z o t h0 n0) (KC := ({ frames := 0, cells := 0, slots := 0, locals := 0 } : Room).cells) (KS := ({ frames := 0, cells := 0, slots := 0, locals := 0 } : Room).slots) ?_
  rw [own_ef_rm3 m o t]
  refine own_aloadN X0 hx hby d3_0 (pc' := 1) rfl rfl rfl ?_
  refine own_ifnonnullY X0 hx hby d3_1 (pc' := 13) (by decide) (by decide) ?_
  refine own_aloadN X0 hx hby d3_13 (pc' := 14) rfl rfl rfl ?_
  refine own_areturn X0 hx hlk hby hret rfl rfl d3_14 (own_lv ?_ (by decide) (by decide))
  show Q3 Z o t  h0 n0 (some (.ref o)) s₁.heap _
  rw [e0]
  exact ⟨rfl, N0, rfl⟩
theorem own_ef_rm1 (m : MethodId) (a : Addr) (w : Addr)  : entryFrame m #[(.ref a), (.ref w)] 2 = mkF m 0 #[.val (.ref a), .val (.ref w)] [] := by first | (simp [entryFrame, mkF, argsToLocals, Value.category]; done) | rfl
def Q1 (Z : State) (a : Addr) (w : Addr) (h0 : Heap) (n0 : Nat) (v : Option Value) (h : Heap) (L : List Loc) : Prop := v = none ∧ Fr n0 L ∧ Keep h0 h [a] ∧ own_FD Z h a (.ref w) 0
set_option maxRecDepth 65536 in
set_option maxHeartbeats 40000000 in
theorem rm1 (l : Launch) (Z : State) (a0 : Array Value) (hw : ∀ d ∈ tables_1, d.before a0 Z = true) (ws : List Jvm.Cond) (a : Addr) (w : Addr) (h0 : Heap) (n0 : Nat) (Z0 : n0 ≤ h0.size) (f_O_a : own_FD Z h0 a .null (0 : Int32)) (ge_a : n0 ≤ a) (f_E_w : Exa Z h0 w "[B") :
    MetFree l (⟨"com/example/hermod/hermod/xrap/FrameReader", "<init>", "([B)V"⟩ : MethodName) (head1 (Jvm.Cond.code (⟨"com/example/hermod/hermod/xrap/FrameReader", "<init>", "([B)V"⟩ : MethodName) prog_14_method_1_code 2 none :: ws) ({ frames := 1, cells := 2, slots := 24, locals := 14 } : Room)) (fun aa U => aa = #[(.ref a), (.ref w)] ∧ Z.Warmed39 U.vm ∧ U.heap = h0) (fun _ _ _ _ _ => True) (fun _ U oc U' => ∃ v L, oc = .returned v ∧ Q1 Z a w h0 n0 v U'.heap L ∧ ReturnedEndW U oc U' L ({ frames := 1, cells := 2, slots := 24, locals := 14 } : Room).cells ({ frames := 1, cells := 2, slots := 24, locals := 14 } : Room).slots) := by
  refine MetFree.of_bodySF (plainFor_of_name own_pn2) hisR ?_
  intro p e s m args below meth c s₁ Bd hml0 hP hK
  obtain ⟨rfl, hZ, hh⟩ := hP
  have hx := Bd.exec
  have hby := Bd.bytes
  have hlk := Bd.notSynchronized
  have hret := Bd.returns
  have hml : c.maxLocals = 2 := hml0
  have hown : s.vm.findClass "com/example/hermod/hermod/xrap/FrameReader" = some m.cls := findClass_of_methodNamed Bd.named
  have hnm := (name_of_methodNamed Bd.named Bd.method).1
  have X0 : Stand p l e ({ frames := 1, cells := 2, slots := 24, locals := 14 } : Room) s m #[(.ref a), (.ref w)] below meth c s₁ [] 0 0 := Stand.of_body Bd
  have e0 : s₁.heap = h0 := by rw [← hh, Bd.state]; rfl
  have N0 := Fr.nil n0
  refine own_bodyS (Q := Q1 Z a w h0 n0) (KC := ({ frames := 1, cells := 2, slots := 24, locals := 14 } : Room).cells) (KS := ({ frames := 1, cells := 2, slots := 24, locals := 14 } : Room).slots) ?_
  rw [own_ef_rm1 m a w]
  have X0 : Stand p l e ({ frames := 1, cells := 2, slots := 24, locals := 14 } : Room) (s.setVm s.vm) m #[(.ref a), (.ref w)] below meth c s₁ [] 0 0 := X0
  have hS : s.Since s.vm h0.size := (State.WarmedH.refl s).since _
  have hSn : h0.size ≤ h0.size := Nat.le_refl _
  have Kp : Keep h0 h0 [a] := Keep.refl h0 _
  refine own_aloadN X0 hx hby d1_0 (pc' := 1) rfl rfl rfl ?_
  refine own_init X0 hx hZ hby hown (wd_8 hw) (wd_9 hw) (wd_10 hw) e0 (by rw [hml]; rfl) d1_1 (pc' := 4) rfl (by decide) (W := 0) (Nat.le_of_eq rfl) (by decide) (fun T1 X1 e1 => ?_)
  refine own_aloadN X1 hx hby d1_4 (pc' := 5) rfl rfl rfl ?_
  refine own_aloadN X1 hx hby d1_5 (pc' := 6) rfl rfl rfl ?_
  obtain ⟨a2, T2, h2, k2, X2, e2, E2, hS, hSn, hZ, hown, st2⟩ := ldcS X1 hx hZ hown (wd_11 hw) (own_wS hw) e1 hS hSn (g := (mkF m 6 #[.val (.ref a), .val (.ref w)] [(.ref w), (.ref a)])) rfl (hb hby d1_6) (n := 20) (by decide) (by decide) (by decide) (by decide)
  refine own_step st2 ?_
  have f_O_a := f_O_a.ext E2
  have f_E_w := f_E_w.ext E2
  have Zn := Nat.le_trans Z0 E2.1
  have Kp := Kp.ext E2
  show own_End p e below _ (T2.setTop (mkF m 8 #[.val (.ref a), .val (.ref w)] [(.ref a2), (.ref w), (.ref a)]))
  refine own_lk0 hw X2 hx hZ hby (by rw [hml]; rfl) hown d1_8 (pc' := 11) rfl e2 (W := 1) (Nat.le_of_eq rfl) (rm3 l Z a0 hw [] w a2 h2 n0 Zn ) (by decide) (by decide) (by decide) (by decide) (fun v3 T3 L3 X3 hQ3 => ?_)
  obtain ⟨rfl, Nq3, e3⟩ := hQ3
  have N3 := Fr.app N0 Nq3
  show own_End p e below _ (T3.setTop (mkF m 11 _ [(.ref w), (.ref a)]))
  refine own_cast X3 hx hZ hby hown (wd_22 hw) e3 (Ins.self f_E_w) d1_11 (pc' := 14) rfl (fun T4 X4 e4 => ?_)
  obtain ⟨f_E_a, f_F_a_frame, f_F_a_position⟩ := f_O_a
  refine own_putF X4 hx hZ hby hown (host := "") (Or.inl (wd_24 hw)) Via.refl e4 f_F_a_frame f_E_a (Or.inr ⟨(wd_25 hw), rfl, hnm⟩) (wd_2 hw) (ty := (.array .byte)) (by decide) rfl rfl d1_14 (pc' := 17) rfl (fun T5 h5 X5 e5 W5 => ?_)
  have f_F_a_frame := f_F_a_frame.same W5
  have f_E_w := f_E_w.wr W5
  have f_E_a := f_E_a.wr W5
  have f_F_a_position := f_F_a_position.other W5 (Or.inr (slot_ne (Or.inl (wd_32 hw)) (Or.inr (wd_25 hw)) (by decide) (t := .int) (t' := (.array .byte)) (by decide) (by decide)))
  have Zn := Nat.le_trans Zn (Keep.of_wr W5).1
  have hSn := Nat.le_trans hSn (Keep.of_wr W5).1
  have Kp := Kp.wr W5 (Or.inl (List.mem_of_getElem? (i := 0) rfl))
  have N5 := Fr.snoc X5 N3 ge_a
  refine own_return X5 hx hlk hby hret d1_17 (own_lvS hS (by rw [e5]; exact hSn) ?_ (by decide) (by decide))
  show Q1 Z a w  h0 n0 none T5.heap _
  rw [e5]
  exact ⟨rfl, N5, Kp, ⟨f_E_a, f_F_a_frame, f_F_a_position⟩⟩
theorem own_ef_rm4 (m : MethodId) (a : Addr)  : entryFrame m #[(.ref a)] 1 = mkF m 0 #[.val (.ref a)] [] := by first | (simp [entryFrame, mkF, argsToLocals, Value.category]; done) | rfl
def Q4 (Z : State) (a : Addr) (w : Addr) (q : Int32) (kc : ClassId) (n : Int32) (z : Int32) (h0 : Heap) (n0 : Nat) (v : Option Value) (h : Heap) (L : List Loc) : Prop := v = some (.int z) ∧ Fr n0 L ∧ h = h0
set_option maxRecDepth 65536 in
set_option maxHeartbeats 40000000 in
theorem rm4 (l : Launch) (Z : State) (a0 : Array Value) (hw : ∀ d ∈ tables_1, d.before a0 Z = true) (ws : List Jvm.Cond) (a : Addr) (w : Addr) (q : Int32) (kc : ClassId) (n : Int32) (z : Int32) (h0 : Heap) (n0 : Nat) (Z0 : n0 ≤ h0.size) (f_O_a : own_FD Z h0 a (.ref w) q) (f_V_w : Arv Z h0 w kc .byte n [] (.int (0 : Int32))) (hz : own_eq q n = z) :
    MetFree l (⟨"com/example/hermod/hermod/xrap/FrameReader", "atEnd", "()Z"⟩ : MethodName) (head1 (Jvm.Cond.code (⟨"com/example/hermod/hermod/xrap/FrameReader", "atEnd", "()Z"⟩ : MethodName) prog_14_method_9_code 1 (some .boolean) :: ws) ({ frames := 0, cells := 0, slots := 0, locals := 0 } : Room)) (fun aa U => aa = #[(.ref a)] ∧ Z.Warmed39 U.vm ∧ U.heap = h0) (fun _ _ _ _ _ => True) (fun _ U oc U' => ∃ v L, oc = .returned v ∧ Q4 Z a w q kc n z h0 n0 v U'.heap L ∧ FrameEnd U oc U' L ({ frames := 0, cells := 0, slots := 0, locals := 0 } : Room).cells ({ frames := 0, cells := 0, slots := 0, locals := 0 } : Room).slots) := by
  refine MetFree.of_bodySF (plainFor_of_name own_pn2) hisR ?_
  intro p e s m args below meth c s₁ Bd hml0 hP hK
  obtain ⟨rfl, hZ, hh⟩ := hP
  have hx := Bd.exec
  have hby := Bd.bytes
  have hlk := Bd.notSynchronized
  have hret := Bd.returns
  have hml : c.maxLocals = 1 := hml0
  have hown : s.vm.findClass "com/example/hermod/hermod/xrap/FrameReader" = some m.cls := findClass_of_methodNamed Bd.named
  have hnm := (name_of_methodNamed Bd.named Bd.method).1
  have X0 : Stand p l e ({ frames := 0, cells := 0, slots := 0, locals := 0 } : Room) s m #[(.ref a)] below meth c s₁ [] 0 0 := Stand.of_body Bd
  have e0 : s₁.heap = h0 := by rw [← hh, Bd.state]; rfl
  have N0 := Fr.nil n0
  refine own_body (Q := Q4 Z a w q kc n z h0 n0) (KC := ({ frames := 0, cells := 0, slots := 0, locals := 0 } : Room).cells) (KS := ({ frames := 0, cells := 0, slots := 0, locals := 0 } : Room).slots) ?_
  rw [own_ef_rm4 m a]
  refine own_aloadN X0 hx hby d4_0 (pc' := 1) rfl rfl rfl ?_
  obtain ⟨f_E_a, f_F_a_frame, f_F_a_position⟩ := f_O_a
  refine own_getF X0 hx hZ hby hown (host := "") (Or.inl (wd_31 hw)) Via.refl e0 f_F_a_position d4_1 (pc' := 4) rfl (fun T1 X1 e1 => ?_)
  refine own_aloadN X1 hx hby d4_4 (pc' := 5) rfl rfl rfl ?_
  refine own_getF X1 hx hZ hby hown (host := "") (Or.inl (wd_24 hw)) Via.refl e1 f_F_a_frame d4_5 (pc' := 8) rfl (fun T2 X2 e2 => ?_)
  obtain ⟨cl3, Ar3, q3, S3, M3, H3, G3⟩ := id f_V_w
  refine own_alen X2 hx hZ hby e2 Ar3 S3 M3 d4_8 (pc' := 9) rfl ?_
  refine own_ic2 X2 hx hby d4_9 (pc1 := 16) (by decide) (by decide) (pc2 := 12) rfl (fun (hc9 : ¬ q = n) => ?_) (fun (hc9 : q = n) => ?_)
  · refine own_iconst X2 hx hby d4_16 (pc' := 17) rfl (n := (0 : Int32)) (by decide) ?_
    refine own_zreturn X2 hx hlk hby hret (Or.inl rfl) d4_17 (own_lv ?_ (by decide) (by decide))
    show Q4 Z a w q kc n z  h0 n0 (some (.int (0 : Int32))) T2.heap _
    rw [e2]
    exact ⟨by rw [← hz]; simp [own_eq, hc9], N0, rfl⟩
  · refine own_iconst X2 hx hby d4_12 (pc' := 13) rfl (n := (1 : Int32)) (by decide) ?_
    refine own_goto X2 hx hby d4_13 (pc' := 17) (by decide) (by decide) ?_
    refine own_zreturn X2 hx hlk hby hret (Or.inr rfl) d4_17 (own_lv ?_ (by decide) (by decide))
    show Q4 Z a w q kc n z  h0 n0 (some (.int (1 : Int32))) T2.heap _
    rw [e2]
    exact ⟨by rw [← hz]; simp [own_eq, hc9], N0, rfl⟩
theorem own_ef_rm7_1 (m : MethodId) (a : Addr) (t : Addr)  : entryFrame m #[(.ref a), (.long (1 : Int64)), (.ref t)] 5 = mkF m 0 #[.val (.ref a), .val (.long (1 : Int64)), .second, .val (.ref t), .unset] [] := by first | (simp [entryFrame, mkF, argsToLocals, Value.category]; done) | rfl
def Q7_1 (Z : State) (a : Addr) (w : Addr) (q : Int32) (kc : ClassId) (n : Int32) (t : Addr) (h0 : Heap) (n0 : Nat) (v : Option Value) (h : Heap) (L : List Loc) : Prop := v = some (.int q) ∧ Fr n0 L ∧ Keep h0 h [a] ∧ own_FD Z h a (.ref w) (q + (1 : Int32))
set_option maxRecDepth 65536 in
set_option maxHeartbeats 40000000 in
theorem rm7_1 (l : Launch) (Z : State) (a0 : Array Value) (hw : ∀ d ∈ tables_1, d.before a0 Z = true) (ws : List Jvm.Cond) (a : Addr) (w : Addr) (q : Int32) (kc : ClassId) (n : Int32) (t : Addr) (h0 : Heap) (n0 : Nat) (Z0 : n0 ≤ h0.size) (f_O_a : own_FD Z h0 a (.ref w) q) (f_V_w : Arv Z h0 w kc .byte n [] (.int (0 : Int32))) (ge_a : n0 ≤ a) (hqn : 0 ≤ q.toInt ∧ q.toInt + 1 ≤ n.toInt ∧ n.toInt ≤ 7) :
    MetFree l (⟨"com/example/hermod/hermod/xrap/FrameReader", "claim", "(JLjava/lang/String;)I"⟩ : MethodName) (head1 (Jvm.Cond.code (⟨"com/example/hermod/hermod/xrap/FrameReader", "claim", "(JLjava/lang/String;)I"⟩ : MethodName) prog_14_method_13_code 5 (some .int) :: ws) ({ frames := 0, cells := 0, slots := 0, locals := 0 } : Room)) (fun aa U => aa = #[(.ref a), (.long (1 : Int64)), (.ref t)] ∧ Z.Warmed39 U.vm ∧ U.heap = h0) (fun _ _ _ _ _ => True) (fun _ U oc U' => ∃ v L, oc = .returned v ∧ Q7_1 Z a w q kc n t h0 n0 v U'.heap L ∧ FrameEnd U oc U' L ({ frames := 0, cells := 0, slots := 0, locals := 0 } : Room).cells ({ frames := 0, cells := 0, slots := 0, locals := 0 } : Room).slots) := by
  refine MetFree.of_bodySF (plainFor_of_name own_pn2) hisR ?_
  intro p e s m args below meth c s₁ Bd hml0 hP hK
  obtain ⟨rfl, hZ, hh⟩ := hP
  have hx := Bd.exec
  have hby := Bd.bytes
  have hlk := Bd.notSynchronized
  have hret := Bd.returns
  have hml : c.maxLocals = 5 := hml0
  have hown : s.vm.findClass "com/example/hermod/hermod/xrap/FrameReader" = some m.cls := findClass_of_methodNamed Bd.named
  have hnm := (name_of_methodNamed Bd.named Bd.method).1
  have X0 : Stand p l e ({ frames := 0, cells := 0, slots := 0, locals := 0 } : Room) s m #[(.ref a), (.long (1 : Int64)), (.ref t)] below meth c s₁ [] 0 0 := Stand.of_body Bd
  have e0 : s₁.heap = h0 := by rw [← hh, Bd.state]; rfl
  have N0 := Fr.nil n0
  refine own_body (Q := Q7_1 Z a w q kc n t h0 n0) (KC := ({ frames := 0, cells := 0, slots := 0, locals := 0 } : Room).cells) (KS := ({ frames := 0, cells := 0, slots := 0, locals := 0 } : Room).slots) ?_
  rw [own_ef_rm7_1 m a t]
  have Kp : Keep h0 h0 [a] := Keep.refl h0 _
  refine own_aloadN X0 hx hby d7_0 (pc' := 1) rfl rfl rfl ?_
  obtain ⟨f_E_a, f_F_a_frame, f_F_a_position⟩ := f_O_a
  refine own_getF X0 hx hZ hby hown (host := "") (Or.inl (wd_31 hw)) Via.refl e0 f_F_a_position d7_1 (pc' := 4) rfl (fun T1 X1 e1 => ?_)
  refine own_istore X1 hx hby d7_4 (pc' := 6) rfl (l' := #[.val (.ref a), .val (.long (1 : Int64)), .second, .val (.ref t), .val (.int q)]) rfl ?_
  refine own_lloadN X1 hx hby d7_6 (pc' := 7) rfl rfl ?_
  refine own_aloadN X1 hx hby d7_7 (pc' := 8) rfl rfl rfl ?_
  refine own_getF X1 hx hZ hby hown (host := "") (Or.inl (wd_24 hw)) Via.refl e1 f_F_a_frame d7_8 (pc' := 11) rfl (fun T2 X2 e2 => ?_)
  obtain ⟨cl3, Ar3, q3, S3, M3, H3, G3⟩ := id f_V_w
  refine own_alen X2 hx hZ hby e2 Ar3 S3 M3 d7_11 (pc' := 12) rfl ?_
  refine own_iload X2 hx hby d7_12 (pc' := 14) rfl rfl ?_
  refine own_isub X2 hx hby d7_14 (pc' := 15) rfl ?_
  refine own_i2l X2 hx hby d7_15 (pc' := 16) rfl ?_
  refine own_lcmp X2 hx hby d7_16 (pc' := 17) rfl ?_
  refine own_ifY X2 hx hby d7_17 (pc' := 42) (by decide) (by decide) (own_ctL_y (show ¬ ((n - q).toInt64) < (1 : Int64) from (own_C1 q n hqn))) ?_
  refine own_aloadN X2 hx hby d7_42 (pc' := 43) rfl rfl rfl ?_
  refine own_iload X2 hx hby d7_43 (pc' := 45) rfl rfl ?_
  refine own_lloadN X2 hx hby d7_45 (pc' := 46) rfl rfl ?_
  refine own_l2i X2 hx hby d7_46 (pc' := 47) rfl ?_
  refine own_iadd X2 hx hby d7_47 (pc' := 48) rfl ?_
  have ne_w_a : w ≠ a := Ne.symm (Exa.neArv f_E_a f_V_w (wd_2 hw))
  refine own_putF X2 hx hZ hby hown (host := "") (Or.inl (wd_31 hw)) Via.refl e2 f_F_a_position f_E_a (Or.inl (wd_32 hw)) (wd_2 hw) (ty := .int) (by decide) rfl rfl d7_48 (pc' := 51) rfl (fun T4 h4 X4 e4 W4 => ?_)
  have f_F_a_position := f_F_a_position.same W4
  have f_V_w := f_V_w.other W4 ne_w_a
  have f_E_a := f_E_a.wr W4
  have f_F_a_frame := f_F_a_frame.other W4 (Or.inr (slot_ne (Or.inr (wd_25 hw)) (Or.inl (wd_32 hw)) (by decide) (t := (.array .byte)) (t' := .int) (by decide) (by decide)))
  have Zn := Nat.le_trans Z0 (Keep.of_wr W4).1
  have Kp := Kp.wr W4 (Or.inl (List.mem_of_getElem? (i := 0) rfl))
  have N4 := Fr.snoc X4 N0 ge_a
  refine own_iload X4 hx hby d7_51 (pc' := 53) rfl rfl ?_
  refine own_ireturn X4 hx hlk hby hret d7_53 (own_lv ?_ (by decide) (by decide))
  show Q7_1 Z a w q kc n t  h0 n0 (some (.int q)) T4.heap _
  rw [e4]
  exact ⟨rfl, N4, Kp, ⟨f_E_a, f_F_a_frame, f_F_a_position⟩⟩
theorem own_ef_rm6_1 (m : MethodId) (a : Addr) (t : Addr)  : entryFrame m #[(.ref a), (.int (1 : Int32)), (.ref t)] 7 = mkF m 0 #[.val (.ref a), .val (.int (1 : Int32)), .val (.ref t), .unset, .unset, .unset, .unset] [] := by first | (simp [entryFrame, mkF, argsToLocals, Value.category]; done) | rfl
def Q6_1 (Z : State) (a : Addr) (w : Addr) (q : Int32) (kc : ClassId) (n : Int32) (t : Addr) (h0 : Heap) (n0 : Nat) (v : Option Value) (h : Heap) (L : List Loc) : Prop := ∃ z : Int64, v = some (.long z) ∧ Fr n0 L ∧ Keep h0 h [a] ∧ own_FD Z h a (.ref w) (q + (1 : Int32))
set_option maxRecDepth 65536 in
set_option maxHeartbeats 40000000 in
theorem rm6_1 (l : Launch) (Z : State) (a0 : Array Value) (hw : ∀ d ∈ tables_1, d.before a0 Z = true) (ws : List Jvm.Cond) (a : Addr) (w : Addr) (q : Int32) (kc : ClassId) (n : Int32) (t : Addr) (h0 : Heap) (n0 : Nat) (Z0 : n0 ≤ h0.size) (f_O_a : own_FD Z h0 a (.ref w) q) (f_V_w : Arv Z h0 w kc .byte n [] (.int (0 : Int32))) (ge_a : n0 ≤ a) (hqn : 0 ≤ q.toInt ∧ q.toInt + 1 ≤ n.toInt ∧ n.toInt ≤ 7) :
    MetFree l (⟨"com/example/hermod/hermod/xrap/FrameReader", "readNumber", "(ILjava/lang/String;)J"⟩ : MethodName) (head1 (Jvm.Cond.code (⟨"com/example/hermod/hermod/xrap/FrameReader", "readNumber", "(ILjava/lang/String;)J"⟩ : MethodName) prog_14_method_11_code 7 (some .long) :: ws) ({ frames := 1, cells := 0, slots := 0, locals := 16 } : Room)) (fun aa U => aa = #[(.ref a), (.int (1 : Int32)), (.ref t)] ∧ Z.Warmed39 U.vm ∧ U.heap = h0) (fun _ _ _ _ _ => True) (fun _ U oc U' => ∃ v L, oc = .returned v ∧ Q6_1 Z a w q kc n t h0 n0 v U'.heap L ∧ FrameEnd U oc U' L ({ frames := 1, cells := 0, slots := 0, locals := 16 } : Room).cells ({ frames := 1, cells := 0, slots := 0, locals := 16 } : Room).slots) := by
  refine MetFree.of_bodySF (plainFor_of_name own_pn2) hisR ?_
  intro p e s m args below meth c s₁ Bd hml0 hP hK
  obtain ⟨rfl, hZ, hh⟩ := hP
  have hx := Bd.exec
  have hby := Bd.bytes
  have hlk := Bd.notSynchronized
  have hret := Bd.returns
  have hml : c.maxLocals = 7 := hml0
  have hown : s.vm.findClass "com/example/hermod/hermod/xrap/FrameReader" = some m.cls := findClass_of_methodNamed Bd.named
  have hnm := (name_of_methodNamed Bd.named Bd.method).1
  have X0 : Stand p l e ({ frames := 1, cells := 0, slots := 0, locals := 16 } : Room) s m #[(.ref a), (.int (1 : Int32)), (.ref t)] below meth c s₁ [] 0 0 := Stand.of_body Bd
  have e0 : s₁.heap = h0 := by rw [← hh, Bd.state]; rfl
  have N0 := Fr.nil n0
  refine own_body (Q := Q6_1 Z a w q kc n t h0 n0) (KC := ({ frames := 1, cells := 0, slots := 0, locals := 16 } : Room).cells) (KS := ({ frames := 1, cells := 0, slots := 0, locals := 16 } : Room).slots) ?_
  rw [own_ef_rm6_1 m a t]
  have Kp : Keep h0 h0 [a] := Keep.refl h0 _
  refine own_aloadN X0 hx hby d6_0 (pc' := 1) rfl rfl rfl ?_
  refine own_iloadN X0 hx hby d6_1 (pc' := 2) rfl rfl ?_
  refine own_i2l X0 hx hby d6_2 (pc' := 3) rfl ?_
  show own_End p e below _ (s₁.setTop (mkF m 3 #[.val (.ref a), .val (.int (1 : Int32)), .val (.ref t), .unset, .unset, .unset, .unset] [(.long (1 : Int64)), (.ref a)]))
  refine own_aloadN X0 hx hby d6_3 (pc' := 4) rfl rfl rfl ?_
  have ne_w_a : w ≠ a := Ne.symm (Exa.neArv f_O_a.1 f_V_w (wd_2 hw))
  refine own_lk1 hw X0 hx hZ hby (by rw [hml]; rfl) hown d6_4 (pc' := 7) rfl e0 f_O_a.1 (W := 0) (Nat.le_of_eq rfl) (rm7_1 l Z a0 hw [] a w q kc n t h0 n0 Z0 f_O_a f_V_w ge_a hqn) (by decide) (by decide) (by decide) (by decide) (fun v1 T1 L1 X1 hQ1 => ?_)
  obtain ⟨rfl, Nq1, K1, O1⟩ := hQ1
  have N1 := Fr.app N0 Nq1
  have f_V_w := f_V_w.keep K1 (ninS ne_w_a nin0)
  have Zn := Nat.le_trans Z0 K1.1
  have Kp := Kp.trans K1 (allS (Or.inl (List.mem_of_getElem? (i := 0) rfl)) all0)
  show own_End p e below _ (T1.setTop (mkF m 7 _ [(.int q)]))
  refine own_istoreN X1 hx hby d6_7 (pc' := 8) rfl (l' := #[.val (.ref a), .val (.int (1 : Int32)), .val (.ref t), .val (.int q), .unset, .unset, .unset]) rfl ?_
  refine own_lconst X1 hx hby d6_8 (pc' := 9) rfl (n := (0 : Int64)) (by decide) ?_
  refine own_lstore X1 hx hby d6_9 (pc' := 11) rfl (l' := #[.val (.ref a), .val (.int (1 : Int32)), .val (.ref t), .val (.int q), .val (.long (0 : Int64)), .second, .unset]) rfl ?_
  refine own_iloadN X1 hx hby d6_11 (pc' := 12) rfl rfl ?_
  refine own_istore X1 hx hby d6_12 (pc' := 14) rfl (l' := #[.val (.ref a), .val (.int (1 : Int32)), .val (.ref t), .val (.int q), .val (.long (0 : Int64)), .second, .val (.int q)]) rfl ?_
  refine own_iload X1 hx hby d6_14 (pc' := 16) rfl rfl ?_
  refine own_aloadN X1 hx hby d6_16 (pc' := 17) rfl rfl rfl ?_
  obtain ⟨f_E_a, f_F_a_frame, f_F_a_position⟩ := O1
  refine own_getF X1 hx hZ hby hown (host := "") (Or.inl (wd_31 hw)) Via.refl rfl f_F_a_position d6_17 (pc' := 20) rfl (fun T2 X2 e2 => ?_)
  refine own_icN X2 hx hby d6_20 (pc' := 23) rfl (show q < (q + (1 : Int32)) from (own_L1_0 q n hqn)) ?_
  refine own_lload X2 hx hby d6_23 (pc' := 25) rfl rfl ?_
  refine own_bipush X2 hx hby d6_25 (pc' := 27) rfl (n := (8 : Int32)) (by decide) ?_
  refine own_lshl X2 hx hby d6_27 (pc' := 28) rfl ?_
  refine own_aloadN X2 hx hby d6_28 (pc' := 29) rfl rfl rfl ?_
  refine own_getF X2 hx hZ hby hown (host := "") (Or.inl (wd_24 hw)) Via.refl e2 f_F_a_frame d6_29 (pc' := 32) rfl (fun T3 X3 e3 => ?_)
  refine own_iload X3 hx hby d6_32 (pc' := 34) rfl rfl ?_
  obtain ⟨cl4, Ar4, q4, S4, M4, H4, G4⟩ := id f_V_w
  have hin4 : ¬ (q < 0 ∨ cl4.slots.size ≤ (q).toNatClampNeg) := inb_of S4 (own_B1_0 q n hqn)
  have hat4 : cl4.slots[(q).toNatClampNeg]? = some (.int (0 : Int32)) := H4.at hin4 rfl
  refine own_baload X3 hx hZ hby e3 Ar4 hin4 hat4 d6_34 (pc' := 35) rfl ?_
  refine own_sipush X3 hx hby d6_35 (pc' := 38) rfl (n := (255 : Int32)) (by decide) ?_
  refine own_iand X3 hx hby d6_38 (pc' := 39) rfl ?_
  refine own_i2l X3 hx hby d6_39 (pc' := 40) rfl ?_
  refine own_lor X3 hx hby d6_40 (pc' := 41) rfl ?_
  refine own_lstore X3 hx hby d6_41 (pc' := 43) rfl (l' := #[.val (.ref a), .val (.int (1 : Int32)), .val (.ref t), .val (.int q), .val (.long (((0 : Int64) <<< ((8 : Int32) &&& 0x3f).toInt64) ||| (((0 : Int32) &&& (255 : Int32)).toInt64))), .second, .val (.int q)]) rfl ?_
  refine own_iinc X3 hx hby d6_43 (pc' := 46) rfl rfl (y := (q + (1 : Int32))) rfl (l' := #[.val (.ref a), .val (.int (1 : Int32)), .val (.ref t), .val (.int q), .val (.long (((0 : Int64) <<< ((8 : Int32) &&& 0x3f).toInt64) ||| (((0 : Int32) &&& (255 : Int32)).toInt64))), .second, .val (.int (q + (1 : Int32)))]) rfl ?_
  refine own_goto X3 hx hby d6_46 (pc' := 14) (by decide) (by decide) ?_
  refine own_iload X3 hx hby d6_14 (pc' := 16) rfl rfl ?_
  refine own_aloadN X3 hx hby d6_16 (pc' := 17) rfl rfl rfl ?_
  refine own_getF X3 hx hZ hby hown (host := "") (Or.inl (wd_31 hw)) Via.refl e3 f_F_a_position d6_17 (pc' := 20) rfl (fun T5 X5 e5 => ?_)
  refine own_icY X5 hx hby d6_20 (pc' := 49) (by decide) (by decide) (show ¬ (q + (1 : Int32)) < (q + (1 : Int32)) from (own_L1_1 q n hqn)) ?_
  refine own_lload X5 hx hby d6_49 (pc' := 51) rfl rfl ?_
  refine own_lreturn X5 hx hlk hby hret d6_51 (own_lv ?_ (by decide) (by decide))
  show Q6_1 Z a w q kc n t  h0 n0 (some (.long (((0 : Int64) <<< ((8 : Int32) &&& 0x3f).toInt64) ||| (((0 : Int32) &&& (255 : Int32)).toInt64)))) T5.heap _
  rw [e5]
  exact ⟨_, rfl, N1, Kp, ⟨f_E_a, f_F_a_frame, f_F_a_position⟩⟩
theorem own_ef_rm5 (m : MethodId) (a : Addr)  : entryFrame m #[(.ref a)] 1 = mkF m 0 #[.val (.ref a)] [] := by first | (simp [entryFrame, mkF, argsToLocals, Value.category]; done) | rfl
def Q5 (Z : State) (a : Addr) (w : Addr) (q : Int32) (kc : ClassId) (n : Int32) (h0 : Heap) (n0 : Nat) (v : Option Value) (h : Heap) (L : List Loc) : Prop := ∃ z : Int32, v = some (.int z) ∧ Fr n0 L ∧ Keep h0 h [a] ∧ own_FD Z h a (.ref w) (q + (1 : Int32))
set_option maxRecDepth 65536 in
set_option maxHeartbeats 40000000 in
theorem rm5 (l : Launch) (Z : State) (a0 : Array Value) (hw : ∀ d ∈ tables_1, d.before a0 Z = true) (ws : List Jvm.Cond) (a : Addr) (w : Addr) (q : Int32) (kc : ClassId) (n : Int32) (h0 : Heap) (n0 : Nat) (Z0 : n0 ≤ h0.size) (f_O_a : own_FD Z h0 a (.ref w) q) (f_V_w : Arv Z h0 w kc .byte n [] (.int (0 : Int32))) (ge_a : n0 ≤ a) (hqn : 0 ≤ q.toInt ∧ q.toInt + 1 ≤ n.toInt ∧ n.toInt ≤ 7) :
    MetFree l (⟨"com/example/hermod/hermod/xrap/FrameReader", "readNumber1", "()I"⟩ : MethodName) (head1 (Jvm.Cond.code (⟨"com/example/hermod/hermod/xrap/FrameReader", "readNumber1", "()I"⟩ : MethodName) prog_14_method_2_code 1 (some .int) :: ws) ({ frames := 2, cells := 2, slots := 32, locals := 34 } : Room)) (fun aa U => aa = #[(.ref a)] ∧ Z.Warmed39 U.vm ∧ U.heap = h0) (fun _ _ _ _ _ => True) (fun _ U oc U' => ∃ v L, oc = .returned v ∧ Q5 Z a w q kc n h0 n0 v U'.heap L ∧ ReturnedEndW U oc U' L ({ frames := 2, cells := 2, slots := 32, locals := 34 } : Room).cells ({ frames := 2, cells := 2, slots := 32, locals := 34 } : Room).slots) := by
  refine MetFree.of_bodySF (plainFor_of_name own_pn2) hisR ?_
  intro p e s m args below meth c s₁ Bd hml0 hP hK
  obtain ⟨rfl, hZ, hh⟩ := hP
  have hx := Bd.exec
  have hby := Bd.bytes
  have hlk := Bd.notSynchronized
  have hret := Bd.returns
  have hml : c.maxLocals = 1 := hml0
  have hown : s.vm.findClass "com/example/hermod/hermod/xrap/FrameReader" = some m.cls := findClass_of_methodNamed Bd.named
  have hnm := (name_of_methodNamed Bd.named Bd.method).1
  have X0 : Stand p l e ({ frames := 2, cells := 2, slots := 32, locals := 34 } : Room) s m #[(.ref a)] below meth c s₁ [] 0 0 := Stand.of_body Bd
  have e0 : s₁.heap = h0 := by rw [← hh, Bd.state]; rfl
  have N0 := Fr.nil n0
  refine own_bodyS (Q := Q5 Z a w q kc n h0 n0) (KC := ({ frames := 2, cells := 2, slots := 32, locals := 34 } : Room).cells) (KS := ({ frames := 2, cells := 2, slots := 32, locals := 34 } : Room).slots) ?_
  rw [own_ef_rm5 m a]
  have X0 : Stand p l e ({ frames := 2, cells := 2, slots := 32, locals := 34 } : Room) (s.setVm s.vm) m #[(.ref a)] below meth c s₁ [] 0 0 := X0
  have hS : s.Since s.vm h0.size := (State.WarmedH.refl s).since _
  have hSn : h0.size ≤ h0.size := Nat.le_refl _
  have Kp : Keep h0 h0 [a] := Keep.refl h0 _
  refine own_aloadN X0 hx hby d5_0 (pc' := 1) rfl rfl rfl ?_
  refine own_iconst X0 hx hby d5_1 (pc' := 2) rfl (n := (1 : Int32)) (by decide) ?_
  obtain ⟨a1, T1, h1, k1, X1, e1, E1, hS, hSn, hZ, hown, st1⟩ := ldcS X0 hx hZ hown (wd_38 hw) (own_wS hw) e0 hS hSn (g := (mkF m 2 #[.val (.ref a)] [(.int (1 : Int32)), (.ref a)])) rfl (hb hby d5_2) (n := 28) (by decide) (by decide) (by decide) (by decide)
  refine own_step st1 ?_
  have f_O_a := f_O_a.ext E1
  have f_V_w := f_V_w.ext E1
  have Zn := Nat.le_trans Z0 E1.1
  have Kp := Kp.ext E1
  show own_End p e below _ (T1.setTop (mkF m 4 #[.val (.ref a)] [(.ref a1), (.int (1 : Int32)), (.ref a)]))
  have ne_w_a : w ≠ a := Ne.symm (Exa.neArv f_O_a.1 f_V_w (wd_2 hw))
  refine own_lk2 hw X1 hx hZ hby (by rw [hml]; rfl) hown d5_4 (pc' := 7) rfl e1 f_O_a.1 (W := 0) (Nat.le_of_eq rfl) (rm6_1 l Z a0 hw [] a w q kc n a1 h1 n0 Zn f_O_a f_V_w ge_a hqn) (by decide) (by decide) (by decide) (by decide) (fun v3 T3 L3 X3 hQ3 => ?_)
  obtain ⟨z2, rfl, Nq3, K3, O3⟩ := hQ3
  have N3 := Fr.app N0 Nq3
  have f_V_w := f_V_w.keep K3 (ninS ne_w_a nin0)
  have Zn := Nat.le_trans Zn K3.1
  have hSn := Nat.le_trans hSn K3.1
  have Kp := Kp.trans K3 (allS (Or.inl (List.mem_of_getElem? (i := 0) rfl)) all0)
  show own_End p e below _ (T3.setTop (mkF m 7 _ [(.long z2)]))
  refine own_l2i X3 hx hby d5_7 (pc' := 8) rfl ?_
  refine own_ireturn X3 hx hlk hby hret d5_8 (own_lvS hS hSn ?_ (by decide) (by decide))
  show Q5 Z a w q kc n  h0 n0 (some (.int (z2.toInt32))) T3.heap _
  exact ⟨_, rfl, N3, Kp, O3⟩
theorem own_ef_rm7_2 (m : MethodId) (a : Addr) (t : Addr)  : entryFrame m #[(.ref a), (.long (2 : Int64)), (.ref t)] 5 = mkF m 0 #[.val (.ref a), .val (.long (2 : Int64)), .second, .val (.ref t), .unset] [] := by first | (simp [entryFrame, mkF, argsToLocals, Value.category]; done) | rfl
def Q7_2 (Z : State) (a : Addr) (w : Addr) (q : Int32) (kc : ClassId) (n : Int32) (t : Addr) (h0 : Heap) (n0 : Nat) (v : Option Value) (h : Heap) (L : List Loc) : Prop := v = some (.int q) ∧ Fr n0 L ∧ Keep h0 h [a] ∧ own_FD Z h a (.ref w) (q + (2 : Int32))
set_option maxRecDepth 65536 in
set_option maxHeartbeats 40000000 in
theorem rm7_2 (l : Launch) (Z : State) (a0 : Array Value) (hw : ∀ d ∈ tables_1, d.before a0 Z = true) (ws : List Jvm.Cond) (a : Addr) (w : Addr) (q : Int32) (kc : ClassId) (n : Int32) (t : Addr) (h0 : Heap) (n0 : Nat) (Z0 : n0 ≤ h0.size) (f_O_a : own_FD Z h0 a (.ref w) q) (f_V_w : Arv Z h0 w kc .byte n [] (.int (0 : Int32))) (ge_a : n0 ≤ a) (hqn : 0 ≤ q.toInt ∧ q.toInt + 2 ≤ n.toInt ∧ n.toInt ≤ 7) :
    MetFree l (⟨"com/example/hermod/hermod/xrap/FrameReader", "claim", "(JLjava/lang/String;)I"⟩ : MethodName) (head1 (Jvm.Cond.code (⟨"com/example/hermod/hermod/xrap/FrameReader", "claim", "(JLjava/lang/String;)I"⟩ : MethodName) prog_14_method_13_code 5 (some .int) :: ws) ({ frames := 0, cells := 0, slots := 0, locals := 0 } : Room)) (fun aa U => aa = #[(.ref a), (.long (2 : Int64)), (.ref t)] ∧ Z.Warmed39 U.vm ∧ U.heap = h0) (fun _ _ _ _ _ => True) (fun _ U oc U' => ∃ v L, oc = .returned v ∧ Q7_2 Z a w q kc n t h0 n0 v U'.heap L ∧ FrameEnd U oc U' L ({ frames := 0, cells := 0, slots := 0, locals := 0 } : Room).cells ({ frames := 0, cells := 0, slots := 0, locals := 0 } : Room).slots) := by
  refine MetFree.of_bodySF (plainFor_of_name own_pn2) hisR ?_
  intro p e s m args below meth c s₁ Bd hml0 hP hK
  obtain ⟨rfl, hZ, hh⟩ := hP
  have hx := Bd.exec
  have hby := Bd.bytes
  have hlk := Bd.notSynchronized
  have hret := Bd.returns
  have hml : c.maxLocals = 5 := hml0
  have hown : s.vm.findClass "com/example/hermod/hermod/xrap/FrameReader" = some m.cls := findClass_of_methodNamed Bd.named
  have hnm := (name_of_methodNamed Bd.named Bd.method).1
  have X0 : Stand p l e ({ frames := 0, cells := 0, slots := 0, locals := 0 } : Room) s m #[(.ref a), (.long (2 : Int64)), (.ref t)] below meth c s₁ [] 0 0 := Stand.of_body Bd
  have e0 : s₁.heap = h0 := by rw [← hh, Bd.state]; rfl
  have N0 := Fr.nil n0
  refine own_body (Q := Q7_2 Z a w q kc n t h0 n0) (KC := ({ frames := 0, cells := 0, slots := 0, locals := 0 } : Room).cells) (KS := ({ frames := 0, cells := 0, slots := 0, locals := 0 } : Room).slots) ?_
  rw [own_ef_rm7_2 m a t]
  have Kp : Keep h0 h0 [a] := Keep.refl h0 _
  refine own_aloadN X0 hx hby d7_0 (pc' := 1) rfl rfl rfl ?_
  obtain ⟨f_E_a, f_F_a_frame, f_F_a_position⟩ := f_O_a
  refine own_getF X0 hx hZ hby hown (host := "") (Or.inl (wd_31 hw)) Via.refl e0 f_F_a_position d7_1 (pc' := 4) rfl (fun T1 X1 e1 => ?_)
  refine own_istore X1 hx hby d7_4 (pc' := 6) rfl (l' := #[.val (.ref a), .val (.long (2 : Int64)), .second, .val (.ref t), .val (.int q)]) rfl ?_
  refine own_lloadN X1 hx hby d7_6 (pc' := 7) rfl rfl ?_
  refine own_aloadN X1 hx hby d7_7 (pc' := 8) rfl rfl rfl ?_
  refine own_getF X1 hx hZ hby hown (host := "") (Or.inl (wd_24 hw)) Via.refl e1 f_F_a_frame d7_8 (pc' := 11) rfl (fun T2 X2 e2 => ?_)
  obtain ⟨cl3, Ar3, q3, S3, M3, H3, G3⟩ := id f_V_w
  refine own_alen X2 hx hZ hby e2 Ar3 S3 M3 d7_11 (pc' := 12) rfl ?_
  refine own_iload X2 hx hby d7_12 (pc' := 14) rfl rfl ?_
  refine own_isub X2 hx hby d7_14 (pc' := 15) rfl ?_
  refine own_i2l X2 hx hby d7_15 (pc' := 16) rfl ?_
  refine own_lcmp X2 hx hby d7_16 (pc' := 17) rfl ?_
  refine own_ifY X2 hx hby d7_17 (pc' := 42) (by decide) (by decide) (own_ctL_y (show ¬ ((n - q).toInt64) < (2 : Int64) from (own_C2 q n hqn))) ?_
  refine own_aloadN X2 hx hby d7_42 (pc' := 43) rfl rfl rfl ?_
  refine own_iload X2 hx hby d7_43 (pc' := 45) rfl rfl ?_
  refine own_lloadN X2 hx hby d7_45 (pc' := 46) rfl rfl ?_
  refine own_l2i X2 hx hby d7_46 (pc' := 47) rfl ?_
  refine own_iadd X2 hx hby d7_47 (pc' := 48) rfl ?_
  have ne_w_a : w ≠ a := Ne.symm (Exa.neArv f_E_a f_V_w (wd_2 hw))
  refine own_putF X2 hx hZ hby hown (host := "") (Or.inl (wd_31 hw)) Via.refl e2 f_F_a_position f_E_a (Or.inl (wd_32 hw)) (wd_2 hw) (ty := .int) (by decide) rfl rfl d7_48 (pc' := 51) rfl (fun T4 h4 X4 e4 W4 => ?_)
  have f_F_a_position := f_F_a_position.same W4
  have f_V_w := f_V_w.other W4 ne_w_a
  have f_E_a := f_E_a.wr W4
  have f_F_a_frame := f_F_a_frame.other W4 (Or.inr (slot_ne (Or.inr (wd_25 hw)) (Or.inl (wd_32 hw)) (by decide) (t := (.array .byte)) (t' := .int) (by decide) (by decide)))
  have Zn := Nat.le_trans Z0 (Keep.of_wr W4).1
  have Kp := Kp.wr W4 (Or.inl (List.mem_of_getElem? (i := 0) rfl))
  have N4 := Fr.snoc X4 N0 ge_a
  refine own_iload X4 hx hby d7_51 (pc' := 53) rfl rfl ?_
  refine own_ireturn X4 hx hlk hby hret d7_53 (own_lv ?_ (by decide) (by decide))
  show Q7_2 Z a w q kc n t  h0 n0 (some (.int q)) T4.heap _
  rw [e4]
  exact ⟨rfl, N4, Kp, ⟨f_E_a, f_F_a_frame, f_F_a_position⟩⟩
theorem own_ef_rm6_2 (m : MethodId) (a : Addr) (t : Addr)  : entryFrame m #[(.ref a), (.int (2 : Int32)), (.ref t)] 7 = mkF m 0 #[.val (.ref a), .val (.int (2 : Int32)), .val (.ref t), .unset, .unset, .unset, .unset] [] := by first | (simp [entryFrame, mkF, argsToLocals, Value.category]; done) | rfl
def Q6_2 (Z : State) (a : Addr) (w : Addr) (q : Int32) (kc : ClassId) (n : Int32) (t : Addr) (h0 : Heap) (n0 : Nat) (v : Option Value) (h : Heap) (L : List Loc) : Prop := ∃ z : Int64, v = some (.long z) ∧ Fr n0 L ∧ Keep h0 h [a] ∧ own_FD Z h a (.ref w) (q + (2 : Int32))
set_option maxRecDepth 65536 in
set_option maxHeartbeats 40000000 in
theorem rm6_2 (l : Launch) (Z : State) (a0 : Array Value) (hw : ∀ d ∈ tables_1, d.before a0 Z = true) (ws : List Jvm.Cond) (a : Addr) (w : Addr) (q : Int32) (kc : ClassId) (n : Int32) (t : Addr) (h0 : Heap) (n0 : Nat) (Z0 : n0 ≤ h0.size) (f_O_a : own_FD Z h0 a (.ref w) q) (f_V_w : Arv Z h0 w kc .byte n [] (.int (0 : Int32))) (ge_a : n0 ≤ a) (hqn : 0 ≤ q.toInt ∧ q.toInt + 2 ≤ n.toInt ∧ n.toInt ≤ 7) :
    MetFree l (⟨"com/example/hermod/hermod/xrap/FrameReader", "readNumber", "(ILjava/lang/String;)J"⟩ : MethodName) (head1 (Jvm.Cond.code (⟨"com/example/hermod/hermod/xrap/FrameReader", "readNumber", "(ILjava/lang/String;)J"⟩ : MethodName) prog_14_method_11_code 7 (some .long) :: ws) ({ frames := 1, cells := 0, slots := 0, locals := 16 } : Room)) (fun aa U => aa = #[(.ref a), (.int (2 : Int32)), (.ref t)] ∧ Z.Warmed39 U.vm ∧ U.heap = h0) (fun _ _ _ _ _ => True) (fun _ U oc U' => ∃ v L, oc = .returned v ∧ Q6_2 Z a w q kc n t h0 n0 v U'.heap L ∧ FrameEnd U oc U' L ({ frames := 1, cells := 0, slots := 0, locals := 16 } : Room).cells ({ frames := 1, cells := 0, slots := 0, locals := 16 } : Room).slots) := by
  refine MetFree.of_bodySF (plainFor_of_name own_pn2) hisR ?_
  intro p e s m args below meth c s₁ Bd hml0 hP hK
  obtain ⟨rfl, hZ, hh⟩ := hP
  have hx := Bd.exec
  have hby := Bd.bytes
  have hlk := Bd.notSynchronized
  have hret := Bd.returns
  have hml : c.maxLocals = 7 := hml0
  have hown : s.vm.findClass "com/example/hermod/hermod/xrap/FrameReader" = some m.cls := findClass_of_methodNamed Bd.named
  have hnm := (name_of_methodNamed Bd.named Bd.method).1
  have X0 : Stand p l e ({ frames := 1, cells := 0, slots := 0, locals := 16 } : Room) s m #[(.ref a), (.int (2 : Int32)), (.ref t)] below meth c s₁ [] 0 0 := Stand.of_body Bd
  have e0 : s₁.heap = h0 := by rw [← hh, Bd.state]; rfl
  have N0 := Fr.nil n0
  refine own_body (Q := Q6_2 Z a w q kc n t h0 n0) (KC := ({ frames := 1, cells := 0, slots := 0, locals := 16 } : Room).cells) (KS := ({ frames := 1, cells := 0, slots := 0, locals := 16 } : Room).slots) ?_
  rw [own_ef_rm6_2 m a t]
  have Kp : Keep h0 h0 [a] := Keep.refl h0 _
  refine own_aloadN X0 hx hby d6_0 (pc' := 1) rfl rfl rfl ?_
  refine own_iloadN X0 hx hby d6_1 (pc' := 2) rfl rfl ?_
  refine own_i2l X0 hx hby d6_2 (pc' := 3) rfl ?_
  show own_End p e below _ (s₁.setTop (mkF m 3 #[.val (.ref a), .val (.int (2 : Int32)), .val (.ref t), .unset, .unset, .unset, .unset] [(.long (2 : Int64)), (.ref a)]))
  refine own_aloadN X0 hx hby d6_3 (pc' := 4) rfl rfl rfl ?_
  have ne_w_a : w ≠ a := Ne.symm (Exa.neArv f_O_a.1 f_V_w (wd_2 hw))
  refine own_lk1 hw X0 hx hZ hby (by rw [hml]; rfl) hown d6_4 (pc' := 7) rfl e0 f_O_a.1 (W := 0) (Nat.le_of_eq rfl) (rm7_2 l Z a0 hw [] a w q kc n t h0 n0 Z0 f_O_a f_V_w ge_a hqn) (by decide) (by decide) (by decide) (by decide) (fun v1 T1 L1 X1 hQ1 => ?_)
  obtain ⟨rfl, Nq1, K1, O1⟩ := hQ1
  have N1 := Fr.app N0 Nq1
  have f_V_w := f_V_w.keep K1 (ninS ne_w_a nin0)
  have Zn := Nat.le_trans Z0 K1.1
  have Kp := Kp.trans K1 (allS (Or.inl (List.mem_of_getElem? (i := 0) rfl)) all0)
  show own_End p e below _ (T1.setTop (mkF m 7 _ [(.int q)]))
  refine own_istoreN X1 hx hby d6_7 (pc' := 8) rfl (l' := #[.val (.ref a), .val (.int (2 : Int32)), .val (.ref t), .val (.int q), .unset, .unset, .unset]) rfl ?_
  refine own_lconst X1 hx hby d6_8 (pc' := 9) rfl (n := (0 : Int64)) (by decide) ?_
  refine own_lstore X1 hx hby d6_9 (pc' := 11) rfl (l' := #[.val (.ref a), .val (.int (2 : Int32)), .val (.ref t), .val (.int q), .val (.long (0 : Int64)), .second, .unset]) rfl ?_
  refine own_iloadN X1 hx hby d6_11 (pc' := 12) rfl rfl ?_
  refine own_istore X1 hx hby d6_12 (pc' := 14) rfl (l' := #[.val (.ref a), .val (.int (2 : Int32)), .val (.ref t), .val (.int q), .val (.long (0 : Int64)), .second, .val (.int q)]) rfl ?_
  refine own_iload X1 hx hby d6_14 (pc' := 16) rfl rfl ?_
  refine own_aloadN X1 hx hby d6_16 (pc' := 17) rfl rfl rfl ?_
  obtain ⟨f_E_a, f_F_a_frame, f_F_a_position⟩ := O1
  refine own_getF X1 hx hZ hby hown (host := "") (Or.inl (wd_31 hw)) Via.refl rfl f_F_a_position d6_17 (pc' := 20) rfl (fun T2 X2 e2 => ?_)
  refine own_icN X2 hx hby d6_20 (pc' := 23) rfl (show q < (q + (2 : Int32)) from (own_L2_0 q n hqn)) ?_
  refine own_lload X2 hx hby d6_23 (pc' := 25) rfl rfl ?_
  refine own_bipush X2 hx hby d6_25 (pc' := 27) rfl (n := (8 : Int32)) (by decide) ?_
  refine own_lshl X2 hx hby d6_27 (pc' := 28) rfl ?_
  refine own_aloadN X2 hx hby d6_28 (pc' := 29) rfl rfl rfl ?_
  refine own_getF X2 hx hZ hby hown (host := "") (Or.inl (wd_24 hw)) Via.refl e2 f_F_a_frame d6_29 (pc' := 32) rfl (fun T3 X3 e3 => ?_)
  refine own_iload X3 hx hby d6_32 (pc' := 34) rfl rfl ?_
  obtain ⟨cl4, Ar4, q4, S4, M4, H4, G4⟩ := id f_V_w
  have hin4 : ¬ (q < 0 ∨ cl4.slots.size ≤ (q).toNatClampNeg) := inb_of S4 (own_B2_0 q n hqn)
  have hat4 : cl4.slots[(q).toNatClampNeg]? = some (.int (0 : Int32)) := H4.at hin4 rfl
  refine own_baload X3 hx hZ hby e3 Ar4 hin4 hat4 d6_34 (pc' := 35) rfl ?_
  refine own_sipush X3 hx hby d6_35 (pc' := 38) rfl (n := (255 : Int32)) (by decide) ?_
  refine own_iand X3 hx hby d6_38 (pc' := 39) rfl ?_
  refine own_i2l X3 hx hby d6_39 (pc' := 40) rfl ?_
  refine own_lor X3 hx hby d6_40 (pc' := 41) rfl ?_
  refine own_lstore X3 hx hby d6_41 (pc' := 43) rfl (l' := #[.val (.ref a), .val (.int (2 : Int32)), .val (.ref t), .val (.int q), .val (.long (((0 : Int64) <<< ((8 : Int32) &&& 0x3f).toInt64) ||| (((0 : Int32) &&& (255 : Int32)).toInt64))), .second, .val (.int q)]) rfl ?_
  refine own_iinc X3 hx hby d6_43 (pc' := 46) rfl rfl (y := (q + (1 : Int32))) rfl (l' := #[.val (.ref a), .val (.int (2 : Int32)), .val (.ref t), .val (.int q), .val (.long (((0 : Int64) <<< ((8 : Int32) &&& 0x3f).toInt64) ||| (((0 : Int32) &&& (255 : Int32)).toInt64))), .second, .val (.int (q + (1 : Int32)))]) rfl ?_
  refine own_goto X3 hx hby d6_46 (pc' := 14) (by decide) (by decide) ?_
  refine own_iload X3 hx hby d6_14 (pc' := 16) rfl rfl ?_
  refine own_aloadN X3 hx hby d6_16 (pc' := 17) rfl rfl rfl ?_
  refine own_getF X3 hx hZ hby hown (host := "") (Or.inl (wd_31 hw)) Via.refl e3 f_F_a_position d6_17 (pc' := 20) rfl (fun T5 X5 e5 => ?_)
  refine own_icN X5 hx hby d6_20 (pc' := 23) rfl (show (q + (1 : Int32)) < (q + (2 : Int32)) from (own_L2_1 q n hqn)) ?_
  refine own_lload X5 hx hby d6_23 (pc' := 25) rfl rfl ?_
  refine own_bipush X5 hx hby d6_25 (pc' := 27) rfl (n := (8 : Int32)) (by decide) ?_
  refine own_lshl X5 hx hby d6_27 (pc' := 28) rfl ?_
  refine own_aloadN X5 hx hby d6_28 (pc' := 29) rfl rfl rfl ?_
  refine own_getF X5 hx hZ hby hown (host := "") (Or.inl (wd_24 hw)) Via.refl e5 f_F_a_frame d6_29 (pc' := 32) rfl (fun T6 X6 e6 => ?_)
  refine own_iload X6 hx hby d6_32 (pc' := 34) rfl rfl ?_
  obtain ⟨cl7, Ar7, q7, S7, M7, H7, G7⟩ := id f_V_w
  have hin7 : ¬ ((q + (1 : Int32)) < 0 ∨ cl7.slots.size ≤ ((q + (1 : Int32))).toNatClampNeg) := inb_of S7 (own_B2_1 q n hqn)
  have hat7 : cl7.slots[((q + (1 : Int32))).toNatClampNeg]? = some (.int (0 : Int32)) := H7.at hin7 rfl
  refine own_baload X6 hx hZ hby e6 Ar7 hin7 hat7 d6_34 (pc' := 35) rfl ?_
  refine own_sipush X6 hx hby d6_35 (pc' := 38) rfl (n := (255 : Int32)) (by decide) ?_
  refine own_iand X6 hx hby d6_38 (pc' := 39) rfl ?_
  refine own_i2l X6 hx hby d6_39 (pc' := 40) rfl ?_
  refine own_lor X6 hx hby d6_40 (pc' := 41) rfl ?_
  refine own_lstore X6 hx hby d6_41 (pc' := 43) rfl (l' := #[.val (.ref a), .val (.int (2 : Int32)), .val (.ref t), .val (.int q), .val (.long (((((0 : Int64) <<< ((8 : Int32) &&& 0x3f).toInt64) ||| (((0 : Int32) &&& (255 : Int32)).toInt64)) <<< ((8 : Int32) &&& 0x3f).toInt64) ||| (((0 : Int32) &&& (255 : Int32)).toInt64))), .second, .val (.int (q + (1 : Int32)))]) rfl ?_
  refine own_iinc X6 hx hby d6_43 (pc' := 46) rfl rfl (y := ((q + (1 : Int32)) + (1 : Int32))) rfl (l' := #[.val (.ref a), .val (.int (2 : Int32)), .val (.ref t), .val (.int q), .val (.long (((((0 : Int64) <<< ((8 : Int32) &&& 0x3f).toInt64) ||| (((0 : Int32) &&& (255 : Int32)).toInt64)) <<< ((8 : Int32) &&& 0x3f).toInt64) ||| (((0 : Int32) &&& (255 : Int32)).toInt64))), .second, .val (.int ((q + (1 : Int32)) + (1 : Int32)))]) rfl ?_
  refine own_goto X6 hx hby d6_46 (pc' := 14) (by decide) (by decide) ?_
  refine own_iload X6 hx hby d6_14 (pc' := 16) rfl rfl ?_
  refine own_aloadN X6 hx hby d6_16 (pc' := 17) rfl rfl rfl ?_
  refine own_getF X6 hx hZ hby hown (host := "") (Or.inl (wd_31 hw)) Via.refl e6 f_F_a_position d6_17 (pc' := 20) rfl (fun T8 X8 e8 => ?_)
  refine own_icY X8 hx hby d6_20 (pc' := 49) (by decide) (by decide) (show ¬ ((q + (1 : Int32)) + (1 : Int32)) < (q + (2 : Int32)) from (own_L2_2 q n hqn)) ?_
  refine own_lload X8 hx hby d6_49 (pc' := 51) rfl rfl ?_
  refine own_lreturn X8 hx hlk hby hret d6_51 (own_lv ?_ (by decide) (by decide))
  show Q6_2 Z a w q kc n t  h0 n0 (some (.long (((((0 : Int64) <<< ((8 : Int32) &&& 0x3f).toInt64) ||| (((0 : Int32) &&& (255 : Int32)).toInt64)) <<< ((8 : Int32) &&& 0x3f).toInt64) ||| (((0 : Int32) &&& (255 : Int32)).toInt64)))) T8.heap _
  rw [e8]
  exact ⟨_, rfl, N1, Kp, ⟨f_E_a, f_F_a_frame, f_F_a_position⟩⟩
theorem own_ef_rm8 (m : MethodId) (a : Addr)  : entryFrame m #[(.ref a)] 1 = mkF m 0 #[.val (.ref a)] [] := by first | (simp [entryFrame, mkF, argsToLocals, Value.category]; done) | rfl
def Q8 (Z : State) (a : Addr) (w : Addr) (q : Int32) (kc : ClassId) (n : Int32) (h0 : Heap) (n0 : Nat) (v : Option Value) (h : Heap) (L : List Loc) : Prop := ∃ z : Int32, v = some (.int z) ∧ Fr n0 L ∧ Keep h0 h [a] ∧ own_FD Z h a (.ref w) (q + (2 : Int32))
set_option maxRecDepth 65536 in
set_option maxHeartbeats 40000000 in
theorem rm8 (l : Launch) (Z : State) (a0 : Array Value) (hw : ∀ d ∈ tables_1, d.before a0 Z = true) (ws : List Jvm.Cond) (a : Addr) (w : Addr) (q : Int32) (kc : ClassId) (n : Int32) (h0 : Heap) (n0 : Nat) (Z0 : n0 ≤ h0.size) (f_O_a : own_FD Z h0 a (.ref w) q) (f_V_w : Arv Z h0 w kc .byte n [] (.int (0 : Int32))) (ge_a : n0 ≤ a) (hqn : 0 ≤ q.toInt ∧ q.toInt + 2 ≤ n.toInt ∧ n.toInt ≤ 7) :
    MetFree l (⟨"com/example/hermod/hermod/xrap/FrameReader", "readNumber2", "()I"⟩ : MethodName) (head1 (Jvm.Cond.code (⟨"com/example/hermod/hermod/xrap/FrameReader", "readNumber2", "()I"⟩ : MethodName) prog_14_method_3_code 1 (some .int) :: ws) ({ frames := 2, cells := 2, slots := 32, locals := 34 } : Room)) (fun aa U => aa = #[(.ref a)] ∧ Z.Warmed39 U.vm ∧ U.heap = h0) (fun _ _ _ _ _ => True) (fun _ U oc U' => ∃ v L, oc = .returned v ∧ Q8 Z a w q kc n h0 n0 v U'.heap L ∧ ReturnedEndW U oc U' L ({ frames := 2, cells := 2, slots := 32, locals := 34 } : Room).cells ({ frames := 2, cells := 2, slots := 32, locals := 34 } : Room).slots) := by
  refine MetFree.of_bodySF (plainFor_of_name own_pn2) hisR ?_
  intro p e s m args below meth c s₁ Bd hml0 hP hK
  obtain ⟨rfl, hZ, hh⟩ := hP
  have hx := Bd.exec
  have hby := Bd.bytes
  have hlk := Bd.notSynchronized
  have hret := Bd.returns
  have hml : c.maxLocals = 1 := hml0
  have hown : s.vm.findClass "com/example/hermod/hermod/xrap/FrameReader" = some m.cls := findClass_of_methodNamed Bd.named
  have hnm := (name_of_methodNamed Bd.named Bd.method).1
  have X0 : Stand p l e ({ frames := 2, cells := 2, slots := 32, locals := 34 } : Room) s m #[(.ref a)] below meth c s₁ [] 0 0 := Stand.of_body Bd
  have e0 : s₁.heap = h0 := by rw [← hh, Bd.state]; rfl
  have N0 := Fr.nil n0
  refine own_bodyS (Q := Q8 Z a w q kc n h0 n0) (KC := ({ frames := 2, cells := 2, slots := 32, locals := 34 } : Room).cells) (KS := ({ frames := 2, cells := 2, slots := 32, locals := 34 } : Room).slots) ?_
  rw [own_ef_rm8 m a]
  have X0 : Stand p l e ({ frames := 2, cells := 2, slots := 32, locals := 34 } : Room) (s.setVm s.vm) m #[(.ref a)] below meth c s₁ [] 0 0 := X0
  have hS : s.Since s.vm h0.size := (State.WarmedH.refl s).since _
  have hSn : h0.size ≤ h0.size := Nat.le_refl _
  have Kp : Keep h0 h0 [a] := Keep.refl h0 _
  refine own_aloadN X0 hx hby d8_0 (pc' := 1) rfl rfl rfl ?_
  refine own_iconst X0 hx hby d8_1 (pc' := 2) rfl (n := (2 : Int32)) (by decide) ?_
  obtain ⟨a1, T1, h1, k1, X1, e1, E1, hS, hSn, hZ, hown, st1⟩ := ldcS X0 hx hZ hown (wd_52 hw) (own_wS hw) e0 hS hSn (g := (mkF m 2 #[.val (.ref a)] [(.int (2 : Int32)), (.ref a)])) rfl (hb hby d8_2) (n := 28) (by decide) (by decide) (by decide) (by decide)
  refine own_step st1 ?_
  have f_O_a := f_O_a.ext E1
  have f_V_w := f_V_w.ext E1
  have Zn := Nat.le_trans Z0 E1.1
  have Kp := Kp.ext E1
  show own_End p e below _ (T1.setTop (mkF m 4 #[.val (.ref a)] [(.ref a1), (.int (2 : Int32)), (.ref a)]))
  have ne_w_a : w ≠ a := Ne.symm (Exa.neArv f_O_a.1 f_V_w (wd_2 hw))
  refine own_lk2 hw X1 hx hZ hby (by rw [hml]; rfl) hown d8_4 (pc' := 7) rfl e1 f_O_a.1 (W := 0) (Nat.le_of_eq rfl) (rm6_2 l Z a0 hw [] a w q kc n a1 h1 n0 Zn f_O_a f_V_w ge_a hqn) (by decide) (by decide) (by decide) (by decide) (fun v3 T3 L3 X3 hQ3 => ?_)
  obtain ⟨z2, rfl, Nq3, K3, O3⟩ := hQ3
  have N3 := Fr.app N0 Nq3
  have f_V_w := f_V_w.keep K3 (ninS ne_w_a nin0)
  have Zn := Nat.le_trans Zn K3.1
  have hSn := Nat.le_trans hSn K3.1
  have Kp := Kp.trans K3 (allS (Or.inl (List.mem_of_getElem? (i := 0) rfl)) all0)
  show own_End p e below _ (T3.setTop (mkF m 7 _ [(.long z2)]))
  refine own_l2i X3 hx hby d8_7 (pc' := 8) rfl ?_
  refine own_ireturn X3 hx hlk hby hret d8_8 (own_lvS hS hSn ?_ (by decide) (by decide))
  show Q8 Z a w q kc n  h0 n0 (some (.int (z2.toInt32))) T3.heap _
  exact ⟨_, rfl, N3, Kp, O3⟩
theorem own_ef_rm7_4 (m : MethodId) (a : Addr) (t : Addr)  : entryFrame m #[(.ref a), (.long (4 : Int64)), (.ref t)] 5 = mkF m 0 #[.val (.ref a), .val (.long (4 : Int64)), .second, .val (.ref t), .unset] [] := by first | (simp [entryFrame, mkF, argsToLocals, Value.category]; done) | rfl
def Q7_4 (Z : State) (a : Addr) (w : Addr) (q : Int32) (kc : ClassId) (n : Int32) (t : Addr) (h0 : Heap) (n0 : Nat) (v : Option Value) (h : Heap) (L : List Loc) : Prop := v = some (.int q) ∧ Fr n0 L ∧ Keep h0 h [a] ∧ own_FD Z h a (.ref w) (q + (4 : Int32))
set_option maxRecDepth 65536 in
set_option maxHeartbeats 40000000 in
theorem rm7_4 (l : Launch) (Z : State) (a0 : Array Value) (hw : ∀ d ∈ tables_1, d.before a0 Z = true) (ws : List Jvm.Cond) (a : Addr) (w : Addr) (q : Int32) (kc : ClassId) (n : Int32) (t : Addr) (h0 : Heap) (n0 : Nat) (Z0 : n0 ≤ h0.size) (f_O_a : own_FD Z h0 a (.ref w) q) (f_V_w : Arv Z h0 w kc .byte n [] (.int (0 : Int32))) (ge_a : n0 ≤ a) (hqn : 0 ≤ q.toInt ∧ q.toInt + 4 ≤ n.toInt ∧ n.toInt ≤ 7) :
    MetFree l (⟨"com/example/hermod/hermod/xrap/FrameReader", "claim", "(JLjava/lang/String;)I"⟩ : MethodName) (head1 (Jvm.Cond.code (⟨"com/example/hermod/hermod/xrap/FrameReader", "claim", "(JLjava/lang/String;)I"⟩ : MethodName) prog_14_method_13_code 5 (some .int) :: ws) ({ frames := 0, cells := 0, slots := 0, locals := 0 } : Room)) (fun aa U => aa = #[(.ref a), (.long (4 : Int64)), (.ref t)] ∧ Z.Warmed39 U.vm ∧ U.heap = h0) (fun _ _ _ _ _ => True) (fun _ U oc U' => ∃ v L, oc = .returned v ∧ Q7_4 Z a w q kc n t h0 n0 v U'.heap L ∧ FrameEnd U oc U' L ({ frames := 0, cells := 0, slots := 0, locals := 0 } : Room).cells ({ frames := 0, cells := 0, slots := 0, locals := 0 } : Room).slots) := by
  refine MetFree.of_bodySF (plainFor_of_name own_pn2) hisR ?_
  intro p e s m args below meth c s₁ Bd hml0 hP hK
  obtain ⟨rfl, hZ, hh⟩ := hP
  have hx := Bd.exec
  have hby := Bd.bytes
  have hlk := Bd.notSynchronized
  have hret := Bd.returns
  have hml : c.maxLocals = 5 := hml0
  have hown : s.vm.findClass "com/example/hermod/hermod/xrap/FrameReader" = some m.cls := findClass_of_methodNamed Bd.named
  have hnm := (name_of_methodNamed Bd.named Bd.method).1
  have X0 : Stand p l e ({ frames := 0, cells := 0, slots := 0, locals := 0 } : Room) s m #[(.ref a), (.long (4 : Int64)), (.ref t)] below meth c s₁ [] 0 0 := Stand.of_body Bd
  have e0 : s₁.heap = h0 := by rw [← hh, Bd.state]; rfl
  have N0 := Fr.nil n0
  refine own_body (Q := Q7_4 Z a w q kc n t h0 n0) (KC := ({ frames := 0, cells := 0, slots := 0, locals := 0 } : Room).cells) (KS := ({ frames := 0, cells := 0, slots := 0, locals := 0 } : Room).slots) ?_
  rw [own_ef_rm7_4 m a t]
  have Kp : Keep h0 h0 [a] := Keep.refl h0 _
  refine own_aloadN X0 hx hby d7_0 (pc' := 1) rfl rfl rfl ?_
  obtain ⟨f_E_a, f_F_a_frame, f_F_a_position⟩ := f_O_a
  refine own_getF X0 hx hZ hby hown (host := "") (Or.inl (wd_31 hw)) Via.refl e0 f_F_a_position d7_1 (pc' := 4) rfl (fun T1 X1 e1 => ?_)
  refine own_istore X1 hx hby d7_4 (pc' := 6) rfl (l' := #[.val (.ref a), .val (.long (4 : Int64)), .second, .val (.ref t), .val (.int q)]) rfl ?_
  refine own_lloadN X1 hx hby d7_6 (pc' := 7) rfl rfl ?_
  refine own_aloadN X1 hx hby d7_7 (pc' := 8) rfl rfl rfl ?_
  refine own_getF X1 hx hZ hby hown (host := "") (Or.inl (wd_24 hw)) Via.refl e1 f_F_a_frame d7_8 (pc' := 11) rfl (fun T2 X2 e2 => ?_)
  obtain ⟨cl3, Ar3, q3, S3, M3, H3, G3⟩ := id f_V_w
  refine own_alen X2 hx hZ hby e2 Ar3 S3 M3 d7_11 (pc' := 12) rfl ?_
  refine own_iload X2 hx hby d7_12 (pc' := 14) rfl rfl ?_
  refine own_isub X2 hx hby d7_14 (pc' := 15) rfl ?_
  refine own_i2l X2 hx hby d7_15 (pc' := 16) rfl ?_
  refine own_lcmp X2 hx hby d7_16 (pc' := 17) rfl ?_
  refine own_ifY X2 hx hby d7_17 (pc' := 42) (by decide) (by decide) (own_ctL_y (show ¬ ((n - q).toInt64) < (4 : Int64) from (own_C4 q n hqn))) ?_
  refine own_aloadN X2 hx hby d7_42 (pc' := 43) rfl rfl rfl ?_
  refine own_iload X2 hx hby d7_43 (pc' := 45) rfl rfl ?_
  refine own_lloadN X2 hx hby d7_45 (pc' := 46) rfl rfl ?_
  refine own_l2i X2 hx hby d7_46 (pc' := 47) rfl ?_
  refine own_iadd X2 hx hby d7_47 (pc' := 48) rfl ?_
  have ne_w_a : w ≠ a := Ne.symm (Exa.neArv f_E_a f_V_w (wd_2 hw))
  refine own_putF X2 hx hZ hby hown (host := "") (Or.inl (wd_31 hw)) Via.refl e2 f_F_a_position f_E_a (Or.inl (wd_32 hw)) (wd_2 hw) (ty := .int) (by decide) rfl rfl d7_48 (pc' := 51) rfl (fun T4 h4 X4 e4 W4 => ?_)
  have f_F_a_position := f_F_a_position.same W4
  have f_V_w := f_V_w.other W4 ne_w_a
  have f_E_a := f_E_a.wr W4
  have f_F_a_frame := f_F_a_frame.other W4 (Or.inr (slot_ne (Or.inr (wd_25 hw)) (Or.inl (wd_32 hw)) (by decide) (t := (.array .byte)) (t' := .int) (by decide) (by decide)))
  have Zn := Nat.le_trans Z0 (Keep.of_wr W4).1
  have Kp := Kp.wr W4 (Or.inl (List.mem_of_getElem? (i := 0) rfl))
  have N4 := Fr.snoc X4 N0 ge_a
  refine own_iload X4 hx hby d7_51 (pc' := 53) rfl rfl ?_
  refine own_ireturn X4 hx hlk hby hret d7_53 (own_lv ?_ (by decide) (by decide))
  show Q7_4 Z a w q kc n t  h0 n0 (some (.int q)) T4.heap _
  rw [e4]
  exact ⟨rfl, N4, Kp, ⟨f_E_a, f_F_a_frame, f_F_a_position⟩⟩
theorem own_ef_rm6_4 (m : MethodId) (a : Addr) (t : Addr)  : entryFrame m #[(.ref a), (.int (4 : Int32)), (.ref t)] 7 = mkF m 0 #[.val (.ref a), .val (.int (4 : Int32)), .val (.ref t), .unset, .unset, .unset, .unset] [] := by first | (simp [entryFrame, mkF, argsToLocals, Value.category]; done) | rfl
def Q6_4 (Z : State) (a : Addr) (w : Addr) (q : Int32) (kc : ClassId) (n : Int32) (t : Addr) (h0 : Heap) (n0 : Nat) (v : Option Value) (h : Heap) (L : List Loc) : Prop := ∃ z : Int64, v = some (.long z) ∧ Fr n0 L ∧ Keep h0 h [a] ∧ own_FD Z h a (.ref w) (q + (4 : Int32))
set_option maxRecDepth 65536 in
set_option maxHeartbeats 40000000 in
theorem rm6_4 (l : Launch) (Z : State) (a0 : Array Value) (hw : ∀ d ∈ tables_1, d.before a0 Z = true) (ws : List Jvm.Cond) (a : Addr) (w : Addr) (q : Int32) (kc : ClassId) (n : Int32) (t : Addr) (h0 : Heap) (n0 : Nat) (Z0 : n0 ≤ h0.size) (f_O_a : own_FD Z h0 a (.ref w) q) (f_V_w : Arv Z h0 w kc .byte n [] (.int (0 : Int32))) (ge_a : n0 ≤ a) (hqn : 0 ≤ q.toInt ∧ q.toInt + 4 ≤ n.toInt ∧ n.toInt ≤ 7) :
    MetFree l (⟨"com/example/hermod/hermod/xrap/FrameReader", "readNumber", "(ILjava/lang/String;)J"⟩ : MethodName) (head1 (Jvm.Cond.code (⟨"com/example/hermod/hermod/xrap/FrameReader", "readNumber", "(ILjava/lang/String;)J"⟩ : MethodName) prog_14_method_11_code 7 (some .long) :: ws) ({ frames := 1, cells := 0, slots := 0, locals := 16 } : Room)) (fun aa U => aa = #[(.ref a), (.int (4 : Int32)), (.ref t)] ∧ Z.Warmed39 U.vm ∧ U.heap = h0) (fun _ _ _ _ _ => True) (fun _ U oc U' => ∃ v L, oc = .returned v ∧ Q6_4 Z a w q kc n t h0 n0 v U'.heap L ∧ FrameEnd U oc U' L ({ frames := 1, cells := 0, slots := 0, locals := 16 } : Room).cells ({ frames := 1, cells := 0, slots := 0, locals := 16 } : Room).slots) := by
  refine MetFree.of_bodySF (plainFor_of_name own_pn2) hisR ?_
  intro p e s m args below meth c s₁ Bd hml0 hP hK
  obtain ⟨rfl, hZ, hh⟩ := hP
  have hx := Bd.exec
  have hby := Bd.bytes
  have hlk := Bd.notSynchronized
  have hret := Bd.returns
  have hml : c.maxLocals = 7 := hml0
  have hown : s.vm.findClass "com/example/hermod/hermod/xrap/FrameReader" = some m.cls := findClass_of_methodNamed Bd.named
  have hnm := (name_of_methodNamed Bd.named Bd.method).1
  have X0 : Stand p l e ({ frames := 1, cells := 0, slots := 0, locals := 16 } : Room) s m #[(.ref a), (.int (4 : Int32)), (.ref t)] below meth c s₁ [] 0 0 := Stand.of_body Bd
  have e0 : s₁.heap = h0 := by rw [← hh, Bd.state]; rfl
  have N0 := Fr.nil n0
  refine own_body (Q := Q6_4 Z a w q kc n t h0 n0) (KC := ({ frames := 1, cells := 0, slots := 0, locals := 16 } : Room).cells) (KS := ({ frames := 1, cells := 0, slots := 0, locals := 16 } : Room).slots) ?_
  rw [own_ef_rm6_4 m a t]
  have Kp : Keep h0 h0 [a] := Keep.refl h0 _
  refine own_aloadN X0 hx hby d6_0 (pc' := 1) rfl rfl rfl ?_
  refine own_iloadN X0 hx hby d6_1 (pc' := 2) rfl rfl ?_
  refine own_i2l X0 hx hby d6_2 (pc' := 3) rfl ?_
  show own_End p e below _ (s₁.setTop (mkF m 3 #[.val (.ref a), .val (.int (4 : Int32)), .val (.ref t), .unset, .unset, .unset, .unset] [(.long (4 : Int64)), (.ref a)]))
  refine own_aloadN X0 hx hby d6_3 (pc' := 4) rfl rfl rfl ?_
  have ne_w_a : w ≠ a := Ne.symm (Exa.neArv f_O_a.1 f_V_w (wd_2 hw))
  refine own_lk1 hw X0 hx hZ hby (by rw [hml]; rfl) hown d6_4 (pc' := 7) rfl e0 f_O_a.1 (W := 0) (Nat.le_of_eq rfl) (rm7_4 l Z a0 hw [] a w q kc n t h0 n0 Z0 f_O_a f_V_w ge_a hqn) (by decide) (by decide) (by decide) (by decide) (fun v1 T1 L1 X1 hQ1 => ?_)
  obtain ⟨rfl, Nq1, K1, O1⟩ := hQ1
  have N1 := Fr.app N0 Nq1
  have f_V_w := f_V_w.keep K1 (ninS ne_w_a nin0)
  have Zn := Nat.le_trans Z0 K1.1
  have Kp := Kp.trans K1 (allS (Or.inl (List.mem_of_getElem? (i := 0) rfl)) all0)
  show own_End p e below _ (T1.setTop (mkF m 7 _ [(.int q)]))
  refine own_istoreN X1 hx hby d6_7 (pc' := 8) rfl (l' := #[.val (.ref a), .val (.int (4 : Int32)), .val (.ref t), .val (.int q), .unset, .unset, .unset]) rfl ?_
  refine own_lconst X1 hx hby d6_8 (pc' := 9) rfl (n := (0 : Int64)) (by decide) ?_
  refine own_lstore X1 hx hby d6_9 (pc' := 11) rfl (l' := #[.val (.ref a), .val (.int (4 : Int32)), .val (.ref t), .val (.int q), .val (.long (0 : Int64)), .second, .unset]) rfl ?_
  refine own_iloadN X1 hx hby d6_11 (pc' := 12) rfl rfl ?_
  refine own_istore X1 hx hby d6_12 (pc' := 14) rfl (l' := #[.val (.ref a), .val (.int (4 : Int32)), .val (.ref t), .val (.int q), .val (.long (0 : Int64)), .second, .val (.int q)]) rfl ?_
  refine own_iload X1 hx hby d6_14 (pc' := 16) rfl rfl ?_
  refine own_aloadN X1 hx hby d6_16 (pc' := 17) rfl rfl rfl ?_
  obtain ⟨f_E_a, f_F_a_frame, f_F_a_position⟩ := O1
  refine own_getF X1 hx hZ hby hown (host := "") (Or.inl (wd_31 hw)) Via.refl rfl f_F_a_position d6_17 (pc' := 20) rfl (fun T2 X2 e2 => ?_)
  refine own_icN X2 hx hby d6_20 (pc' := 23) rfl (show q < (q + (4 : Int32)) from (own_L4_0 q n hqn)) ?_
  refine own_lload X2 hx hby d6_23 (pc' := 25) rfl rfl ?_
  refine own_bipush X2 hx hby d6_25 (pc' := 27) rfl (n := (8 : Int32)) (by decide) ?_
  refine own_lshl X2 hx hby d6_27 (pc' := 28) rfl ?_
  refine own_aloadN X2 hx hby d6_28 (pc' := 29) rfl rfl rfl ?_
  refine own_getF X2 hx hZ hby hown (host := "") (Or.inl (wd_24 hw)) Via.refl e2 f_F_a_frame d6_29 (pc' := 32) rfl (fun T3 X3 e3 => ?_)
  refine own_iload X3 hx hby d6_32 (pc' := 34) rfl rfl ?_
  obtain ⟨cl4, Ar4, q4, S4, M4, H4, G4⟩ := id f_V_w
  have hin4 : ¬ (q < 0 ∨ cl4.slots.size ≤ (q).toNatClampNeg) := inb_of S4 (own_B4_0 q n hqn)
  have hat4 : cl4.slots[(q).toNatClampNeg]? = some (.int (0 : Int32)) := H4.at hin4 rfl
  refine own_baload X3 hx hZ hby e3 Ar4 hin4 hat4 d6_34 (pc' := 35) rfl ?_
  refine own_sipush X3 hx hby d6_35 (pc' := 38) rfl (n := (255 : Int32)) (by decide) ?_
  refine own_iand X3 hx hby d6_38 (pc' := 39) rfl ?_
  refine own_i2l X3 hx hby d6_39 (pc' := 40) rfl ?_
  refine own_lor X3 hx hby d6_40 (pc' := 41) rfl ?_
  refine own_lstore X3 hx hby d6_41 (pc' := 43) rfl (l' := #[.val (.ref a), .val (.int (4 : Int32)), .val (.ref t), .val (.int q), .val (.long (((0 : Int64) <<< ((8 : Int32) &&& 0x3f).toInt64) ||| (((0 : Int32) &&& (255 : Int32)).toInt64))), .second, .val (.int q)]) rfl ?_
  refine own_iinc X3 hx hby d6_43 (pc' := 46) rfl rfl (y := (q + (1 : Int32))) rfl (l' := #[.val (.ref a), .val (.int (4 : Int32)), .val (.ref t), .val (.int q), .val (.long (((0 : Int64) <<< ((8 : Int32) &&& 0x3f).toInt64) ||| (((0 : Int32) &&& (255 : Int32)).toInt64))), .second, .val (.int (q + (1 : Int32)))]) rfl ?_
  refine own_goto X3 hx hby d6_46 (pc' := 14) (by decide) (by decide) ?_
  refine own_iload X3 hx hby d6_14 (pc' := 16) rfl rfl ?_
  refine own_aloadN X3 hx hby d6_16 (pc' := 17) rfl rfl rfl ?_
  refine own_getF X3 hx hZ hby hown (host := "") (Or.inl (wd_31 hw)) Via.refl e3 f_F_a_position d6_17 (pc' := 20) rfl (fun T5 X5 e5 => ?_)
  refine own_icN X5 hx hby d6_20 (pc' := 23) rfl (show (q + (1 : Int32)) < (q + (4 : Int32)) from (own_L4_1 q n hqn)) ?_
  refine own_lload X5 hx hby d6_23 (pc' := 25) rfl rfl ?_
  refine own_bipush X5 hx hby d6_25 (pc' := 27) rfl (n := (8 : Int32)) (by decide) ?_
  refine own_lshl X5 hx hby d6_27 (pc' := 28) rfl ?_
  refine own_aloadN X5 hx hby d6_28 (pc' := 29) rfl rfl rfl ?_
  refine own_getF X5 hx hZ hby hown (host := "") (Or.inl (wd_24 hw)) Via.refl e5 f_F_a_frame d6_29 (pc' := 32) rfl (fun T6 X6 e6 => ?_)
  refine own_iload X6 hx hby d6_32 (pc' := 34) rfl rfl ?_
  obtain ⟨cl7, Ar7, q7, S7, M7, H7, G7⟩ := id f_V_w
  have hin7 : ¬ ((q + (1 : Int32)) < 0 ∨ cl7.slots.size ≤ ((q + (1 : Int32))).toNatClampNeg) := inb_of S7 (own_B4_1 q n hqn)
  have hat7 : cl7.slots[((q + (1 : Int32))).toNatClampNeg]? = some (.int (0 : Int32)) := H7.at hin7 rfl
  refine own_baload X6 hx hZ hby e6 Ar7 hin7 hat7 d6_34 (pc' := 35) rfl ?_
  refine own_sipush X6 hx hby d6_35 (pc' := 38) rfl (n := (255 : Int32)) (by decide) ?_
  refine own_iand X6 hx hby d6_38 (pc' := 39) rfl ?_
  refine own_i2l X6 hx hby d6_39 (pc' := 40) rfl ?_
  refine own_lor X6 hx hby d6_40 (pc' := 41) rfl ?_
  refine own_lstore X6 hx hby d6_41 (pc' := 43) rfl (l' := #[.val (.ref a), .val (.int (4 : Int32)), .val (.ref t), .val (.int q), .val (.long (((((0 : Int64) <<< ((8 : Int32) &&& 0x3f).toInt64) ||| (((0 : Int32) &&& (255 : Int32)).toInt64)) <<< ((8 : Int32) &&& 0x3f).toInt64) ||| (((0 : Int32) &&& (255 : Int32)).toInt64))), .second, .val (.int (q + (1 : Int32)))]) rfl ?_
  refine own_iinc X6 hx hby d6_43 (pc' := 46) rfl rfl (y := ((q + (1 : Int32)) + (1 : Int32))) rfl (l' := #[.val (.ref a), .val (.int (4 : Int32)), .val (.ref t), .val (.int q), .val (.long (((((0 : Int64) <<< ((8 : Int32) &&& 0x3f).toInt64) ||| (((0 : Int32) &&& (255 : Int32)).toInt64)) <<< ((8 : Int32) &&& 0x3f).toInt64) ||| (((0 : Int32) &&& (255 : Int32)).toInt64))), .second, .val (.int ((q + (1 : Int32)) + (1 : Int32)))]) rfl ?_
  refine own_goto X6 hx hby d6_46 (pc' := 14) (by decide) (by decide) ?_
  refine own_iload X6 hx hby d6_14 (pc' := 16) rfl rfl ?_
  refine own_aloadN X6 hx hby d6_16 (pc' := 17) rfl rfl rfl ?_
  refine own_getF X6 hx hZ hby hown (host := "") (Or.inl (wd_31 hw)) Via.refl e6 f_F_a_position d6_17 (pc' := 20) rfl (fun T8 X8 e8 => ?_)
  refine own_icN X8 hx hby d6_20 (pc' := 23) rfl (show ((q + (1 : Int32)) + (1 : Int32)) < (q + (4 : Int32)) from (own_L4_2 q n hqn)) ?_
  refine own_lload X8 hx hby d6_23 (pc' := 25) rfl rfl ?_
  refine own_bipush X8 hx hby d6_25 (pc' := 27) rfl (n := (8 : Int32)) (by decide) ?_
  refine own_lshl X8 hx hby d6_27 (pc' := 28) rfl ?_
  refine own_aloadN X8 hx hby d6_28 (pc' := 29) rfl rfl rfl ?_
  refine own_getF X8 hx hZ hby hown (host := "") (Or.inl (wd_24 hw)) Via.refl e8 f_F_a_frame d6_29 (pc' := 32) rfl (fun T9 X9 e9 => ?_)
  refine own_iload X9 hx hby d6_32 (pc' := 34) rfl rfl ?_
  obtain ⟨cl10, Ar10, q10, S10, M10, H10, G10⟩ := id f_V_w
  have hin10 : ¬ (((q + (1 : Int32)) + (1 : Int32)) < 0 ∨ cl10.slots.size ≤ (((q + (1 : Int32)) + (1 : Int32))).toNatClampNeg) := inb_of S10 (own_B4_2 q n hqn)
  have hat10 : cl10.slots[(((q + (1 : Int32)) + (1 : Int32))).toNatClampNeg]? = some (.int (0 : Int32)) := H10.at hin10 rfl
  refine own_baload X9 hx hZ hby e9 Ar10 hin10 hat10 d6_34 (pc' := 35) rfl ?_
  refine own_sipush X9 hx hby d6_35 (pc' := 38) rfl (n := (255 : Int32)) (by decide) ?_
  refine own_iand X9 hx hby d6_38 (pc' := 39) rfl ?_
  refine own_i2l X9 hx hby d6_39 (pc' := 40) rfl ?_
  refine own_lor X9 hx hby d6_40 (pc' := 41) rfl ?_
  refine own_lstore X9 hx hby d6_41 (pc' := 43) rfl (l' := #[.val (.ref a), .val (.int (4 : Int32)), .val (.ref t), .val (.int q), .val (.long (((((((0 : Int64) <<< ((8 : Int32) &&& 0x3f).toInt64) ||| (((0 : Int32) &&& (255 : Int32)).toInt64)) <<< ((8 : Int32) &&& 0x3f).toInt64) ||| (((0 : Int32) &&& (255 : Int32)).toInt64)) <<< ((8 : Int32) &&& 0x3f).toInt64) ||| (((0 : Int32) &&& (255 : Int32)).toInt64))), .second, .val (.int ((q + (1 : Int32)) + (1 : Int32)))]) rfl ?_
  refine own_iinc X9 hx hby d6_43 (pc' := 46) rfl rfl (y := (((q + (1 : Int32)) + (1 : Int32)) + (1 : Int32))) rfl (l' := #[.val (.ref a), .val (.int (4 : Int32)), .val (.ref t), .val (.int q), .val (.long (((((((0 : Int64) <<< ((8 : Int32) &&& 0x3f).toInt64) ||| (((0 : Int32) &&& (255 : Int32)).toInt64)) <<< ((8 : Int32) &&& 0x3f).toInt64) ||| (((0 : Int32) &&& (255 : Int32)).toInt64)) <<< ((8 : Int32) &&& 0x3f).toInt64) ||| (((0 : Int32) &&& (255 : Int32)).toInt64))), .second, .val (.int (((q + (1 : Int32)) + (1 : Int32)) + (1 : Int32)))]) rfl ?_
  refine own_goto X9 hx hby d6_46 (pc' := 14) (by decide) (by decide) ?_
  refine own_iload X9 hx hby d6_14 (pc' := 16) rfl rfl ?_
  refine own_aloadN X9 hx hby d6_16 (pc' := 17) rfl rfl rfl ?_
  refine own_getF X9 hx hZ hby hown (host := "") (Or.inl (wd_31 hw)) Via.refl e9 f_F_a_position d6_17 (pc' := 20) rfl (fun T11 X11 e11 => ?_)
  refine own_icN X11 hx hby d6_20 (pc' := 23) rfl (show (((q + (1 : Int32)) + (1 : Int32)) + (1 : Int32)) < (q + (4 : Int32)) from (own_L4_3 q n hqn)) ?_
  refine own_lload X11 hx hby d6_23 (pc' := 25) rfl rfl ?_
  refine own_bipush X11 hx hby d6_25 (pc' := 27) rfl (n := (8 : Int32)) (by decide) ?_
  refine own_lshl X11 hx hby d6_27 (pc' := 28) rfl ?_
  refine own_aloadN X11 hx hby d6_28 (pc' := 29) rfl rfl rfl ?_
  refine own_getF X11 hx hZ hby hown (host := "") (Or.inl (wd_24 hw)) Via.refl e11 f_F_a_frame d6_29 (pc' := 32) rfl (fun T12 X12 e12 => ?_)
  refine own_iload X12 hx hby d6_32 (pc' := 34) rfl rfl ?_
  obtain ⟨cl13, Ar13, q13, S13, M13, H13, G13⟩ := id f_V_w
  have hin13 : ¬ ((((q + (1 : Int32)) + (1 : Int32)) + (1 : Int32)) < 0 ∨ cl13.slots.size ≤ ((((q + (1 : Int32)) + (1 : Int32)) + (1 : Int32))).toNatClampNeg) := inb_of S13 (own_B4_3 q n hqn)
  have hat13 : cl13.slots[((((q + (1 : Int32)) + (1 : Int32)) + (1 : Int32))).toNatClampNeg]? = some (.int (0 : Int32)) := H13.at hin13 rfl
  refine own_baload X12 hx hZ hby e12 Ar13 hin13 hat13 d6_34 (pc' := 35) rfl ?_
  refine own_sipush X12 hx hby d6_35 (pc' := 38) rfl (n := (255 : Int32)) (by decide) ?_
  refine own_iand X12 hx hby d6_38 (pc' := 39) rfl ?_
  refine own_i2l X12 hx hby d6_39 (pc' := 40) rfl ?_
  refine own_lor X12 hx hby d6_40 (pc' := 41) rfl ?_
  refine own_lstore X12 hx hby d6_41 (pc' := 43) rfl (l' := #[.val (.ref a), .val (.int (4 : Int32)), .val (.ref t), .val (.int q), .val (.long (((((((((0 : Int64) <<< ((8 : Int32) &&& 0x3f).toInt64) ||| (((0 : Int32) &&& (255 : Int32)).toInt64)) <<< ((8 : Int32) &&& 0x3f).toInt64) ||| (((0 : Int32) &&& (255 : Int32)).toInt64)) <<< ((8 : Int32) &&& 0x3f).toInt64) ||| (((0 : Int32) &&& (255 : Int32)).toInt64)) <<< ((8 : Int32) &&& 0x3f).toInt64) ||| (((0 : Int32) &&& (255 : Int32)).toInt64))), .second, .val (.int (((q + (1 : Int32)) + (1 : Int32)) + (1 : Int32)))]) rfl ?_
  refine own_iinc X12 hx hby d6_43 (pc' := 46) rfl rfl (y := ((((q + (1 : Int32)) + (1 : Int32)) + (1 : Int32)) + (1 : Int32))) rfl (l' := #[.val (.ref a), .val (.int (4 : Int32)), .val (.ref t), .val (.int q), .val (.long (((((((((0 : Int64) <<< ((8 : Int32) &&& 0x3f).toInt64) ||| (((0 : Int32) &&& (255 : Int32)).toInt64)) <<< ((8 : Int32) &&& 0x3f).toInt64) ||| (((0 : Int32) &&& (255 : Int32)).toInt64)) <<< ((8 : Int32) &&& 0x3f).toInt64) ||| (((0 : Int32) &&& (255 : Int32)).toInt64)) <<< ((8 : Int32) &&& 0x3f).toInt64) ||| (((0 : Int32) &&& (255 : Int32)).toInt64))), .second, .val (.int ((((q + (1 : Int32)) + (1 : Int32)) + (1 : Int32)) + (1 : Int32)))]) rfl ?_
  refine own_goto X12 hx hby d6_46 (pc' := 14) (by decide) (by decide) ?_
  refine own_iload X12 hx hby d6_14 (pc' := 16) rfl rfl ?_
  refine own_aloadN X12 hx hby d6_16 (pc' := 17) rfl rfl rfl ?_
  refine own_getF X12 hx hZ hby hown (host := "") (Or.inl (wd_31 hw)) Via.refl e12 f_F_a_position d6_17 (pc' := 20) rfl (fun T14 X14 e14 => ?_)
  refine own_icY X14 hx hby d6_20 (pc' := 49) (by decide) (by decide) (show ¬ ((((q + (1 : Int32)) + (1 : Int32)) + (1 : Int32)) + (1 : Int32)) < (q + (4 : Int32)) from (own_L4_4 q n hqn)) ?_
  refine own_lload X14 hx hby d6_49 (pc' := 51) rfl rfl ?_
  refine own_lreturn X14 hx hlk hby hret d6_51 (own_lv ?_ (by decide) (by decide))
  show Q6_4 Z a w q kc n t  h0 n0 (some (.long (((((((((0 : Int64) <<< ((8 : Int32) &&& 0x3f).toInt64) ||| (((0 : Int32) &&& (255 : Int32)).toInt64)) <<< ((8 : Int32) &&& 0x3f).toInt64) ||| (((0 : Int32) &&& (255 : Int32)).toInt64)) <<< ((8 : Int32) &&& 0x3f).toInt64) ||| (((0 : Int32) &&& (255 : Int32)).toInt64)) <<< ((8 : Int32) &&& 0x3f).toInt64) ||| (((0 : Int32) &&& (255 : Int32)).toInt64)))) T14.heap _
  rw [e14]
  exact ⟨_, rfl, N1, Kp, ⟨f_E_a, f_F_a_frame, f_F_a_position⟩⟩
theorem own_ef_rm9 (m : MethodId) (a : Addr)  : entryFrame m #[(.ref a)] 1 = mkF m 0 #[.val (.ref a)] [] := by first | (simp [entryFrame, mkF, argsToLocals, Value.category]; done) | rfl
def Q9 (Z : State) (a : Addr) (w : Addr) (q : Int32) (kc : ClassId) (n : Int32) (h0 : Heap) (n0 : Nat) (v : Option Value) (h : Heap) (L : List Loc) : Prop := ∃ z : Int64, v = some (.long z) ∧ Fr n0 L ∧ Keep h0 h [a] ∧ own_FD Z h a (.ref w) (q + (4 : Int32))
set_option maxRecDepth 65536 in
set_option maxHeartbeats 40000000 in
theorem rm9 (l : Launch) (Z : State) (a0 : Array Value) (hw : ∀ d ∈ tables_1, d.before a0 Z = true) (ws : List Jvm.Cond) (a : Addr) (w : Addr) (q : Int32) (kc : ClassId) (n : Int32) (h0 : Heap) (n0 : Nat) (Z0 : n0 ≤ h0.size) (f_O_a : own_FD Z h0 a (.ref w) q) (f_V_w : Arv Z h0 w kc .byte n [] (.int (0 : Int32))) (ge_a : n0 ≤ a) (hqn : 0 ≤ q.toInt ∧ q.toInt + 4 ≤ n.toInt ∧ n.toInt ≤ 7) :
    MetFree l (⟨"com/example/hermod/hermod/xrap/FrameReader", "readNumber4", "()J"⟩ : MethodName) (head1 (Jvm.Cond.code (⟨"com/example/hermod/hermod/xrap/FrameReader", "readNumber4", "()J"⟩ : MethodName) prog_14_method_4_code 1 (some .long) :: ws) ({ frames := 2, cells := 2, slots := 32, locals := 34 } : Room)) (fun aa U => aa = #[(.ref a)] ∧ Z.Warmed39 U.vm ∧ U.heap = h0) (fun _ _ _ _ _ => True) (fun _ U oc U' => ∃ v L, oc = .returned v ∧ Q9 Z a w q kc n h0 n0 v U'.heap L ∧ ReturnedEndW U oc U' L ({ frames := 2, cells := 2, slots := 32, locals := 34 } : Room).cells ({ frames := 2, cells := 2, slots := 32, locals := 34 } : Room).slots) := by
  refine MetFree.of_bodySF (plainFor_of_name own_pn2) hisR ?_
  intro p e s m args below meth c s₁ Bd hml0 hP hK
  obtain ⟨rfl, hZ, hh⟩ := hP
  have hx := Bd.exec
  have hby := Bd.bytes
  have hlk := Bd.notSynchronized
  have hret := Bd.returns
  have hml : c.maxLocals = 1 := hml0
  have hown : s.vm.findClass "com/example/hermod/hermod/xrap/FrameReader" = some m.cls := findClass_of_methodNamed Bd.named
  have hnm := (name_of_methodNamed Bd.named Bd.method).1
  have X0 : Stand p l e ({ frames := 2, cells := 2, slots := 32, locals := 34 } : Room) s m #[(.ref a)] below meth c s₁ [] 0 0 := Stand.of_body Bd
  have e0 : s₁.heap = h0 := by rw [← hh, Bd.state]; rfl
  have N0 := Fr.nil n0
  refine own_bodyS (Q := Q9 Z a w q kc n h0 n0) (KC := ({ frames := 2, cells := 2, slots := 32, locals := 34 } : Room).cells) (KS := ({ frames := 2, cells := 2, slots := 32, locals := 34 } : Room).slots) ?_
  rw [own_ef_rm9 m a]
  have X0 : Stand p l e ({ frames := 2, cells := 2, slots := 32, locals := 34 } : Room) (s.setVm s.vm) m #[(.ref a)] below meth c s₁ [] 0 0 := X0
  have hS : s.Since s.vm h0.size := (State.WarmedH.refl s).since _
  have hSn : h0.size ≤ h0.size := Nat.le_refl _
  have Kp : Keep h0 h0 [a] := Keep.refl h0 _
  refine own_aloadN X0 hx hby d9_0 (pc' := 1) rfl rfl rfl ?_
  refine own_iconst X0 hx hby d9_1 (pc' := 2) rfl (n := (4 : Int32)) (by decide) ?_
  obtain ⟨a1, T1, h1, k1, X1, e1, E1, hS, hSn, hZ, hown, st1⟩ := ldcS X0 hx hZ hown (wd_58 hw) (own_wS hw) e0 hS hSn (g := (mkF m 2 #[.val (.ref a)] [(.int (4 : Int32)), (.ref a)])) rfl (hb hby d9_2) (n := 28) (by decide) (by decide) (by decide) (by decide)
  refine own_step st1 ?_
  have f_O_a := f_O_a.ext E1
  have f_V_w := f_V_w.ext E1
  have Zn := Nat.le_trans Z0 E1.1
  have Kp := Kp.ext E1
  show own_End p e below _ (T1.setTop (mkF m 4 #[.val (.ref a)] [(.ref a1), (.int (4 : Int32)), (.ref a)]))
  have ne_w_a : w ≠ a := Ne.symm (Exa.neArv f_O_a.1 f_V_w (wd_2 hw))
  refine own_lk2 hw X1 hx hZ hby (by rw [hml]; rfl) hown d9_4 (pc' := 7) rfl e1 f_O_a.1 (W := 0) (Nat.le_of_eq rfl) (rm6_4 l Z a0 hw [] a w q kc n a1 h1 n0 Zn f_O_a f_V_w ge_a hqn) (by decide) (by decide) (by decide) (by decide) (fun v3 T3 L3 X3 hQ3 => ?_)
  obtain ⟨z2, rfl, Nq3, K3, O3⟩ := hQ3
  have N3 := Fr.app N0 Nq3
  have f_V_w := f_V_w.keep K3 (ninS ne_w_a nin0)
  have Zn := Nat.le_trans Zn K3.1
  have hSn := Nat.le_trans hSn K3.1
  have Kp := Kp.trans K3 (allS (Or.inl (List.mem_of_getElem? (i := 0) rfl)) all0)
  show own_End p e below _ (T3.setTop (mkF m 7 _ [(.long z2)]))
  refine own_lreturn X3 hx hlk hby hret d9_7 (own_lvS hS hSn ?_ (by decide) (by decide))
  show Q9 Z a w q kc n  h0 n0 (some (.long z2)) T3.heap _
  exact ⟨_, rfl, N3, Kp, O3⟩
theorem own_ef_rm0 (m : MethodId) (p0 : Int32) (p1 : Int32)  : entryFrame m #[(.int p0), (.int p1)] maxLocals = mkF m 0 #[.val (.int p0), .val (.int p1), .unset, .unset, .unset, .unset] [] := by first | (simp [entryFrame, mkF, argsToLocals, Value.category, maxLocals]; done) | rfl
def Q0 (Z : State) (p0 : Int32) (p1 : Int32) (h0 : Heap) (n0 : Nat) (v : Option Value) (h : Heap) (L : List Loc) : Prop := v = some (.int 1) ∧ Fr n0 L
set_option maxRecDepth 65536 in
set_option maxHeartbeats 40000000 in
theorem own_s14 {p : Program} {l : Launch} {e : Env} {s : State} {vm0 : Vm} {kS : Nat} {m : MethodId} {below : List Frame} {meth : Method} {c : Code} {T0 : State} {locs : List Loc} (Z : State) (a0 : Array Value) (hw : ∀ d ∈ tables_1, d.before a0 Z = true) (p0 : Int32) (p1 : Int32) (n : Int32) (r : Int32) (h0 : Heap) (n0 : Nat) (h1 : Heap)
    (X0 : Stand p l e room_1 (s.setVm vm0) m #[(.int p0), (.int p1)] below meth c T0 locs 0 0) (hx : p.tables.exec = Jvm.exec) (hby : c.code = code) (hlk : meth.locks = false) (hml : c.maxLocals = 6) (hown : (s.setVm vm0).vm.findClass "com/example/hermod/hermod/xrap/FrameReaderAtEndPinLaw" = some m.cls) (hret : meth.sig.returnType = some .boolean) (hZ : Z.Warmed39 (s.setVm vm0).vm) (e1 : T0.heap = h1) (N0 : Fr n0 locs) (Z1 : n0 ≤ h1.size) (hS : s.Since vm0 kS) (hSn : kS ≤ h1.size) (hn : 0 ≤ n.toInt ∧ n.toInt ≤ 7) (hr : 0 ≤ r.toInt ∧ r.toInt ≤ n.toInt) :
    own_End p e below (own_FS s (Q0 Z p0 p1 h0 n0) room_1.cells room_1.slots) (T0.setTop (mkF m 14 #[.val (.int p0), .val (.int p1), .val (.int n), .val (.int r), .unset, .unset] [])) := by
  refine own_new X0 hx hZ hby hown (wd_1 hw) (wd_2 hw) (wd_3 hw) e1 at_14 (pc' := 17) rfl (by decide) (by decide) (fun T1 h1 b1 g1 X1 e1 E1 A1 D1 => ?_)
  have ge_b1 : n0 ≤ b1 := by rw [g1]; exact Z1
  have Zn := Nat.le_trans Z1 E1.1
  have hSn := Nat.le_trans hSn E1.1
  have f_O_b1 : own_FD Z h1 b1 .null (0 : Int32) := ⟨A1, D1 (Or.inr (wd_25 hw)) (ty := (.array .byte)) (by decide), D1 (Or.inl (wd_32 hw)) (ty := .int) (by decide)⟩
  rcases own_r8 r n hn hr with rfl | rfl | rfl | rfl | rfl | rfl | rfl | rfl
  · have hrn : 0 ≤ n.toInt := hr.2
    show own_End p e below _ (T1.setTop (mkF m 17 #[.val (.int p0), .val (.int p1), .val (.int n), .val (.int (0 : Int32)), .unset, .unset] [(.ref b1)]))
    refine own_dup X1 hx hby at_17 (pc' := 18) rfl rfl ?_
    refine own_iloadN X1 hx hby at_18 (pc' := 19) rfl rfl ?_
    refine own_newPE (aty := .byte) X1 hx hZ hby (ad := "[B") (by decide) (wd_4 hw) e1 at_19 (pc' := 21) rfl (own_nn n hn) (cap := 7) (own_cap n hn) (by decide) (by decide) (by decide) (fun T3 h3 k3 b3 g3 X3 e3 E3 A3 Ex3 => ?_)
    have ne_b1_b3 : b1 ≠ b3 := Nat.ne_of_lt (by rw [g3]; exact f_O_b1.lt)
    have ge_b3 : n0 ≤ b3 := by rw [g3]; exact Zn
    have f_O_b1 := f_O_b1.ext E3
    have Zn := Nat.le_trans Zn E3.1
    have hSn := Nat.le_trans hSn E3.1
    have f_V_b3 : Arv Z h3 b3 k3 .byte n [] (.int (0 : Int32)) := Arv.new A3 (own_nn n hn)
    refine own_lk3 hw X3 hx hZ hby (by rw [hml]; rfl) hown at_21 (pc' := 24) rfl e3 (W := 1) (Nat.le_of_eq rfl) (rm1 l Z a0 hw [] b1 b3 h3 n0 Zn f_O_b1 ge_b1 Ex3) (by decide) (by decide) (by decide) (by decide) hS hSn (fun v4 T4 L4 X4 hS hSn hZ hown hQ4 => ?_)
    obtain ⟨rfl, Nq4, K4, O4⟩ := hQ4
    have N4 := Fr.app N0 Nq4
    have Ex3 := Ex3.keep K4
    have f_V_b3 := f_V_b3.keep K4 (ninS (Ne.symm ne_b1_b3) nin0)
    have Zn := Nat.le_trans Zn K4.1
    show own_End p e below _ (T4.setTop (mkF m 24 _ [(.ref b1)]))
    refine own_astore X4 hx hby at_24 (pc' := 26) rfl rfl (l' := #[.val (.int p0), .val (.int p1), .val (.int n), .val (.int (0 : Int32)), .val (.ref b1), .unset]) rfl ?_
    rcases Decidable.em (n = (0 : Int32)) with hf28 | hf28
    · show own_End p e below _ (T4.setTop (mkF m 26 #[.val (.int p0), .val (.int p1), .val (.int n), .val (.int (0 : Int32)), .val (.ref b1), .unset] []))
      refine own_aload X4 hx hby at_26 (pc' := 28) rfl rfl rfl ?_
      refine own_lk4 hw X4 hx hZ hby (by rw [hml]; rfl) hown at_28 (pc' := 31) rfl rfl O4.1 (W := 0) (Nat.le_of_eq rfl) (rm4 l Z a0 hw [] b1 b3 (0 : Int32) k3 n (1 : Int32) T4.heap n0 Zn O4 f_V_b3 (by simp [own_eq, hf28.symm])) (by decide) (by decide) (by decide) (by decide) (fun v6 T6 L6 X6 hQ6 => ?_)
      obtain ⟨rfl, Nq6, e6⟩ := hQ6
      have N6 := Fr.app N4 Nq6
      show own_End p e below _ (T6.setTop (mkF m 31 _ [(.int (1 : Int32))]))
      refine own_istore X6 hx hby at_31 (pc' := 33) rfl (l' := #[.val (.int p0), .val (.int p1), .val (.int n), .val (.int (0 : Int32)), .val (.ref b1), .val (.int (1 : Int32))]) rfl ?_
      refine own_iload X6 hx hby at_33 (pc' := 35) rfl rfl ?_
      refine own_iloadN X6 hx hby at_35 (pc' := 36) rfl rfl ?_
      refine own_ifN X6 hx hby at_36 (pc' := 39) rfl (show n = (0 : Int32) from hf28) ?_
      refine own_iconst X6 hx hby at_39 (pc' := 40) rfl (n := (1 : Int32)) (by decide) ?_
      refine own_goto X6 hx hby at_40 (pc' := 44) (by decide) (by decide) ?_
      refine own_icY X6 hx hby at_44 (pc' := 49) (by decide) (by decide) (show (1 : Int32) = (1 : Int32) by decide) ?_
      refine own_iloadN X6 hx hby at_49 (pc' := 50) rfl rfl ?_
      refine own_iconst X6 hx hby at_50 (pc' := 51) rfl (n := (4 : Int32)) (by decide) ?_
      refine own_iand X6 hx hby at_51 (pc' := 52) rfl ?_
      show own_End p e below _ (T6.setTop (mkF m 52 #[.val (.int p0), .val (.int p1), .val (.int n), .val (.int (0 : Int32)), .val (.ref b1), .val (.int (1 : Int32))] [(.int (0 : Int32))]))
      refine own_ifY X6 hx hby at_52 (pc' := 61) (by decide) (by decide) (show (0 : Int32) = (0 : Int32) by decide) ?_
      refine own_iloadN X6 hx hby at_61 (pc' := 62) rfl rfl ?_
      refine own_iconst X6 hx hby at_62 (pc' := 63) rfl (n := (2 : Int32)) (by decide) ?_
      refine own_iand X6 hx hby at_63 (pc' := 64) rfl ?_
      show own_End p e below _ (T6.setTop (mkF m 64 #[.val (.int p0), .val (.int p1), .val (.int n), .val (.int (0 : Int32)), .val (.ref b1), .val (.int (1 : Int32))] [(.int (0 : Int32))]))
      refine own_ifY X6 hx hby at_64 (pc' := 73) (by decide) (by decide) (show (0 : Int32) = (0 : Int32) by decide) ?_
      refine own_iloadN X6 hx hby at_73 (pc' := 74) rfl rfl ?_
      refine own_iconst X6 hx hby at_74 (pc' := 75) rfl (n := (1 : Int32)) (by decide) ?_
      refine own_iand X6 hx hby at_75 (pc' := 76) rfl ?_
      show own_End p e below _ (T6.setTop (mkF m 76 #[.val (.int p0), .val (.int p1), .val (.int n), .val (.int (0 : Int32)), .val (.ref b1), .val (.int (1 : Int32))] [(.int (0 : Int32))]))
      refine own_ifY X6 hx hby at_76 (pc' := 85) (by decide) (by decide) (show (0 : Int32) = (0 : Int32) by decide) ?_
      refine own_aload X6 hx hby at_85 (pc' := 87) rfl rfl rfl ?_
      refine own_lk4 hw X6 hx hZ hby (by rw [hml]; rfl) hown at_87 (pc' := 90) rfl e6 O4.1 (W := 0) (Nat.le_of_eq rfl) (rm4 l Z a0 hw [] b1 b3 (0 : Int32) k3 n (1 : Int32) T4.heap n0 Zn O4 f_V_b3 (by simp [own_eq, hf28.symm])) (by decide) (by decide) (by decide) (by decide) (fun v7 T7 L7 X7 hQ7 => ?_)
      obtain ⟨rfl, Nq7, e7⟩ := hQ7
      have N7 := Fr.app N6 Nq7
      show own_End p e below _ (T7.setTop (mkF m 90 _ [(.int (1 : Int32))]))
      refine own_iloadN X7 hx hby at_90 (pc' := 91) rfl rfl ?_
      refine own_iloadN X7 hx hby at_91 (pc' := 92) rfl rfl ?_
      refine own_icN X7 hx hby at_92 (pc' := 95) rfl (show (0 : Int32) = n from hf28.symm) ?_
      refine own_iconst X7 hx hby at_95 (pc' := 96) rfl (n := (1 : Int32)) (by decide) ?_
      refine own_goto X7 hx hby at_96 (pc' := 100) (by decide) (by decide) ?_
      refine own_icN X7 hx hby at_100 (pc' := 103) rfl (show (1 : Int32) = (1 : Int32) by decide) ?_
      refine own_iconst X7 hx hby at_103 (pc' := 104) rfl (n := (1 : Int32)) (by decide) ?_
      refine own_goto X7 hx hby at_104 (pc' := 108) (by decide) (by decide) ?_
      refine own_zreturn X7 hx hlk hby hret (Or.inr rfl) at_108 (own_lvS hS (by rw [e7]; exact hSn) ?_ (by decide) (by decide))
      show Q0 Z p0 p1  h0 n0 (some (.int (1 : Int32))) T7.heap _
      rw [e7]
      exact ⟨rfl, N7⟩
    · show own_End p e below _ (T4.setTop (mkF m 26 #[.val (.int p0), .val (.int p1), .val (.int n), .val (.int (0 : Int32)), .val (.ref b1), .unset] []))
      refine own_aload X4 hx hby at_26 (pc' := 28) rfl rfl rfl ?_
      refine own_lk4 hw X4 hx hZ hby (by rw [hml]; rfl) hown at_28 (pc' := 31) rfl rfl O4.1 (W := 0) (Nat.le_of_eq rfl) (rm4 l Z a0 hw [] b1 b3 (0 : Int32) k3 n (0 : Int32) T4.heap n0 Zn O4 f_V_b3 (by simp [own_eq, (Ne.symm hf28)])) (by decide) (by decide) (by decide) (by decide) (fun v8 T8 L8 X8 hQ8 => ?_)
      obtain ⟨rfl, Nq8, e8⟩ := hQ8
      have N8 := Fr.app N4 Nq8
      show own_End p e below _ (T8.setTop (mkF m 31 _ [(.int (0 : Int32))]))
      refine own_istore X8 hx hby at_31 (pc' := 33) rfl (l' := #[.val (.int p0), .val (.int p1), .val (.int n), .val (.int (0 : Int32)), .val (.ref b1), .val (.int (0 : Int32))]) rfl ?_
      refine own_iload X8 hx hby at_33 (pc' := 35) rfl rfl ?_
      refine own_iloadN X8 hx hby at_35 (pc' := 36) rfl rfl ?_
      refine own_ifY X8 hx hby at_36 (pc' := 43) (by decide) (by decide) (show ¬ n = (0 : Int32) from hf28) ?_
      refine own_iconst X8 hx hby at_43 (pc' := 44) rfl (n := (0 : Int32)) (by decide) ?_
      refine own_icY X8 hx hby at_44 (pc' := 49) (by decide) (by decide) (show (0 : Int32) = (0 : Int32) by decide) ?_
      refine own_iloadN X8 hx hby at_49 (pc' := 50) rfl rfl ?_
      refine own_iconst X8 hx hby at_50 (pc' := 51) rfl (n := (4 : Int32)) (by decide) ?_
      refine own_iand X8 hx hby at_51 (pc' := 52) rfl ?_
      show own_End p e below _ (T8.setTop (mkF m 52 #[.val (.int p0), .val (.int p1), .val (.int n), .val (.int (0 : Int32)), .val (.ref b1), .val (.int (0 : Int32))] [(.int (0 : Int32))]))
      refine own_ifY X8 hx hby at_52 (pc' := 61) (by decide) (by decide) (show (0 : Int32) = (0 : Int32) by decide) ?_
      refine own_iloadN X8 hx hby at_61 (pc' := 62) rfl rfl ?_
      refine own_iconst X8 hx hby at_62 (pc' := 63) rfl (n := (2 : Int32)) (by decide) ?_
      refine own_iand X8 hx hby at_63 (pc' := 64) rfl ?_
      show own_End p e below _ (T8.setTop (mkF m 64 #[.val (.int p0), .val (.int p1), .val (.int n), .val (.int (0 : Int32)), .val (.ref b1), .val (.int (0 : Int32))] [(.int (0 : Int32))]))
      refine own_ifY X8 hx hby at_64 (pc' := 73) (by decide) (by decide) (show (0 : Int32) = (0 : Int32) by decide) ?_
      refine own_iloadN X8 hx hby at_73 (pc' := 74) rfl rfl ?_
      refine own_iconst X8 hx hby at_74 (pc' := 75) rfl (n := (1 : Int32)) (by decide) ?_
      refine own_iand X8 hx hby at_75 (pc' := 76) rfl ?_
      show own_End p e below _ (T8.setTop (mkF m 76 #[.val (.int p0), .val (.int p1), .val (.int n), .val (.int (0 : Int32)), .val (.ref b1), .val (.int (0 : Int32))] [(.int (0 : Int32))]))
      refine own_ifY X8 hx hby at_76 (pc' := 85) (by decide) (by decide) (show (0 : Int32) = (0 : Int32) by decide) ?_
      refine own_aload X8 hx hby at_85 (pc' := 87) rfl rfl rfl ?_
      refine own_lk4 hw X8 hx hZ hby (by rw [hml]; rfl) hown at_87 (pc' := 90) rfl e8 O4.1 (W := 0) (Nat.le_of_eq rfl) (rm4 l Z a0 hw [] b1 b3 (0 : Int32) k3 n (0 : Int32) T4.heap n0 Zn O4 f_V_b3 (by simp [own_eq, (Ne.symm hf28)])) (by decide) (by decide) (by decide) (by decide) (fun v9 T9 L9 X9 hQ9 => ?_)
      obtain ⟨rfl, Nq9, e9⟩ := hQ9
      have N9 := Fr.app N8 Nq9
      show own_End p e below _ (T9.setTop (mkF m 90 _ [(.int (0 : Int32))]))
      refine own_iloadN X9 hx hby at_90 (pc' := 91) rfl rfl ?_
      refine own_iloadN X9 hx hby at_91 (pc' := 92) rfl rfl ?_
      refine own_icY X9 hx hby at_92 (pc' := 99) (by decide) (by decide) (show ¬ (0 : Int32) = n from (Ne.symm hf28)) ?_
      refine own_iconst X9 hx hby at_99 (pc' := 100) rfl (n := (0 : Int32)) (by decide) ?_
      refine own_icN X9 hx hby at_100 (pc' := 103) rfl (show (0 : Int32) = (0 : Int32) by decide) ?_
      refine own_iconst X9 hx hby at_103 (pc' := 104) rfl (n := (1 : Int32)) (by decide) ?_
      refine own_goto X9 hx hby at_104 (pc' := 108) (by decide) (by decide) ?_
      refine own_zreturn X9 hx hlk hby hret (Or.inr rfl) at_108 (own_lvS hS (by rw [e9]; exact hSn) ?_ (by decide) (by decide))
      show Q0 Z p0 p1  h0 n0 (some (.int (1 : Int32))) T9.heap _
      rw [e9]
      exact ⟨rfl, N9⟩
  · have hrn : 1 ≤ n.toInt := hr.2
    show own_End p e below _ (T1.setTop (mkF m 17 #[.val (.int p0), .val (.int p1), .val (.int n), .val (.int (1 : Int32)), .unset, .unset] [(.ref b1)]))
    refine own_dup X1 hx hby at_17 (pc' := 18) rfl rfl ?_
    refine own_iloadN X1 hx hby at_18 (pc' := 19) rfl rfl ?_
    refine own_newPE (aty := .byte) X1 hx hZ hby (ad := "[B") (by decide) (wd_4 hw) e1 at_19 (pc' := 21) rfl (own_nn n hn) (cap := 7) (own_cap n hn) (by decide) (by decide) (by decide) (fun T10 h10 k10 b10 g10 X10 e10 E10 A10 Ex10 => ?_)
    have ne_b1_b10 : b1 ≠ b10 := Nat.ne_of_lt (by rw [g10]; exact f_O_b1.lt)
    have ge_b10 : n0 ≤ b10 := by rw [g10]; exact Zn
    have f_O_b1 := f_O_b1.ext E10
    have Zn := Nat.le_trans Zn E10.1
    have hSn := Nat.le_trans hSn E10.1
    have f_V_b10 : Arv Z h10 b10 k10 .byte n [] (.int (0 : Int32)) := Arv.new A10 (own_nn n hn)
    refine own_lk3 hw X10 hx hZ hby (by rw [hml]; rfl) hown at_21 (pc' := 24) rfl e10 (W := 1) (Nat.le_of_eq rfl) (rm1 l Z a0 hw [] b1 b10 h10 n0 Zn f_O_b1 ge_b1 Ex10) (by decide) (by decide) (by decide) (by decide) hS hSn (fun v11 T11 L11 X11 hS hSn hZ hown hQ11 => ?_)
    obtain ⟨rfl, Nq11, K11, O11⟩ := hQ11
    have N11 := Fr.app N0 Nq11
    have Ex10 := Ex10.keep K11
    have f_V_b10 := f_V_b10.keep K11 (ninS (Ne.symm ne_b1_b10) nin0)
    have Zn := Nat.le_trans Zn K11.1
    show own_End p e below _ (T11.setTop (mkF m 24 _ [(.ref b1)]))
    refine own_astore X11 hx hby at_24 (pc' := 26) rfl rfl (l' := #[.val (.int p0), .val (.int p1), .val (.int n), .val (.int (1 : Int32)), .val (.ref b1), .unset]) rfl ?_
    refine own_aload X11 hx hby at_26 (pc' := 28) rfl rfl rfl ?_
    refine own_lk4 hw X11 hx hZ hby (by rw [hml]; rfl) hown at_28 (pc' := 31) rfl rfl O11.1 (W := 0) (Nat.le_of_eq rfl) (rm4 l Z a0 hw [] b1 b10 (0 : Int32) k10 n (0 : Int32) T11.heap n0 Zn O11 f_V_b10 (by simp [own_eq, (Ne.symm (own_pos n 1 hrn (by decide)))])) (by decide) (by decide) (by decide) (by decide) (fun v12 T12 L12 X12 hQ12 => ?_)
    obtain ⟨rfl, Nq12, e12⟩ := hQ12
    have N12 := Fr.app N11 Nq12
    show own_End p e below _ (T12.setTop (mkF m 31 _ [(.int (0 : Int32))]))
    refine own_istore X12 hx hby at_31 (pc' := 33) rfl (l' := #[.val (.int p0), .val (.int p1), .val (.int n), .val (.int (1 : Int32)), .val (.ref b1), .val (.int (0 : Int32))]) rfl ?_
    refine own_iload X12 hx hby at_33 (pc' := 35) rfl rfl ?_
    refine own_iloadN X12 hx hby at_35 (pc' := 36) rfl rfl ?_
    refine own_ifY X12 hx hby at_36 (pc' := 43) (by decide) (by decide) (show ¬ n = (0 : Int32) from (own_pos n 1 hrn (by decide))) ?_
    refine own_iconst X12 hx hby at_43 (pc' := 44) rfl (n := (0 : Int32)) (by decide) ?_
    refine own_icY X12 hx hby at_44 (pc' := 49) (by decide) (by decide) (show (0 : Int32) = (0 : Int32) by decide) ?_
    refine own_iloadN X12 hx hby at_49 (pc' := 50) rfl rfl ?_
    refine own_iconst X12 hx hby at_50 (pc' := 51) rfl (n := (4 : Int32)) (by decide) ?_
    refine own_iand X12 hx hby at_51 (pc' := 52) rfl ?_
    show own_End p e below _ (T12.setTop (mkF m 52 #[.val (.int p0), .val (.int p1), .val (.int n), .val (.int (1 : Int32)), .val (.ref b1), .val (.int (0 : Int32))] [(.int (0 : Int32))]))
    refine own_ifY X12 hx hby at_52 (pc' := 61) (by decide) (by decide) (show (0 : Int32) = (0 : Int32) by decide) ?_
    refine own_iloadN X12 hx hby at_61 (pc' := 62) rfl rfl ?_
    refine own_iconst X12 hx hby at_62 (pc' := 63) rfl (n := (2 : Int32)) (by decide) ?_
    refine own_iand X12 hx hby at_63 (pc' := 64) rfl ?_
    show own_End p e below _ (T12.setTop (mkF m 64 #[.val (.int p0), .val (.int p1), .val (.int n), .val (.int (1 : Int32)), .val (.ref b1), .val (.int (0 : Int32))] [(.int (0 : Int32))]))
    refine own_ifY X12 hx hby at_64 (pc' := 73) (by decide) (by decide) (show (0 : Int32) = (0 : Int32) by decide) ?_
    refine own_iloadN X12 hx hby at_73 (pc' := 74) rfl rfl ?_
    refine own_iconst X12 hx hby at_74 (pc' := 75) rfl (n := (1 : Int32)) (by decide) ?_
    refine own_iand X12 hx hby at_75 (pc' := 76) rfl ?_
    show own_End p e below _ (T12.setTop (mkF m 76 #[.val (.int p0), .val (.int p1), .val (.int n), .val (.int (1 : Int32)), .val (.ref b1), .val (.int (0 : Int32))] [(.int (1 : Int32))]))
    refine own_ifN X12 hx hby at_76 (pc' := 79) rfl (show ¬ (1 : Int32) = (0 : Int32) by decide) ?_
    refine own_aload X12 hx hby at_79 (pc' := 81) rfl rfl rfl ?_
    refine own_lk5 hw X12 hx hZ hby (by rw [hml]; rfl) hown at_81 (pc' := 84) rfl e12 O11.1 (W := 0) (Nat.le_of_eq rfl) (rm5 l Z a0 hw [] b1 b10 (0 : Int32) k10 n T11.heap n0 Zn O11 f_V_b10 ge_b1 ⟨by decide, by have e : (0 : Int32).toInt = 0 := rfl; omega, hn.2⟩) (by decide) (by decide) (by decide) (by decide) hS hSn (fun v14 T14 L14 X14 hS hSn hZ hown hQ14 => ?_)
    obtain ⟨z13, rfl, Nq14, K14, O14⟩ := hQ14
    have N14 := Fr.app N12 Nq14
    have Ex10 := Ex10.keep K14
    have f_V_b10 := f_V_b10.keep K14 (ninS (Ne.symm ne_b1_b10) nin0)
    have Zn := Nat.le_trans Zn K14.1
    have O14 : own_FD Z T14.heap b1 (.ref b10) (1 : Int32) := O14
    show own_End p e below _ (T14.setTop (mkF m 84 _ [(.int z13)]))
    refine own_pop X14 hx hby at_84 (pc' := 85) rfl rfl ?_
    refine own_aload X14 hx hby at_85 (pc' := 87) rfl rfl rfl ?_
    rcases Decidable.em ((1 : Int32) = n) with hf15 | hf15
    · show own_End p e below _ (T14.setTop (mkF m 87 #[.val (.int p0), .val (.int p1), .val (.int n), .val (.int (1 : Int32)), .val (.ref b1), .val (.int (0 : Int32))] [(.ref b1)]))
      refine own_lk4 hw X14 hx hZ hby (by rw [hml]; rfl) hown at_87 (pc' := 90) rfl rfl O14.1 (W := 0) (Nat.le_of_eq rfl) (rm4 l Z a0 hw [] b1 b10 (1 : Int32) k10 n (1 : Int32) T14.heap n0 Zn O14 f_V_b10 (by simp [own_eq, hf15])) (by decide) (by decide) (by decide) (by decide) (fun v16 T16 L16 X16 hQ16 => ?_)
      obtain ⟨rfl, Nq16, e16⟩ := hQ16
      have N16 := Fr.app N14 Nq16
      show own_End p e below _ (T16.setTop (mkF m 90 _ [(.int (1 : Int32))]))
      refine own_iloadN X16 hx hby at_90 (pc' := 91) rfl rfl ?_
      refine own_iloadN X16 hx hby at_91 (pc' := 92) rfl rfl ?_
      refine own_icN X16 hx hby at_92 (pc' := 95) rfl (show (1 : Int32) = n from hf15) ?_
      refine own_iconst X16 hx hby at_95 (pc' := 96) rfl (n := (1 : Int32)) (by decide) ?_
      refine own_goto X16 hx hby at_96 (pc' := 100) (by decide) (by decide) ?_
      refine own_icN X16 hx hby at_100 (pc' := 103) rfl (show (1 : Int32) = (1 : Int32) by decide) ?_
      refine own_iconst X16 hx hby at_103 (pc' := 104) rfl (n := (1 : Int32)) (by decide) ?_
      refine own_goto X16 hx hby at_104 (pc' := 108) (by decide) (by decide) ?_
      refine own_zreturn X16 hx hlk hby hret (Or.inr rfl) at_108 (own_lvS hS (by rw [e16]; exact hSn) ?_ (by decide) (by decide))
      show Q0 Z p0 p1  h0 n0 (some (.int (1 : Int32))) T16.heap _
      rw [e16]
      exact ⟨rfl, N16⟩
    · show own_End p e below _ (T14.setTop (mkF m 87 #[.val (.int p0), .val (.int p1), .val (.int n), .val (.int (1 : Int32)), .val (.ref b1), .val (.int (0 : Int32))] [(.ref b1)]))
      refine own_lk4 hw X14 hx hZ hby (by rw [hml]; rfl) hown at_87 (pc' := 90) rfl rfl O14.1 (W := 0) (Nat.le_of_eq rfl) (rm4 l Z a0 hw [] b1 b10 (1 : Int32) k10 n (0 : Int32) T14.heap n0 Zn O14 f_V_b10 (by simp [own_eq, hf15])) (by decide) (by decide) (by decide) (by decide) (fun v17 T17 L17 X17 hQ17 => ?_)
      obtain ⟨rfl, Nq17, e17⟩ := hQ17
      have N17 := Fr.app N14 Nq17
      show own_End p e below _ (T17.setTop (mkF m 90 _ [(.int (0 : Int32))]))
      refine own_iloadN X17 hx hby at_90 (pc' := 91) rfl rfl ?_
      refine own_iloadN X17 hx hby at_91 (pc' := 92) rfl rfl ?_
      refine own_icY X17 hx hby at_92 (pc' := 99) (by decide) (by decide) (show ¬ (1 : Int32) = n from hf15) ?_
      refine own_iconst X17 hx hby at_99 (pc' := 100) rfl (n := (0 : Int32)) (by decide) ?_
      refine own_icN X17 hx hby at_100 (pc' := 103) rfl (show (0 : Int32) = (0 : Int32) by decide) ?_
      refine own_iconst X17 hx hby at_103 (pc' := 104) rfl (n := (1 : Int32)) (by decide) ?_
      refine own_goto X17 hx hby at_104 (pc' := 108) (by decide) (by decide) ?_
      refine own_zreturn X17 hx hlk hby hret (Or.inr rfl) at_108 (own_lvS hS (by rw [e17]; exact hSn) ?_ (by decide) (by decide))
      show Q0 Z p0 p1  h0 n0 (some (.int (1 : Int32))) T17.heap _
      rw [e17]
      exact ⟨rfl, N17⟩
  · have hrn : 2 ≤ n.toInt := hr.2
    show own_End p e below _ (T1.setTop (mkF m 17 #[.val (.int p0), .val (.int p1), .val (.int n), .val (.int (2 : Int32)), .unset, .unset] [(.ref b1)]))
    refine own_dup X1 hx hby at_17 (pc' := 18) rfl rfl ?_
    refine own_iloadN X1 hx hby at_18 (pc' := 19) rfl rfl ?_
    refine own_newPE (aty := .byte) X1 hx hZ hby (ad := "[B") (by decide) (wd_4 hw) e1 at_19 (pc' := 21) rfl (own_nn n hn) (cap := 7) (own_cap n hn) (by decide) (by decide) (by decide) (fun T18 h18 k18 b18 g18 X18 e18 E18 A18 Ex18 => ?_)
    have ne_b1_b18 : b1 ≠ b18 := Nat.ne_of_lt (by rw [g18]; exact f_O_b1.lt)
    have ge_b18 : n0 ≤ b18 := by rw [g18]; exact Zn
    have f_O_b1 := f_O_b1.ext E18
    have Zn := Nat.le_trans Zn E18.1
    have hSn := Nat.le_trans hSn E18.1
    have f_V_b18 : Arv Z h18 b18 k18 .byte n [] (.int (0 : Int32)) := Arv.new A18 (own_nn n hn)
    refine own_lk3 hw X18 hx hZ hby (by rw [hml]; rfl) hown at_21 (pc' := 24) rfl e18 (W := 1) (Nat.le_of_eq rfl) (rm1 l Z a0 hw [] b1 b18 h18 n0 Zn f_O_b1 ge_b1 Ex18) (by decide) (by decide) (by decide) (by decide) hS hSn (fun v19 T19 L19 X19 hS hSn hZ hown hQ19 => ?_)
    obtain ⟨rfl, Nq19, K19, O19⟩ := hQ19
    have N19 := Fr.app N0 Nq19
    have Ex18 := Ex18.keep K19
    have f_V_b18 := f_V_b18.keep K19 (ninS (Ne.symm ne_b1_b18) nin0)
    have Zn := Nat.le_trans Zn K19.1
    show own_End p e below _ (T19.setTop (mkF m 24 _ [(.ref b1)]))
    refine own_astore X19 hx hby at_24 (pc' := 26) rfl rfl (l' := #[.val (.int p0), .val (.int p1), .val (.int n), .val (.int (2 : Int32)), .val (.ref b1), .unset]) rfl ?_
    refine own_aload X19 hx hby at_26 (pc' := 28) rfl rfl rfl ?_
    refine own_lk4 hw X19 hx hZ hby (by rw [hml]; rfl) hown at_28 (pc' := 31) rfl rfl O19.1 (W := 0) (Nat.le_of_eq rfl) (rm4 l Z a0 hw [] b1 b18 (0 : Int32) k18 n (0 : Int32) T19.heap n0 Zn O19 f_V_b18 (by simp [own_eq, (Ne.symm (own_pos n 2 hrn (by decide)))])) (by decide) (by decide) (by decide) (by decide) (fun v20 T20 L20 X20 hQ20 => ?_)
    obtain ⟨rfl, Nq20, e20⟩ := hQ20
    have N20 := Fr.app N19 Nq20
    show own_End p e below _ (T20.setTop (mkF m 31 _ [(.int (0 : Int32))]))
    refine own_istore X20 hx hby at_31 (pc' := 33) rfl (l' := #[.val (.int p0), .val (.int p1), .val (.int n), .val (.int (2 : Int32)), .val (.ref b1), .val (.int (0 : Int32))]) rfl ?_
    refine own_iload X20 hx hby at_33 (pc' := 35) rfl rfl ?_
    refine own_iloadN X20 hx hby at_35 (pc' := 36) rfl rfl ?_
    refine own_ifY X20 hx hby at_36 (pc' := 43) (by decide) (by decide) (show ¬ n = (0 : Int32) from (own_pos n 2 hrn (by decide))) ?_
    refine own_iconst X20 hx hby at_43 (pc' := 44) rfl (n := (0 : Int32)) (by decide) ?_
    refine own_icY X20 hx hby at_44 (pc' := 49) (by decide) (by decide) (show (0 : Int32) = (0 : Int32) by decide) ?_
    refine own_iloadN X20 hx hby at_49 (pc' := 50) rfl rfl ?_
    refine own_iconst X20 hx hby at_50 (pc' := 51) rfl (n := (4 : Int32)) (by decide) ?_
    refine own_iand X20 hx hby at_51 (pc' := 52) rfl ?_
    show own_End p e below _ (T20.setTop (mkF m 52 #[.val (.int p0), .val (.int p1), .val (.int n), .val (.int (2 : Int32)), .val (.ref b1), .val (.int (0 : Int32))] [(.int (0 : Int32))]))
    refine own_ifY X20 hx hby at_52 (pc' := 61) (by decide) (by decide) (show (0 : Int32) = (0 : Int32) by decide) ?_
    refine own_iloadN X20 hx hby at_61 (pc' := 62) rfl rfl ?_
    refine own_iconst X20 hx hby at_62 (pc' := 63) rfl (n := (2 : Int32)) (by decide) ?_
    refine own_iand X20 hx hby at_63 (pc' := 64) rfl ?_
    show own_End p e below _ (T20.setTop (mkF m 64 #[.val (.int p0), .val (.int p1), .val (.int n), .val (.int (2 : Int32)), .val (.ref b1), .val (.int (0 : Int32))] [(.int (2 : Int32))]))
    refine own_ifN X20 hx hby at_64 (pc' := 67) rfl (show ¬ (2 : Int32) = (0 : Int32) by decide) ?_
    refine own_aload X20 hx hby at_67 (pc' := 69) rfl rfl rfl ?_
    refine own_lk6 hw X20 hx hZ hby (by rw [hml]; rfl) hown at_69 (pc' := 72) rfl e20 O19.1 (W := 0) (Nat.le_of_eq rfl) (rm8 l Z a0 hw [] b1 b18 (0 : Int32) k18 n T19.heap n0 Zn O19 f_V_b18 ge_b1 ⟨by decide, by have e : (0 : Int32).toInt = 0 := rfl; omega, hn.2⟩) (by decide) (by decide) (by decide) (by decide) hS hSn (fun v22 T22 L22 X22 hS hSn hZ hown hQ22 => ?_)
    obtain ⟨z21, rfl, Nq22, K22, O22⟩ := hQ22
    have N22 := Fr.app N20 Nq22
    have Ex18 := Ex18.keep K22
    have f_V_b18 := f_V_b18.keep K22 (ninS (Ne.symm ne_b1_b18) nin0)
    have Zn := Nat.le_trans Zn K22.1
    have O22 : own_FD Z T22.heap b1 (.ref b18) (2 : Int32) := O22
    show own_End p e below _ (T22.setTop (mkF m 72 _ [(.int z21)]))
    refine own_pop X22 hx hby at_72 (pc' := 73) rfl rfl ?_
    refine own_iloadN X22 hx hby at_73 (pc' := 74) rfl rfl ?_
    refine own_iconst X22 hx hby at_74 (pc' := 75) rfl (n := (1 : Int32)) (by decide) ?_
    refine own_iand X22 hx hby at_75 (pc' := 76) rfl ?_
    show own_End p e below _ (T22.setTop (mkF m 76 #[.val (.int p0), .val (.int p1), .val (.int n), .val (.int (2 : Int32)), .val (.ref b1), .val (.int (0 : Int32))] [(.int (0 : Int32))]))
    refine own_ifY X22 hx hby at_76 (pc' := 85) (by decide) (by decide) (show (0 : Int32) = (0 : Int32) by decide) ?_
    refine own_aload X22 hx hby at_85 (pc' := 87) rfl rfl rfl ?_
    rcases Decidable.em ((2 : Int32) = n) with hf23 | hf23
    · show own_End p e below _ (T22.setTop (mkF m 87 #[.val (.int p0), .val (.int p1), .val (.int n), .val (.int (2 : Int32)), .val (.ref b1), .val (.int (0 : Int32))] [(.ref b1)]))
      refine own_lk4 hw X22 hx hZ hby (by rw [hml]; rfl) hown at_87 (pc' := 90) rfl rfl O22.1 (W := 0) (Nat.le_of_eq rfl) (rm4 l Z a0 hw [] b1 b18 (2 : Int32) k18 n (1 : Int32) T22.heap n0 Zn O22 f_V_b18 (by simp [own_eq, hf23])) (by decide) (by decide) (by decide) (by decide) (fun v24 T24 L24 X24 hQ24 => ?_)
      obtain ⟨rfl, Nq24, e24⟩ := hQ24
      have N24 := Fr.app N22 Nq24
      show own_End p e below _ (T24.setTop (mkF m 90 _ [(.int (1 : Int32))]))
      refine own_iloadN X24 hx hby at_90 (pc' := 91) rfl rfl ?_
      refine own_iloadN X24 hx hby at_91 (pc' := 92) rfl rfl ?_
      refine own_icN X24 hx hby at_92 (pc' := 95) rfl (show (2 : Int32) = n from hf23) ?_
      refine own_iconst X24 hx hby at_95 (pc' := 96) rfl (n := (1 : Int32)) (by decide) ?_
      refine own_goto X24 hx hby at_96 (pc' := 100) (by decide) (by decide) ?_
      refine own_icN X24 hx hby at_100 (pc' := 103) rfl (show (1 : Int32) = (1 : Int32) by decide) ?_
      refine own_iconst X24 hx hby at_103 (pc' := 104) rfl (n := (1 : Int32)) (by decide) ?_
      refine own_goto X24 hx hby at_104 (pc' := 108) (by decide) (by decide) ?_
      refine own_zreturn X24 hx hlk hby hret (Or.inr rfl) at_108 (own_lvS hS (by rw [e24]; exact hSn) ?_ (by decide) (by decide))
      show Q0 Z p0 p1  h0 n0 (some (.int (1 : Int32))) T24.heap _
      rw [e24]
      exact ⟨rfl, N24⟩
    · show own_End p e below _ (T22.setTop (mkF m 87 #[.val (.int p0), .val (.int p1), .val (.int n), .val (.int (2 : Int32)), .val (.ref b1), .val (.int (0 : Int32))] [(.ref b1)]))
      refine own_lk4 hw X22 hx hZ hby (by rw [hml]; rfl) hown at_87 (pc' := 90) rfl rfl O22.1 (W := 0) (Nat.le_of_eq rfl) (rm4 l Z a0 hw [] b1 b18 (2 : Int32) k18 n (0 : Int32) T22.heap n0 Zn O22 f_V_b18 (by simp [own_eq, hf23])) (by decide) (by decide) (by decide) (by decide) (fun v25 T25 L25 X25 hQ25 => ?_)
      obtain ⟨rfl, Nq25, e25⟩ := hQ25
      have N25 := Fr.app N22 Nq25
      show own_End p e below _ (T25.setTop (mkF m 90 _ [(.int (0 : Int32))]))
      refine own_iloadN X25 hx hby at_90 (pc' := 91) rfl rfl ?_
      refine own_iloadN X25 hx hby at_91 (pc' := 92) rfl rfl ?_
      refine own_icY X25 hx hby at_92 (pc' := 99) (by decide) (by decide) (show ¬ (2 : Int32) = n from hf23) ?_
      refine own_iconst X25 hx hby at_99 (pc' := 100) rfl (n := (0 : Int32)) (by decide) ?_
      refine own_icN X25 hx hby at_100 (pc' := 103) rfl (show (0 : Int32) = (0 : Int32) by decide) ?_
      refine own_iconst X25 hx hby at_103 (pc' := 104) rfl (n := (1 : Int32)) (by decide) ?_
      refine own_goto X25 hx hby at_104 (pc' := 108) (by decide) (by decide) ?_
      refine own_zreturn X25 hx hlk hby hret (Or.inr rfl) at_108 (own_lvS hS (by rw [e25]; exact hSn) ?_ (by decide) (by decide))
      show Q0 Z p0 p1  h0 n0 (some (.int (1 : Int32))) T25.heap _
      rw [e25]
      exact ⟨rfl, N25⟩
  · have hrn : 3 ≤ n.toInt := hr.2
    show own_End p e below _ (T1.setTop (mkF m 17 #[.val (.int p0), .val (.int p1), .val (.int n), .val (.int (3 : Int32)), .unset, .unset] [(.ref b1)]))
    refine own_dup X1 hx hby at_17 (pc' := 18) rfl rfl ?_
    refine own_iloadN X1 hx hby at_18 (pc' := 19) rfl rfl ?_
    refine own_newPE (aty := .byte) X1 hx hZ hby (ad := "[B") (by decide) (wd_4 hw) e1 at_19 (pc' := 21) rfl (own_nn n hn) (cap := 7) (own_cap n hn) (by decide) (by decide) (by decide) (fun T26 h26 k26 b26 g26 X26 e26 E26 A26 Ex26 => ?_)
    have ne_b1_b26 : b1 ≠ b26 := Nat.ne_of_lt (by rw [g26]; exact f_O_b1.lt)
    have ge_b26 : n0 ≤ b26 := by rw [g26]; exact Zn
    have f_O_b1 := f_O_b1.ext E26
    have Zn := Nat.le_trans Zn E26.1
    have hSn := Nat.le_trans hSn E26.1
    have f_V_b26 : Arv Z h26 b26 k26 .byte n [] (.int (0 : Int32)) := Arv.new A26 (own_nn n hn)
    refine own_lk3 hw X26 hx hZ hby (by rw [hml]; rfl) hown at_21 (pc' := 24) rfl e26 (W := 1) (Nat.le_of_eq rfl) (rm1 l Z a0 hw [] b1 b26 h26 n0 Zn f_O_b1 ge_b1 Ex26) (by decide) (by decide) (by decide) (by decide) hS hSn (fun v27 T27 L27 X27 hS hSn hZ hown hQ27 => ?_)
    obtain ⟨rfl, Nq27, K27, O27⟩ := hQ27
    have N27 := Fr.app N0 Nq27
    have Ex26 := Ex26.keep K27
    have f_V_b26 := f_V_b26.keep K27 (ninS (Ne.symm ne_b1_b26) nin0)
    have Zn := Nat.le_trans Zn K27.1
    show own_End p e below _ (T27.setTop (mkF m 24 _ [(.ref b1)]))
    refine own_astore X27 hx hby at_24 (pc' := 26) rfl rfl (l' := #[.val (.int p0), .val (.int p1), .val (.int n), .val (.int (3 : Int32)), .val (.ref b1), .unset]) rfl ?_
    refine own_aload X27 hx hby at_26 (pc' := 28) rfl rfl rfl ?_
    refine own_lk4 hw X27 hx hZ hby (by rw [hml]; rfl) hown at_28 (pc' := 31) rfl rfl O27.1 (W := 0) (Nat.le_of_eq rfl) (rm4 l Z a0 hw [] b1 b26 (0 : Int32) k26 n (0 : Int32) T27.heap n0 Zn O27 f_V_b26 (by simp [own_eq, (Ne.symm (own_pos n 3 hrn (by decide)))])) (by decide) (by decide) (by decide) (by decide) (fun v28 T28 L28 X28 hQ28 => ?_)
    obtain ⟨rfl, Nq28, e28⟩ := hQ28
    have N28 := Fr.app N27 Nq28
    show own_End p e below _ (T28.setTop (mkF m 31 _ [(.int (0 : Int32))]))
    refine own_istore X28 hx hby at_31 (pc' := 33) rfl (l' := #[.val (.int p0), .val (.int p1), .val (.int n), .val (.int (3 : Int32)), .val (.ref b1), .val (.int (0 : Int32))]) rfl ?_
    refine own_iload X28 hx hby at_33 (pc' := 35) rfl rfl ?_
    refine own_iloadN X28 hx hby at_35 (pc' := 36) rfl rfl ?_
    refine own_ifY X28 hx hby at_36 (pc' := 43) (by decide) (by decide) (show ¬ n = (0 : Int32) from (own_pos n 3 hrn (by decide))) ?_
    refine own_iconst X28 hx hby at_43 (pc' := 44) rfl (n := (0 : Int32)) (by decide) ?_
    refine own_icY X28 hx hby at_44 (pc' := 49) (by decide) (by decide) (show (0 : Int32) = (0 : Int32) by decide) ?_
    refine own_iloadN X28 hx hby at_49 (pc' := 50) rfl rfl ?_
    refine own_iconst X28 hx hby at_50 (pc' := 51) rfl (n := (4 : Int32)) (by decide) ?_
    refine own_iand X28 hx hby at_51 (pc' := 52) rfl ?_
    show own_End p e below _ (T28.setTop (mkF m 52 #[.val (.int p0), .val (.int p1), .val (.int n), .val (.int (3 : Int32)), .val (.ref b1), .val (.int (0 : Int32))] [(.int (0 : Int32))]))
    refine own_ifY X28 hx hby at_52 (pc' := 61) (by decide) (by decide) (show (0 : Int32) = (0 : Int32) by decide) ?_
    refine own_iloadN X28 hx hby at_61 (pc' := 62) rfl rfl ?_
    refine own_iconst X28 hx hby at_62 (pc' := 63) rfl (n := (2 : Int32)) (by decide) ?_
    refine own_iand X28 hx hby at_63 (pc' := 64) rfl ?_
    show own_End p e below _ (T28.setTop (mkF m 64 #[.val (.int p0), .val (.int p1), .val (.int n), .val (.int (3 : Int32)), .val (.ref b1), .val (.int (0 : Int32))] [(.int (2 : Int32))]))
    refine own_ifN X28 hx hby at_64 (pc' := 67) rfl (show ¬ (2 : Int32) = (0 : Int32) by decide) ?_
    refine own_aload X28 hx hby at_67 (pc' := 69) rfl rfl rfl ?_
    refine own_lk6 hw X28 hx hZ hby (by rw [hml]; rfl) hown at_69 (pc' := 72) rfl e28 O27.1 (W := 0) (Nat.le_of_eq rfl) (rm8 l Z a0 hw [] b1 b26 (0 : Int32) k26 n T27.heap n0 Zn O27 f_V_b26 ge_b1 ⟨by decide, by have e : (0 : Int32).toInt = 0 := rfl; omega, hn.2⟩) (by decide) (by decide) (by decide) (by decide) hS hSn (fun v30 T30 L30 X30 hS hSn hZ hown hQ30 => ?_)
    obtain ⟨z29, rfl, Nq30, K30, O30⟩ := hQ30
    have N30 := Fr.app N28 Nq30
    have Ex26 := Ex26.keep K30
    have f_V_b26 := f_V_b26.keep K30 (ninS (Ne.symm ne_b1_b26) nin0)
    have Zn := Nat.le_trans Zn K30.1
    have O30 : own_FD Z T30.heap b1 (.ref b26) (2 : Int32) := O30
    show own_End p e below _ (T30.setTop (mkF m 72 _ [(.int z29)]))
    refine own_pop X30 hx hby at_72 (pc' := 73) rfl rfl ?_
    refine own_iloadN X30 hx hby at_73 (pc' := 74) rfl rfl ?_
    refine own_iconst X30 hx hby at_74 (pc' := 75) rfl (n := (1 : Int32)) (by decide) ?_
    refine own_iand X30 hx hby at_75 (pc' := 76) rfl ?_
    show own_End p e below _ (T30.setTop (mkF m 76 #[.val (.int p0), .val (.int p1), .val (.int n), .val (.int (3 : Int32)), .val (.ref b1), .val (.int (0 : Int32))] [(.int (1 : Int32))]))
    refine own_ifN X30 hx hby at_76 (pc' := 79) rfl (show ¬ (1 : Int32) = (0 : Int32) by decide) ?_
    refine own_aload X30 hx hby at_79 (pc' := 81) rfl rfl rfl ?_
    refine own_lk5 hw X30 hx hZ hby (by rw [hml]; rfl) hown at_81 (pc' := 84) rfl rfl O30.1 (W := 0) (Nat.le_of_eq rfl) (rm5 l Z a0 hw [] b1 b26 (2 : Int32) k26 n T30.heap n0 Zn O30 f_V_b26 ge_b1 ⟨by decide, by have e : (2 : Int32).toInt = 2 := rfl; omega, hn.2⟩) (by decide) (by decide) (by decide) (by decide) hS hSn (fun v32 T32 L32 X32 hS hSn hZ hown hQ32 => ?_)
    obtain ⟨z31, rfl, Nq32, K32, O32⟩ := hQ32
    have N32 := Fr.app N30 Nq32
    have Ex26 := Ex26.keep K32
    have f_V_b26 := f_V_b26.keep K32 (ninS (Ne.symm ne_b1_b26) nin0)
    have Zn := Nat.le_trans Zn K32.1
    have O32 : own_FD Z T32.heap b1 (.ref b26) (3 : Int32) := O32
    show own_End p e below _ (T32.setTop (mkF m 84 _ [(.int z31)]))
    refine own_pop X32 hx hby at_84 (pc' := 85) rfl rfl ?_
    refine own_aload X32 hx hby at_85 (pc' := 87) rfl rfl rfl ?_
    rcases Decidable.em ((3 : Int32) = n) with hf33 | hf33
    · show own_End p e below _ (T32.setTop (mkF m 87 #[.val (.int p0), .val (.int p1), .val (.int n), .val (.int (3 : Int32)), .val (.ref b1), .val (.int (0 : Int32))] [(.ref b1)]))
      refine own_lk4 hw X32 hx hZ hby (by rw [hml]; rfl) hown at_87 (pc' := 90) rfl rfl O32.1 (W := 0) (Nat.le_of_eq rfl) (rm4 l Z a0 hw [] b1 b26 (3 : Int32) k26 n (1 : Int32) T32.heap n0 Zn O32 f_V_b26 (by simp [own_eq, hf33])) (by decide) (by decide) (by decide) (by decide) (fun v34 T34 L34 X34 hQ34 => ?_)
      obtain ⟨rfl, Nq34, e34⟩ := hQ34
      have N34 := Fr.app N32 Nq34
      show own_End p e below _ (T34.setTop (mkF m 90 _ [(.int (1 : Int32))]))
      refine own_iloadN X34 hx hby at_90 (pc' := 91) rfl rfl ?_
      refine own_iloadN X34 hx hby at_91 (pc' := 92) rfl rfl ?_
      refine own_icN X34 hx hby at_92 (pc' := 95) rfl (show (3 : Int32) = n from hf33) ?_
      refine own_iconst X34 hx hby at_95 (pc' := 96) rfl (n := (1 : Int32)) (by decide) ?_
      refine own_goto X34 hx hby at_96 (pc' := 100) (by decide) (by decide) ?_
      refine own_icN X34 hx hby at_100 (pc' := 103) rfl (show (1 : Int32) = (1 : Int32) by decide) ?_
      refine own_iconst X34 hx hby at_103 (pc' := 104) rfl (n := (1 : Int32)) (by decide) ?_
      refine own_goto X34 hx hby at_104 (pc' := 108) (by decide) (by decide) ?_
      refine own_zreturn X34 hx hlk hby hret (Or.inr rfl) at_108 (own_lvS hS (by rw [e34]; exact hSn) ?_ (by decide) (by decide))
      show Q0 Z p0 p1  h0 n0 (some (.int (1 : Int32))) T34.heap _
      rw [e34]
      exact ⟨rfl, N34⟩
    · show own_End p e below _ (T32.setTop (mkF m 87 #[.val (.int p0), .val (.int p1), .val (.int n), .val (.int (3 : Int32)), .val (.ref b1), .val (.int (0 : Int32))] [(.ref b1)]))
      refine own_lk4 hw X32 hx hZ hby (by rw [hml]; rfl) hown at_87 (pc' := 90) rfl rfl O32.1 (W := 0) (Nat.le_of_eq rfl) (rm4 l Z a0 hw [] b1 b26 (3 : Int32) k26 n (0 : Int32) T32.heap n0 Zn O32 f_V_b26 (by simp [own_eq, hf33])) (by decide) (by decide) (by decide) (by decide) (fun v35 T35 L35 X35 hQ35 => ?_)
      obtain ⟨rfl, Nq35, e35⟩ := hQ35
      have N35 := Fr.app N32 Nq35
      show own_End p e below _ (T35.setTop (mkF m 90 _ [(.int (0 : Int32))]))
      refine own_iloadN X35 hx hby at_90 (pc' := 91) rfl rfl ?_
      refine own_iloadN X35 hx hby at_91 (pc' := 92) rfl rfl ?_
      refine own_icY X35 hx hby at_92 (pc' := 99) (by decide) (by decide) (show ¬ (3 : Int32) = n from hf33) ?_
      refine own_iconst X35 hx hby at_99 (pc' := 100) rfl (n := (0 : Int32)) (by decide) ?_
      refine own_icN X35 hx hby at_100 (pc' := 103) rfl (show (0 : Int32) = (0 : Int32) by decide) ?_
      refine own_iconst X35 hx hby at_103 (pc' := 104) rfl (n := (1 : Int32)) (by decide) ?_
      refine own_goto X35 hx hby at_104 (pc' := 108) (by decide) (by decide) ?_
      refine own_zreturn X35 hx hlk hby hret (Or.inr rfl) at_108 (own_lvS hS (by rw [e35]; exact hSn) ?_ (by decide) (by decide))
      show Q0 Z p0 p1  h0 n0 (some (.int (1 : Int32))) T35.heap _
      rw [e35]
      exact ⟨rfl, N35⟩
  · have hrn : 4 ≤ n.toInt := hr.2
    show own_End p e below _ (T1.setTop (mkF m 17 #[.val (.int p0), .val (.int p1), .val (.int n), .val (.int (4 : Int32)), .unset, .unset] [(.ref b1)]))
    refine own_dup X1 hx hby at_17 (pc' := 18) rfl rfl ?_
    refine own_iloadN X1 hx hby at_18 (pc' := 19) rfl rfl ?_
    refine own_newPE (aty := .byte) X1 hx hZ hby (ad := "[B") (by decide) (wd_4 hw) e1 at_19 (pc' := 21) rfl (own_nn n hn) (cap := 7) (own_cap n hn) (by decide) (by decide) (by decide) (fun T36 h36 k36 b36 g36 X36 e36 E36 A36 Ex36 => ?_)
    have ne_b1_b36 : b1 ≠ b36 := Nat.ne_of_lt (by rw [g36]; exact f_O_b1.lt)
    have ge_b36 : n0 ≤ b36 := by rw [g36]; exact Zn
    have f_O_b1 := f_O_b1.ext E36
    have Zn := Nat.le_trans Zn E36.1
    have hSn := Nat.le_trans hSn E36.1
    have f_V_b36 : Arv Z h36 b36 k36 .byte n [] (.int (0 : Int32)) := Arv.new A36 (own_nn n hn)
    refine own_lk3 hw X36 hx hZ hby (by rw [hml]; rfl) hown at_21 (pc' := 24) rfl e36 (W := 1) (Nat.le_of_eq rfl) (rm1 l Z a0 hw [] b1 b36 h36 n0 Zn f_O_b1 ge_b1 Ex36) (by decide) (by decide) (by decide) (by decide) hS hSn (fun v37 T37 L37 X37 hS hSn hZ hown hQ37 => ?_)
    obtain ⟨rfl, Nq37, K37, O37⟩ := hQ37
    have N37 := Fr.app N0 Nq37
    have Ex36 := Ex36.keep K37
    have f_V_b36 := f_V_b36.keep K37 (ninS (Ne.symm ne_b1_b36) nin0)
    have Zn := Nat.le_trans Zn K37.1
    show own_End p e below _ (T37.setTop (mkF m 24 _ [(.ref b1)]))
    refine own_astore X37 hx hby at_24 (pc' := 26) rfl rfl (l' := #[.val (.int p0), .val (.int p1), .val (.int n), .val (.int (4 : Int32)), .val (.ref b1), .unset]) rfl ?_
    refine own_aload X37 hx hby at_26 (pc' := 28) rfl rfl rfl ?_
    refine own_lk4 hw X37 hx hZ hby (by rw [hml]; rfl) hown at_28 (pc' := 31) rfl rfl O37.1 (W := 0) (Nat.le_of_eq rfl) (rm4 l Z a0 hw [] b1 b36 (0 : Int32) k36 n (0 : Int32) T37.heap n0 Zn O37 f_V_b36 (by simp [own_eq, (Ne.symm (own_pos n 4 hrn (by decide)))])) (by decide) (by decide) (by decide) (by decide) (fun v38 T38 L38 X38 hQ38 => ?_)
    obtain ⟨rfl, Nq38, e38⟩ := hQ38
    have N38 := Fr.app N37 Nq38
    show own_End p e below _ (T38.setTop (mkF m 31 _ [(.int (0 : Int32))]))
    refine own_istore X38 hx hby at_31 (pc' := 33) rfl (l' := #[.val (.int p0), .val (.int p1), .val (.int n), .val (.int (4 : Int32)), .val (.ref b1), .val (.int (0 : Int32))]) rfl ?_
    refine own_iload X38 hx hby at_33 (pc' := 35) rfl rfl ?_
    refine own_iloadN X38 hx hby at_35 (pc' := 36) rfl rfl ?_
    refine own_ifY X38 hx hby at_36 (pc' := 43) (by decide) (by decide) (show ¬ n = (0 : Int32) from (own_pos n 4 hrn (by decide))) ?_
    refine own_iconst X38 hx hby at_43 (pc' := 44) rfl (n := (0 : Int32)) (by decide) ?_
    refine own_icY X38 hx hby at_44 (pc' := 49) (by decide) (by decide) (show (0 : Int32) = (0 : Int32) by decide) ?_
    refine own_iloadN X38 hx hby at_49 (pc' := 50) rfl rfl ?_
    refine own_iconst X38 hx hby at_50 (pc' := 51) rfl (n := (4 : Int32)) (by decide) ?_
    refine own_iand X38 hx hby at_51 (pc' := 52) rfl ?_
    show own_End p e below _ (T38.setTop (mkF m 52 #[.val (.int p0), .val (.int p1), .val (.int n), .val (.int (4 : Int32)), .val (.ref b1), .val (.int (0 : Int32))] [(.int (4 : Int32))]))
    refine own_ifN X38 hx hby at_52 (pc' := 55) rfl (show ¬ (4 : Int32) = (0 : Int32) by decide) ?_
    refine own_aload X38 hx hby at_55 (pc' := 57) rfl rfl rfl ?_
    refine own_lk7 hw X38 hx hZ hby (by rw [hml]; rfl) hown at_57 (pc' := 60) rfl e38 O37.1 (W := 0) (Nat.le_of_eq rfl) (rm9 l Z a0 hw [] b1 b36 (0 : Int32) k36 n T37.heap n0 Zn O37 f_V_b36 ge_b1 ⟨by decide, by have e : (0 : Int32).toInt = 0 := rfl; omega, hn.2⟩) (by decide) (by decide) (by decide) (by decide) hS hSn (fun v40 T40 L40 X40 hS hSn hZ hown hQ40 => ?_)
    obtain ⟨z39, rfl, Nq40, K40, O40⟩ := hQ40
    have N40 := Fr.app N38 Nq40
    have Ex36 := Ex36.keep K40
    have f_V_b36 := f_V_b36.keep K40 (ninS (Ne.symm ne_b1_b36) nin0)
    have Zn := Nat.le_trans Zn K40.1
    have O40 : own_FD Z T40.heap b1 (.ref b36) (4 : Int32) := O40
    show own_End p e below _ (T40.setTop (mkF m 60 _ [(.long z39)]))
    refine own_pop2 X40 hx hby at_60 (pc' := 61) rfl ?_
    refine own_iloadN X40 hx hby at_61 (pc' := 62) rfl rfl ?_
    refine own_iconst X40 hx hby at_62 (pc' := 63) rfl (n := (2 : Int32)) (by decide) ?_
    refine own_iand X40 hx hby at_63 (pc' := 64) rfl ?_
    show own_End p e below _ (T40.setTop (mkF m 64 #[.val (.int p0), .val (.int p1), .val (.int n), .val (.int (4 : Int32)), .val (.ref b1), .val (.int (0 : Int32))] [(.int (0 : Int32))]))
    refine own_ifY X40 hx hby at_64 (pc' := 73) (by decide) (by decide) (show (0 : Int32) = (0 : Int32) by decide) ?_
    refine own_iloadN X40 hx hby at_73 (pc' := 74) rfl rfl ?_
    refine own_iconst X40 hx hby at_74 (pc' := 75) rfl (n := (1 : Int32)) (by decide) ?_
    refine own_iand X40 hx hby at_75 (pc' := 76) rfl ?_
    show own_End p e below _ (T40.setTop (mkF m 76 #[.val (.int p0), .val (.int p1), .val (.int n), .val (.int (4 : Int32)), .val (.ref b1), .val (.int (0 : Int32))] [(.int (0 : Int32))]))
    refine own_ifY X40 hx hby at_76 (pc' := 85) (by decide) (by decide) (show (0 : Int32) = (0 : Int32) by decide) ?_
    refine own_aload X40 hx hby at_85 (pc' := 87) rfl rfl rfl ?_
    rcases Decidable.em ((4 : Int32) = n) with hf41 | hf41
    · show own_End p e below _ (T40.setTop (mkF m 87 #[.val (.int p0), .val (.int p1), .val (.int n), .val (.int (4 : Int32)), .val (.ref b1), .val (.int (0 : Int32))] [(.ref b1)]))
      refine own_lk4 hw X40 hx hZ hby (by rw [hml]; rfl) hown at_87 (pc' := 90) rfl rfl O40.1 (W := 0) (Nat.le_of_eq rfl) (rm4 l Z a0 hw [] b1 b36 (4 : Int32) k36 n (1 : Int32) T40.heap n0 Zn O40 f_V_b36 (by simp [own_eq, hf41])) (by decide) (by decide) (by decide) (by decide) (fun v42 T42 L42 X42 hQ42 => ?_)
      obtain ⟨rfl, Nq42, e42⟩ := hQ42
      have N42 := Fr.app N40 Nq42
      show own_End p e below _ (T42.setTop (mkF m 90 _ [(.int (1 : Int32))]))
      refine own_iloadN X42 hx hby at_90 (pc' := 91) rfl rfl ?_
      refine own_iloadN X42 hx hby at_91 (pc' := 92) rfl rfl ?_
      refine own_icN X42 hx hby at_92 (pc' := 95) rfl (show (4 : Int32) = n from hf41) ?_
      refine own_iconst X42 hx hby at_95 (pc' := 96) rfl (n := (1 : Int32)) (by decide) ?_
      refine own_goto X42 hx hby at_96 (pc' := 100) (by decide) (by decide) ?_
      refine own_icN X42 hx hby at_100 (pc' := 103) rfl (show (1 : Int32) = (1 : Int32) by decide) ?_
      refine own_iconst X42 hx hby at_103 (pc' := 104) rfl (n := (1 : Int32)) (by decide) ?_
      refine own_goto X42 hx hby at_104 (pc' := 108) (by decide) (by decide) ?_
      refine own_zreturn X42 hx hlk hby hret (Or.inr rfl) at_108 (own_lvS hS (by rw [e42]; exact hSn) ?_ (by decide) (by decide))
      show Q0 Z p0 p1  h0 n0 (some (.int (1 : Int32))) T42.heap _
      rw [e42]
      exact ⟨rfl, N42⟩
    · show own_End p e below _ (T40.setTop (mkF m 87 #[.val (.int p0), .val (.int p1), .val (.int n), .val (.int (4 : Int32)), .val (.ref b1), .val (.int (0 : Int32))] [(.ref b1)]))
      refine own_lk4 hw X40 hx hZ hby (by rw [hml]; rfl) hown at_87 (pc' := 90) rfl rfl O40.1 (W := 0) (Nat.le_of_eq rfl) (rm4 l Z a0 hw [] b1 b36 (4 : Int32) k36 n (0 : Int32) T40.heap n0 Zn O40 f_V_b36 (by simp [own_eq, hf41])) (by decide) (by decide) (by decide) (by decide) (fun v43 T43 L43 X43 hQ43 => ?_)
      obtain ⟨rfl, Nq43, e43⟩ := hQ43
      have N43 := Fr.app N40 Nq43
      show own_End p e below _ (T43.setTop (mkF m 90 _ [(.int (0 : Int32))]))
      refine own_iloadN X43 hx hby at_90 (pc' := 91) rfl rfl ?_
      refine own_iloadN X43 hx hby at_91 (pc' := 92) rfl rfl ?_
      refine own_icY X43 hx hby at_92 (pc' := 99) (by decide) (by decide) (show ¬ (4 : Int32) = n from hf41) ?_
      refine own_iconst X43 hx hby at_99 (pc' := 100) rfl (n := (0 : Int32)) (by decide) ?_
      refine own_icN X43 hx hby at_100 (pc' := 103) rfl (show (0 : Int32) = (0 : Int32) by decide) ?_
      refine own_iconst X43 hx hby at_103 (pc' := 104) rfl (n := (1 : Int32)) (by decide) ?_
      refine own_goto X43 hx hby at_104 (pc' := 108) (by decide) (by decide) ?_
      refine own_zreturn X43 hx hlk hby hret (Or.inr rfl) at_108 (own_lvS hS (by rw [e43]; exact hSn) ?_ (by decide) (by decide))
      show Q0 Z p0 p1  h0 n0 (some (.int (1 : Int32))) T43.heap _
      rw [e43]
      exact ⟨rfl, N43⟩
  · have hrn : 5 ≤ n.toInt := hr.2
    show own_End p e below _ (T1.setTop (mkF m 17 #[.val (.int p0), .val (.int p1), .val (.int n), .val (.int (5 : Int32)), .unset, .unset] [(.ref b1)]))
    refine own_dup X1 hx hby at_17 (pc' := 18) rfl rfl ?_
    refine own_iloadN X1 hx hby at_18 (pc' := 19) rfl rfl ?_
    refine own_newPE (aty := .byte) X1 hx hZ hby (ad := "[B") (by decide) (wd_4 hw) e1 at_19 (pc' := 21) rfl (own_nn n hn) (cap := 7) (own_cap n hn) (by decide) (by decide) (by decide) (fun T44 h44 k44 b44 g44 X44 e44 E44 A44 Ex44 => ?_)
    have ne_b1_b44 : b1 ≠ b44 := Nat.ne_of_lt (by rw [g44]; exact f_O_b1.lt)
    have ge_b44 : n0 ≤ b44 := by rw [g44]; exact Zn
    have f_O_b1 := f_O_b1.ext E44
    have Zn := Nat.le_trans Zn E44.1
    have hSn := Nat.le_trans hSn E44.1
    have f_V_b44 : Arv Z h44 b44 k44 .byte n [] (.int (0 : Int32)) := Arv.new A44 (own_nn n hn)
    refine own_lk3 hw X44 hx hZ hby (by rw [hml]; rfl) hown at_21 (pc' := 24) rfl e44 (W := 1) (Nat.le_of_eq rfl) (rm1 l Z a0 hw [] b1 b44 h44 n0 Zn f_O_b1 ge_b1 Ex44) (by decide) (by decide) (by decide) (by decide) hS hSn (fun v45 T45 L45 X45 hS hSn hZ hown hQ45 => ?_)
    obtain ⟨rfl, Nq45, K45, O45⟩ := hQ45
    have N45 := Fr.app N0 Nq45
    have Ex44 := Ex44.keep K45
    have f_V_b44 := f_V_b44.keep K45 (ninS (Ne.symm ne_b1_b44) nin0)
    have Zn := Nat.le_trans Zn K45.1
    show own_End p e below _ (T45.setTop (mkF m 24 _ [(.ref b1)]))
    refine own_astore X45 hx hby at_24 (pc' := 26) rfl rfl (l' := #[.val (.int p0), .val (.int p1), .val (.int n), .val (.int (5 : Int32)), .val (.ref b1), .unset]) rfl ?_
    refine own_aload X45 hx hby at_26 (pc' := 28) rfl rfl rfl ?_
    refine own_lk4 hw X45 hx hZ hby (by rw [hml]; rfl) hown at_28 (pc' := 31) rfl rfl O45.1 (W := 0) (Nat.le_of_eq rfl) (rm4 l Z a0 hw [] b1 b44 (0 : Int32) k44 n (0 : Int32) T45.heap n0 Zn O45 f_V_b44 (by simp [own_eq, (Ne.symm (own_pos n 5 hrn (by decide)))])) (by decide) (by decide) (by decide) (by decide) (fun v46 T46 L46 X46 hQ46 => ?_)
    obtain ⟨rfl, Nq46, e46⟩ := hQ46
    have N46 := Fr.app N45 Nq46
    show own_End p e below _ (T46.setTop (mkF m 31 _ [(.int (0 : Int32))]))
    refine own_istore X46 hx hby at_31 (pc' := 33) rfl (l' := #[.val (.int p0), .val (.int p1), .val (.int n), .val (.int (5 : Int32)), .val (.ref b1), .val (.int (0 : Int32))]) rfl ?_
    refine own_iload X46 hx hby at_33 (pc' := 35) rfl rfl ?_
    refine own_iloadN X46 hx hby at_35 (pc' := 36) rfl rfl ?_
    refine own_ifY X46 hx hby at_36 (pc' := 43) (by decide) (by decide) (show ¬ n = (0 : Int32) from (own_pos n 5 hrn (by decide))) ?_
    refine own_iconst X46 hx hby at_43 (pc' := 44) rfl (n := (0 : Int32)) (by decide) ?_
    refine own_icY X46 hx hby at_44 (pc' := 49) (by decide) (by decide) (show (0 : Int32) = (0 : Int32) by decide) ?_
    refine own_iloadN X46 hx hby at_49 (pc' := 50) rfl rfl ?_
    refine own_iconst X46 hx hby at_50 (pc' := 51) rfl (n := (4 : Int32)) (by decide) ?_
    refine own_iand X46 hx hby at_51 (pc' := 52) rfl ?_
    show own_End p e below _ (T46.setTop (mkF m 52 #[.val (.int p0), .val (.int p1), .val (.int n), .val (.int (5 : Int32)), .val (.ref b1), .val (.int (0 : Int32))] [(.int (4 : Int32))]))
    refine own_ifN X46 hx hby at_52 (pc' := 55) rfl (show ¬ (4 : Int32) = (0 : Int32) by decide) ?_
    refine own_aload X46 hx hby at_55 (pc' := 57) rfl rfl rfl ?_
    refine own_lk7 hw X46 hx hZ hby (by rw [hml]; rfl) hown at_57 (pc' := 60) rfl e46 O45.1 (W := 0) (Nat.le_of_eq rfl) (rm9 l Z a0 hw [] b1 b44 (0 : Int32) k44 n T45.heap n0 Zn O45 f_V_b44 ge_b1 ⟨by decide, by have e : (0 : Int32).toInt = 0 := rfl; omega, hn.2⟩) (by decide) (by decide) (by decide) (by decide) hS hSn (fun v48 T48 L48 X48 hS hSn hZ hown hQ48 => ?_)
    obtain ⟨z47, rfl, Nq48, K48, O48⟩ := hQ48
    have N48 := Fr.app N46 Nq48
    have Ex44 := Ex44.keep K48
    have f_V_b44 := f_V_b44.keep K48 (ninS (Ne.symm ne_b1_b44) nin0)
    have Zn := Nat.le_trans Zn K48.1
    have O48 : own_FD Z T48.heap b1 (.ref b44) (4 : Int32) := O48
    show own_End p e below _ (T48.setTop (mkF m 60 _ [(.long z47)]))
    refine own_pop2 X48 hx hby at_60 (pc' := 61) rfl ?_
    refine own_iloadN X48 hx hby at_61 (pc' := 62) rfl rfl ?_
    refine own_iconst X48 hx hby at_62 (pc' := 63) rfl (n := (2 : Int32)) (by decide) ?_
    refine own_iand X48 hx hby at_63 (pc' := 64) rfl ?_
    show own_End p e below _ (T48.setTop (mkF m 64 #[.val (.int p0), .val (.int p1), .val (.int n), .val (.int (5 : Int32)), .val (.ref b1), .val (.int (0 : Int32))] [(.int (0 : Int32))]))
    refine own_ifY X48 hx hby at_64 (pc' := 73) (by decide) (by decide) (show (0 : Int32) = (0 : Int32) by decide) ?_
    refine own_iloadN X48 hx hby at_73 (pc' := 74) rfl rfl ?_
    refine own_iconst X48 hx hby at_74 (pc' := 75) rfl (n := (1 : Int32)) (by decide) ?_
    refine own_iand X48 hx hby at_75 (pc' := 76) rfl ?_
    show own_End p e below _ (T48.setTop (mkF m 76 #[.val (.int p0), .val (.int p1), .val (.int n), .val (.int (5 : Int32)), .val (.ref b1), .val (.int (0 : Int32))] [(.int (1 : Int32))]))
    refine own_ifN X48 hx hby at_76 (pc' := 79) rfl (show ¬ (1 : Int32) = (0 : Int32) by decide) ?_
    refine own_aload X48 hx hby at_79 (pc' := 81) rfl rfl rfl ?_
    refine own_lk5 hw X48 hx hZ hby (by rw [hml]; rfl) hown at_81 (pc' := 84) rfl rfl O48.1 (W := 0) (Nat.le_of_eq rfl) (rm5 l Z a0 hw [] b1 b44 (4 : Int32) k44 n T48.heap n0 Zn O48 f_V_b44 ge_b1 ⟨by decide, by have e : (4 : Int32).toInt = 4 := rfl; omega, hn.2⟩) (by decide) (by decide) (by decide) (by decide) hS hSn (fun v50 T50 L50 X50 hS hSn hZ hown hQ50 => ?_)
    obtain ⟨z49, rfl, Nq50, K50, O50⟩ := hQ50
    have N50 := Fr.app N48 Nq50
    have Ex44 := Ex44.keep K50
    have f_V_b44 := f_V_b44.keep K50 (ninS (Ne.symm ne_b1_b44) nin0)
    have Zn := Nat.le_trans Zn K50.1
    have O50 : own_FD Z T50.heap b1 (.ref b44) (5 : Int32) := O50
    show own_End p e below _ (T50.setTop (mkF m 84 _ [(.int z49)]))
    refine own_pop X50 hx hby at_84 (pc' := 85) rfl rfl ?_
    refine own_aload X50 hx hby at_85 (pc' := 87) rfl rfl rfl ?_
    rcases Decidable.em ((5 : Int32) = n) with hf51 | hf51
    · show own_End p e below _ (T50.setTop (mkF m 87 #[.val (.int p0), .val (.int p1), .val (.int n), .val (.int (5 : Int32)), .val (.ref b1), .val (.int (0 : Int32))] [(.ref b1)]))
      refine own_lk4 hw X50 hx hZ hby (by rw [hml]; rfl) hown at_87 (pc' := 90) rfl rfl O50.1 (W := 0) (Nat.le_of_eq rfl) (rm4 l Z a0 hw [] b1 b44 (5 : Int32) k44 n (1 : Int32) T50.heap n0 Zn O50 f_V_b44 (by simp [own_eq, hf51])) (by decide) (by decide) (by decide) (by decide) (fun v52 T52 L52 X52 hQ52 => ?_)
      obtain ⟨rfl, Nq52, e52⟩ := hQ52
      have N52 := Fr.app N50 Nq52
      show own_End p e below _ (T52.setTop (mkF m 90 _ [(.int (1 : Int32))]))
      refine own_iloadN X52 hx hby at_90 (pc' := 91) rfl rfl ?_
      refine own_iloadN X52 hx hby at_91 (pc' := 92) rfl rfl ?_
      refine own_icN X52 hx hby at_92 (pc' := 95) rfl (show (5 : Int32) = n from hf51) ?_
      refine own_iconst X52 hx hby at_95 (pc' := 96) rfl (n := (1 : Int32)) (by decide) ?_
      refine own_goto X52 hx hby at_96 (pc' := 100) (by decide) (by decide) ?_
      refine own_icN X52 hx hby at_100 (pc' := 103) rfl (show (1 : Int32) = (1 : Int32) by decide) ?_
      refine own_iconst X52 hx hby at_103 (pc' := 104) rfl (n := (1 : Int32)) (by decide) ?_
      refine own_goto X52 hx hby at_104 (pc' := 108) (by decide) (by decide) ?_
      refine own_zreturn X52 hx hlk hby hret (Or.inr rfl) at_108 (own_lvS hS (by rw [e52]; exact hSn) ?_ (by decide) (by decide))
      show Q0 Z p0 p1  h0 n0 (some (.int (1 : Int32))) T52.heap _
      rw [e52]
      exact ⟨rfl, N52⟩
    · show own_End p e below _ (T50.setTop (mkF m 87 #[.val (.int p0), .val (.int p1), .val (.int n), .val (.int (5 : Int32)), .val (.ref b1), .val (.int (0 : Int32))] [(.ref b1)]))
      refine own_lk4 hw X50 hx hZ hby (by rw [hml]; rfl) hown at_87 (pc' := 90) rfl rfl O50.1 (W := 0) (Nat.le_of_eq rfl) (rm4 l Z a0 hw [] b1 b44 (5 : Int32) k44 n (0 : Int32) T50.heap n0 Zn O50 f_V_b44 (by simp [own_eq, hf51])) (by decide) (by decide) (by decide) (by decide) (fun v53 T53 L53 X53 hQ53 => ?_)
      obtain ⟨rfl, Nq53, e53⟩ := hQ53
      have N53 := Fr.app N50 Nq53
      show own_End p e below _ (T53.setTop (mkF m 90 _ [(.int (0 : Int32))]))
      refine own_iloadN X53 hx hby at_90 (pc' := 91) rfl rfl ?_
      refine own_iloadN X53 hx hby at_91 (pc' := 92) rfl rfl ?_
      refine own_icY X53 hx hby at_92 (pc' := 99) (by decide) (by decide) (show ¬ (5 : Int32) = n from hf51) ?_
      refine own_iconst X53 hx hby at_99 (pc' := 100) rfl (n := (0 : Int32)) (by decide) ?_
      refine own_icN X53 hx hby at_100 (pc' := 103) rfl (show (0 : Int32) = (0 : Int32) by decide) ?_
      refine own_iconst X53 hx hby at_103 (pc' := 104) rfl (n := (1 : Int32)) (by decide) ?_
      refine own_goto X53 hx hby at_104 (pc' := 108) (by decide) (by decide) ?_
      refine own_zreturn X53 hx hlk hby hret (Or.inr rfl) at_108 (own_lvS hS (by rw [e53]; exact hSn) ?_ (by decide) (by decide))
      show Q0 Z p0 p1  h0 n0 (some (.int (1 : Int32))) T53.heap _
      rw [e53]
      exact ⟨rfl, N53⟩
  · have hrn : 6 ≤ n.toInt := hr.2
    show own_End p e below _ (T1.setTop (mkF m 17 #[.val (.int p0), .val (.int p1), .val (.int n), .val (.int (6 : Int32)), .unset, .unset] [(.ref b1)]))
    refine own_dup X1 hx hby at_17 (pc' := 18) rfl rfl ?_
    refine own_iloadN X1 hx hby at_18 (pc' := 19) rfl rfl ?_
    refine own_newPE (aty := .byte) X1 hx hZ hby (ad := "[B") (by decide) (wd_4 hw) e1 at_19 (pc' := 21) rfl (own_nn n hn) (cap := 7) (own_cap n hn) (by decide) (by decide) (by decide) (fun T54 h54 k54 b54 g54 X54 e54 E54 A54 Ex54 => ?_)
    have ne_b1_b54 : b1 ≠ b54 := Nat.ne_of_lt (by rw [g54]; exact f_O_b1.lt)
    have ge_b54 : n0 ≤ b54 := by rw [g54]; exact Zn
    have f_O_b1 := f_O_b1.ext E54
    have Zn := Nat.le_trans Zn E54.1
    have hSn := Nat.le_trans hSn E54.1
    have f_V_b54 : Arv Z h54 b54 k54 .byte n [] (.int (0 : Int32)) := Arv.new A54 (own_nn n hn)
    refine own_lk3 hw X54 hx hZ hby (by rw [hml]; rfl) hown at_21 (pc' := 24) rfl e54 (W := 1) (Nat.le_of_eq rfl) (rm1 l Z a0 hw [] b1 b54 h54 n0 Zn f_O_b1 ge_b1 Ex54) (by decide) (by decide) (by decide) (by decide) hS hSn (fun v55 T55 L55 X55 hS hSn hZ hown hQ55 => ?_)
    obtain ⟨rfl, Nq55, K55, O55⟩ := hQ55
    have N55 := Fr.app N0 Nq55
    have Ex54 := Ex54.keep K55
    have f_V_b54 := f_V_b54.keep K55 (ninS (Ne.symm ne_b1_b54) nin0)
    have Zn := Nat.le_trans Zn K55.1
    show own_End p e below _ (T55.setTop (mkF m 24 _ [(.ref b1)]))
    refine own_astore X55 hx hby at_24 (pc' := 26) rfl rfl (l' := #[.val (.int p0), .val (.int p1), .val (.int n), .val (.int (6 : Int32)), .val (.ref b1), .unset]) rfl ?_
    refine own_aload X55 hx hby at_26 (pc' := 28) rfl rfl rfl ?_
    refine own_lk4 hw X55 hx hZ hby (by rw [hml]; rfl) hown at_28 (pc' := 31) rfl rfl O55.1 (W := 0) (Nat.le_of_eq rfl) (rm4 l Z a0 hw [] b1 b54 (0 : Int32) k54 n (0 : Int32) T55.heap n0 Zn O55 f_V_b54 (by simp [own_eq, (Ne.symm (own_pos n 6 hrn (by decide)))])) (by decide) (by decide) (by decide) (by decide) (fun v56 T56 L56 X56 hQ56 => ?_)
    obtain ⟨rfl, Nq56, e56⟩ := hQ56
    have N56 := Fr.app N55 Nq56
    show own_End p e below _ (T56.setTop (mkF m 31 _ [(.int (0 : Int32))]))
    refine own_istore X56 hx hby at_31 (pc' := 33) rfl (l' := #[.val (.int p0), .val (.int p1), .val (.int n), .val (.int (6 : Int32)), .val (.ref b1), .val (.int (0 : Int32))]) rfl ?_
    refine own_iload X56 hx hby at_33 (pc' := 35) rfl rfl ?_
    refine own_iloadN X56 hx hby at_35 (pc' := 36) rfl rfl ?_
    refine own_ifY X56 hx hby at_36 (pc' := 43) (by decide) (by decide) (show ¬ n = (0 : Int32) from (own_pos n 6 hrn (by decide))) ?_
    refine own_iconst X56 hx hby at_43 (pc' := 44) rfl (n := (0 : Int32)) (by decide) ?_
    refine own_icY X56 hx hby at_44 (pc' := 49) (by decide) (by decide) (show (0 : Int32) = (0 : Int32) by decide) ?_
    refine own_iloadN X56 hx hby at_49 (pc' := 50) rfl rfl ?_
    refine own_iconst X56 hx hby at_50 (pc' := 51) rfl (n := (4 : Int32)) (by decide) ?_
    refine own_iand X56 hx hby at_51 (pc' := 52) rfl ?_
    show own_End p e below _ (T56.setTop (mkF m 52 #[.val (.int p0), .val (.int p1), .val (.int n), .val (.int (6 : Int32)), .val (.ref b1), .val (.int (0 : Int32))] [(.int (4 : Int32))]))
    refine own_ifN X56 hx hby at_52 (pc' := 55) rfl (show ¬ (4 : Int32) = (0 : Int32) by decide) ?_
    refine own_aload X56 hx hby at_55 (pc' := 57) rfl rfl rfl ?_
    refine own_lk7 hw X56 hx hZ hby (by rw [hml]; rfl) hown at_57 (pc' := 60) rfl e56 O55.1 (W := 0) (Nat.le_of_eq rfl) (rm9 l Z a0 hw [] b1 b54 (0 : Int32) k54 n T55.heap n0 Zn O55 f_V_b54 ge_b1 ⟨by decide, by have e : (0 : Int32).toInt = 0 := rfl; omega, hn.2⟩) (by decide) (by decide) (by decide) (by decide) hS hSn (fun v58 T58 L58 X58 hS hSn hZ hown hQ58 => ?_)
    obtain ⟨z57, rfl, Nq58, K58, O58⟩ := hQ58
    have N58 := Fr.app N56 Nq58
    have Ex54 := Ex54.keep K58
    have f_V_b54 := f_V_b54.keep K58 (ninS (Ne.symm ne_b1_b54) nin0)
    have Zn := Nat.le_trans Zn K58.1
    have O58 : own_FD Z T58.heap b1 (.ref b54) (4 : Int32) := O58
    show own_End p e below _ (T58.setTop (mkF m 60 _ [(.long z57)]))
    refine own_pop2 X58 hx hby at_60 (pc' := 61) rfl ?_
    refine own_iloadN X58 hx hby at_61 (pc' := 62) rfl rfl ?_
    refine own_iconst X58 hx hby at_62 (pc' := 63) rfl (n := (2 : Int32)) (by decide) ?_
    refine own_iand X58 hx hby at_63 (pc' := 64) rfl ?_
    show own_End p e below _ (T58.setTop (mkF m 64 #[.val (.int p0), .val (.int p1), .val (.int n), .val (.int (6 : Int32)), .val (.ref b1), .val (.int (0 : Int32))] [(.int (2 : Int32))]))
    refine own_ifN X58 hx hby at_64 (pc' := 67) rfl (show ¬ (2 : Int32) = (0 : Int32) by decide) ?_
    refine own_aload X58 hx hby at_67 (pc' := 69) rfl rfl rfl ?_
    refine own_lk6 hw X58 hx hZ hby (by rw [hml]; rfl) hown at_69 (pc' := 72) rfl rfl O58.1 (W := 0) (Nat.le_of_eq rfl) (rm8 l Z a0 hw [] b1 b54 (4 : Int32) k54 n T58.heap n0 Zn O58 f_V_b54 ge_b1 ⟨by decide, by have e : (4 : Int32).toInt = 4 := rfl; omega, hn.2⟩) (by decide) (by decide) (by decide) (by decide) hS hSn (fun v60 T60 L60 X60 hS hSn hZ hown hQ60 => ?_)
    obtain ⟨z59, rfl, Nq60, K60, O60⟩ := hQ60
    have N60 := Fr.app N58 Nq60
    have Ex54 := Ex54.keep K60
    have f_V_b54 := f_V_b54.keep K60 (ninS (Ne.symm ne_b1_b54) nin0)
    have Zn := Nat.le_trans Zn K60.1
    have O60 : own_FD Z T60.heap b1 (.ref b54) (6 : Int32) := O60
    show own_End p e below _ (T60.setTop (mkF m 72 _ [(.int z59)]))
    refine own_pop X60 hx hby at_72 (pc' := 73) rfl rfl ?_
    refine own_iloadN X60 hx hby at_73 (pc' := 74) rfl rfl ?_
    refine own_iconst X60 hx hby at_74 (pc' := 75) rfl (n := (1 : Int32)) (by decide) ?_
    refine own_iand X60 hx hby at_75 (pc' := 76) rfl ?_
    show own_End p e below _ (T60.setTop (mkF m 76 #[.val (.int p0), .val (.int p1), .val (.int n), .val (.int (6 : Int32)), .val (.ref b1), .val (.int (0 : Int32))] [(.int (0 : Int32))]))
    refine own_ifY X60 hx hby at_76 (pc' := 85) (by decide) (by decide) (show (0 : Int32) = (0 : Int32) by decide) ?_
    refine own_aload X60 hx hby at_85 (pc' := 87) rfl rfl rfl ?_
    rcases Decidable.em ((6 : Int32) = n) with hf61 | hf61
    · show own_End p e below _ (T60.setTop (mkF m 87 #[.val (.int p0), .val (.int p1), .val (.int n), .val (.int (6 : Int32)), .val (.ref b1), .val (.int (0 : Int32))] [(.ref b1)]))
      refine own_lk4 hw X60 hx hZ hby (by rw [hml]; rfl) hown at_87 (pc' := 90) rfl rfl O60.1 (W := 0) (Nat.le_of_eq rfl) (rm4 l Z a0 hw [] b1 b54 (6 : Int32) k54 n (1 : Int32) T60.heap n0 Zn O60 f_V_b54 (by simp [own_eq, hf61])) (by decide) (by decide) (by decide) (by decide) (fun v62 T62 L62 X62 hQ62 => ?_)
      obtain ⟨rfl, Nq62, e62⟩ := hQ62
      have N62 := Fr.app N60 Nq62
      show own_End p e below _ (T62.setTop (mkF m 90 _ [(.int (1 : Int32))]))
      refine own_iloadN X62 hx hby at_90 (pc' := 91) rfl rfl ?_
      refine own_iloadN X62 hx hby at_91 (pc' := 92) rfl rfl ?_
      refine own_icN X62 hx hby at_92 (pc' := 95) rfl (show (6 : Int32) = n from hf61) ?_
      refine own_iconst X62 hx hby at_95 (pc' := 96) rfl (n := (1 : Int32)) (by decide) ?_
      refine own_goto X62 hx hby at_96 (pc' := 100) (by decide) (by decide) ?_
      refine own_icN X62 hx hby at_100 (pc' := 103) rfl (show (1 : Int32) = (1 : Int32) by decide) ?_
      refine own_iconst X62 hx hby at_103 (pc' := 104) rfl (n := (1 : Int32)) (by decide) ?_
      refine own_goto X62 hx hby at_104 (pc' := 108) (by decide) (by decide) ?_
      refine own_zreturn X62 hx hlk hby hret (Or.inr rfl) at_108 (own_lvS hS (by rw [e62]; exact hSn) ?_ (by decide) (by decide))
      show Q0 Z p0 p1  h0 n0 (some (.int (1 : Int32))) T62.heap _
      rw [e62]
      exact ⟨rfl, N62⟩
    · show own_End p e below _ (T60.setTop (mkF m 87 #[.val (.int p0), .val (.int p1), .val (.int n), .val (.int (6 : Int32)), .val (.ref b1), .val (.int (0 : Int32))] [(.ref b1)]))
      refine own_lk4 hw X60 hx hZ hby (by rw [hml]; rfl) hown at_87 (pc' := 90) rfl rfl O60.1 (W := 0) (Nat.le_of_eq rfl) (rm4 l Z a0 hw [] b1 b54 (6 : Int32) k54 n (0 : Int32) T60.heap n0 Zn O60 f_V_b54 (by simp [own_eq, hf61])) (by decide) (by decide) (by decide) (by decide) (fun v63 T63 L63 X63 hQ63 => ?_)
      obtain ⟨rfl, Nq63, e63⟩ := hQ63
      have N63 := Fr.app N60 Nq63
      show own_End p e below _ (T63.setTop (mkF m 90 _ [(.int (0 : Int32))]))
      refine own_iloadN X63 hx hby at_90 (pc' := 91) rfl rfl ?_
      refine own_iloadN X63 hx hby at_91 (pc' := 92) rfl rfl ?_
      refine own_icY X63 hx hby at_92 (pc' := 99) (by decide) (by decide) (show ¬ (6 : Int32) = n from hf61) ?_
      refine own_iconst X63 hx hby at_99 (pc' := 100) rfl (n := (0 : Int32)) (by decide) ?_
      refine own_icN X63 hx hby at_100 (pc' := 103) rfl (show (0 : Int32) = (0 : Int32) by decide) ?_
      refine own_iconst X63 hx hby at_103 (pc' := 104) rfl (n := (1 : Int32)) (by decide) ?_
      refine own_goto X63 hx hby at_104 (pc' := 108) (by decide) (by decide) ?_
      refine own_zreturn X63 hx hlk hby hret (Or.inr rfl) at_108 (own_lvS hS (by rw [e63]; exact hSn) ?_ (by decide) (by decide))
      show Q0 Z p0 p1  h0 n0 (some (.int (1 : Int32))) T63.heap _
      rw [e63]
      exact ⟨rfl, N63⟩
  · have hrn : 7 ≤ n.toInt := hr.2
    show own_End p e below _ (T1.setTop (mkF m 17 #[.val (.int p0), .val (.int p1), .val (.int n), .val (.int (7 : Int32)), .unset, .unset] [(.ref b1)]))
    refine own_dup X1 hx hby at_17 (pc' := 18) rfl rfl ?_
    refine own_iloadN X1 hx hby at_18 (pc' := 19) rfl rfl ?_
    refine own_newPE (aty := .byte) X1 hx hZ hby (ad := "[B") (by decide) (wd_4 hw) e1 at_19 (pc' := 21) rfl (own_nn n hn) (cap := 7) (own_cap n hn) (by decide) (by decide) (by decide) (fun T64 h64 k64 b64 g64 X64 e64 E64 A64 Ex64 => ?_)
    have ne_b1_b64 : b1 ≠ b64 := Nat.ne_of_lt (by rw [g64]; exact f_O_b1.lt)
    have ge_b64 : n0 ≤ b64 := by rw [g64]; exact Zn
    have f_O_b1 := f_O_b1.ext E64
    have Zn := Nat.le_trans Zn E64.1
    have hSn := Nat.le_trans hSn E64.1
    have f_V_b64 : Arv Z h64 b64 k64 .byte n [] (.int (0 : Int32)) := Arv.new A64 (own_nn n hn)
    refine own_lk3 hw X64 hx hZ hby (by rw [hml]; rfl) hown at_21 (pc' := 24) rfl e64 (W := 1) (Nat.le_of_eq rfl) (rm1 l Z a0 hw [] b1 b64 h64 n0 Zn f_O_b1 ge_b1 Ex64) (by decide) (by decide) (by decide) (by decide) hS hSn (fun v65 T65 L65 X65 hS hSn hZ hown hQ65 => ?_)
    obtain ⟨rfl, Nq65, K65, O65⟩ := hQ65
    have N65 := Fr.app N0 Nq65
    have Ex64 := Ex64.keep K65
    have f_V_b64 := f_V_b64.keep K65 (ninS (Ne.symm ne_b1_b64) nin0)
    have Zn := Nat.le_trans Zn K65.1
    show own_End p e below _ (T65.setTop (mkF m 24 _ [(.ref b1)]))
    refine own_astore X65 hx hby at_24 (pc' := 26) rfl rfl (l' := #[.val (.int p0), .val (.int p1), .val (.int n), .val (.int (7 : Int32)), .val (.ref b1), .unset]) rfl ?_
    refine own_aload X65 hx hby at_26 (pc' := 28) rfl rfl rfl ?_
    refine own_lk4 hw X65 hx hZ hby (by rw [hml]; rfl) hown at_28 (pc' := 31) rfl rfl O65.1 (W := 0) (Nat.le_of_eq rfl) (rm4 l Z a0 hw [] b1 b64 (0 : Int32) k64 n (0 : Int32) T65.heap n0 Zn O65 f_V_b64 (by simp [own_eq, (Ne.symm (own_pos n 7 hrn (by decide)))])) (by decide) (by decide) (by decide) (by decide) (fun v66 T66 L66 X66 hQ66 => ?_)
    obtain ⟨rfl, Nq66, e66⟩ := hQ66
    have N66 := Fr.app N65 Nq66
    show own_End p e below _ (T66.setTop (mkF m 31 _ [(.int (0 : Int32))]))
    refine own_istore X66 hx hby at_31 (pc' := 33) rfl (l' := #[.val (.int p0), .val (.int p1), .val (.int n), .val (.int (7 : Int32)), .val (.ref b1), .val (.int (0 : Int32))]) rfl ?_
    refine own_iload X66 hx hby at_33 (pc' := 35) rfl rfl ?_
    refine own_iloadN X66 hx hby at_35 (pc' := 36) rfl rfl ?_
    refine own_ifY X66 hx hby at_36 (pc' := 43) (by decide) (by decide) (show ¬ n = (0 : Int32) from (own_pos n 7 hrn (by decide))) ?_
    refine own_iconst X66 hx hby at_43 (pc' := 44) rfl (n := (0 : Int32)) (by decide) ?_
    refine own_icY X66 hx hby at_44 (pc' := 49) (by decide) (by decide) (show (0 : Int32) = (0 : Int32) by decide) ?_
    refine own_iloadN X66 hx hby at_49 (pc' := 50) rfl rfl ?_
    refine own_iconst X66 hx hby at_50 (pc' := 51) rfl (n := (4 : Int32)) (by decide) ?_
    refine own_iand X66 hx hby at_51 (pc' := 52) rfl ?_
    show own_End p e below _ (T66.setTop (mkF m 52 #[.val (.int p0), .val (.int p1), .val (.int n), .val (.int (7 : Int32)), .val (.ref b1), .val (.int (0 : Int32))] [(.int (4 : Int32))]))
    refine own_ifN X66 hx hby at_52 (pc' := 55) rfl (show ¬ (4 : Int32) = (0 : Int32) by decide) ?_
    refine own_aload X66 hx hby at_55 (pc' := 57) rfl rfl rfl ?_
    refine own_lk7 hw X66 hx hZ hby (by rw [hml]; rfl) hown at_57 (pc' := 60) rfl e66 O65.1 (W := 0) (Nat.le_of_eq rfl) (rm9 l Z a0 hw [] b1 b64 (0 : Int32) k64 n T65.heap n0 Zn O65 f_V_b64 ge_b1 ⟨by decide, by have e : (0 : Int32).toInt = 0 := rfl; omega, hn.2⟩) (by decide) (by decide) (by decide) (by decide) hS hSn (fun v68 T68 L68 X68 hS hSn hZ hown hQ68 => ?_)
    obtain ⟨z67, rfl, Nq68, K68, O68⟩ := hQ68
    have N68 := Fr.app N66 Nq68
    have Ex64 := Ex64.keep K68
    have f_V_b64 := f_V_b64.keep K68 (ninS (Ne.symm ne_b1_b64) nin0)
    have Zn := Nat.le_trans Zn K68.1
    have O68 : own_FD Z T68.heap b1 (.ref b64) (4 : Int32) := O68
    show own_End p e below _ (T68.setTop (mkF m 60 _ [(.long z67)]))
    refine own_pop2 X68 hx hby at_60 (pc' := 61) rfl ?_
    refine own_iloadN X68 hx hby at_61 (pc' := 62) rfl rfl ?_
    refine own_iconst X68 hx hby at_62 (pc' := 63) rfl (n := (2 : Int32)) (by decide) ?_
    refine own_iand X68 hx hby at_63 (pc' := 64) rfl ?_
    show own_End p e below _ (T68.setTop (mkF m 64 #[.val (.int p0), .val (.int p1), .val (.int n), .val (.int (7 : Int32)), .val (.ref b1), .val (.int (0 : Int32))] [(.int (2 : Int32))]))
    refine own_ifN X68 hx hby at_64 (pc' := 67) rfl (show ¬ (2 : Int32) = (0 : Int32) by decide) ?_
    refine own_aload X68 hx hby at_67 (pc' := 69) rfl rfl rfl ?_
    refine own_lk6 hw X68 hx hZ hby (by rw [hml]; rfl) hown at_69 (pc' := 72) rfl rfl O68.1 (W := 0) (Nat.le_of_eq rfl) (rm8 l Z a0 hw [] b1 b64 (4 : Int32) k64 n T68.heap n0 Zn O68 f_V_b64 ge_b1 ⟨by decide, by have e : (4 : Int32).toInt = 4 := rfl; omega, hn.2⟩) (by decide) (by decide) (by decide) (by decide) hS hSn (fun v70 T70 L70 X70 hS hSn hZ hown hQ70 => ?_)
    obtain ⟨z69, rfl, Nq70, K70, O70⟩ := hQ70
    have N70 := Fr.app N68 Nq70
    have Ex64 := Ex64.keep K70
    have f_V_b64 := f_V_b64.keep K70 (ninS (Ne.symm ne_b1_b64) nin0)
    have Zn := Nat.le_trans Zn K70.1
    have O70 : own_FD Z T70.heap b1 (.ref b64) (6 : Int32) := O70
    show own_End p e below _ (T70.setTop (mkF m 72 _ [(.int z69)]))
    refine own_pop X70 hx hby at_72 (pc' := 73) rfl rfl ?_
    refine own_iloadN X70 hx hby at_73 (pc' := 74) rfl rfl ?_
    refine own_iconst X70 hx hby at_74 (pc' := 75) rfl (n := (1 : Int32)) (by decide) ?_
    refine own_iand X70 hx hby at_75 (pc' := 76) rfl ?_
    show own_End p e below _ (T70.setTop (mkF m 76 #[.val (.int p0), .val (.int p1), .val (.int n), .val (.int (7 : Int32)), .val (.ref b1), .val (.int (0 : Int32))] [(.int (1 : Int32))]))
    refine own_ifN X70 hx hby at_76 (pc' := 79) rfl (show ¬ (1 : Int32) = (0 : Int32) by decide) ?_
    refine own_aload X70 hx hby at_79 (pc' := 81) rfl rfl rfl ?_
    refine own_lk5 hw X70 hx hZ hby (by rw [hml]; rfl) hown at_81 (pc' := 84) rfl rfl O70.1 (W := 0) (Nat.le_of_eq rfl) (rm5 l Z a0 hw [] b1 b64 (6 : Int32) k64 n T70.heap n0 Zn O70 f_V_b64 ge_b1 ⟨by decide, by have e : (6 : Int32).toInt = 6 := rfl; omega, hn.2⟩) (by decide) (by decide) (by decide) (by decide) hS hSn (fun v72 T72 L72 X72 hS hSn hZ hown hQ72 => ?_)
    obtain ⟨z71, rfl, Nq72, K72, O72⟩ := hQ72
    have N72 := Fr.app N70 Nq72
    have Ex64 := Ex64.keep K72
    have f_V_b64 := f_V_b64.keep K72 (ninS (Ne.symm ne_b1_b64) nin0)
    have Zn := Nat.le_trans Zn K72.1
    have O72 : own_FD Z T72.heap b1 (.ref b64) (7 : Int32) := O72
    show own_End p e below _ (T72.setTop (mkF m 84 _ [(.int z71)]))
    refine own_pop X72 hx hby at_84 (pc' := 85) rfl rfl ?_
    refine own_aload X72 hx hby at_85 (pc' := 87) rfl rfl rfl ?_
    rcases Decidable.em ((7 : Int32) = n) with hf73 | hf73
    · show own_End p e below _ (T72.setTop (mkF m 87 #[.val (.int p0), .val (.int p1), .val (.int n), .val (.int (7 : Int32)), .val (.ref b1), .val (.int (0 : Int32))] [(.ref b1)]))
      refine own_lk4 hw X72 hx hZ hby (by rw [hml]; rfl) hown at_87 (pc' := 90) rfl rfl O72.1 (W := 0) (Nat.le_of_eq rfl) (rm4 l Z a0 hw [] b1 b64 (7 : Int32) k64 n (1 : Int32) T72.heap n0 Zn O72 f_V_b64 (by simp [own_eq, hf73])) (by decide) (by decide) (by decide) (by decide) (fun v74 T74 L74 X74 hQ74 => ?_)
      obtain ⟨rfl, Nq74, e74⟩ := hQ74
      have N74 := Fr.app N72 Nq74
      show own_End p e below _ (T74.setTop (mkF m 90 _ [(.int (1 : Int32))]))
      refine own_iloadN X74 hx hby at_90 (pc' := 91) rfl rfl ?_
      refine own_iloadN X74 hx hby at_91 (pc' := 92) rfl rfl ?_
      refine own_icN X74 hx hby at_92 (pc' := 95) rfl (show (7 : Int32) = n from hf73) ?_
      refine own_iconst X74 hx hby at_95 (pc' := 96) rfl (n := (1 : Int32)) (by decide) ?_
      refine own_goto X74 hx hby at_96 (pc' := 100) (by decide) (by decide) ?_
      refine own_icN X74 hx hby at_100 (pc' := 103) rfl (show (1 : Int32) = (1 : Int32) by decide) ?_
      refine own_iconst X74 hx hby at_103 (pc' := 104) rfl (n := (1 : Int32)) (by decide) ?_
      refine own_goto X74 hx hby at_104 (pc' := 108) (by decide) (by decide) ?_
      refine own_zreturn X74 hx hlk hby hret (Or.inr rfl) at_108 (own_lvS hS (by rw [e74]; exact hSn) ?_ (by decide) (by decide))
      show Q0 Z p0 p1  h0 n0 (some (.int (1 : Int32))) T74.heap _
      rw [e74]
      exact ⟨rfl, N74⟩
    · show own_End p e below _ (T72.setTop (mkF m 87 #[.val (.int p0), .val (.int p1), .val (.int n), .val (.int (7 : Int32)), .val (.ref b1), .val (.int (0 : Int32))] [(.ref b1)]))
      refine own_lk4 hw X72 hx hZ hby (by rw [hml]; rfl) hown at_87 (pc' := 90) rfl rfl O72.1 (W := 0) (Nat.le_of_eq rfl) (rm4 l Z a0 hw [] b1 b64 (7 : Int32) k64 n (0 : Int32) T72.heap n0 Zn O72 f_V_b64 (by simp [own_eq, hf73])) (by decide) (by decide) (by decide) (by decide) (fun v75 T75 L75 X75 hQ75 => ?_)
      obtain ⟨rfl, Nq75, e75⟩ := hQ75
      have N75 := Fr.app N72 Nq75
      show own_End p e below _ (T75.setTop (mkF m 90 _ [(.int (0 : Int32))]))
      refine own_iloadN X75 hx hby at_90 (pc' := 91) rfl rfl ?_
      refine own_iloadN X75 hx hby at_91 (pc' := 92) rfl rfl ?_
      refine own_icY X75 hx hby at_92 (pc' := 99) (by decide) (by decide) (show ¬ (7 : Int32) = n from hf73) ?_
      refine own_iconst X75 hx hby at_99 (pc' := 100) rfl (n := (0 : Int32)) (by decide) ?_
      refine own_icN X75 hx hby at_100 (pc' := 103) rfl (show (0 : Int32) = (0 : Int32) by decide) ?_
      refine own_iconst X75 hx hby at_103 (pc' := 104) rfl (n := (1 : Int32)) (by decide) ?_
      refine own_goto X75 hx hby at_104 (pc' := 108) (by decide) (by decide) ?_
      refine own_zreturn X75 hx hlk hby hret (Or.inr rfl) at_108 (own_lvS hS (by rw [e75]; exact hSn) ?_ (by decide) (by decide))
      show Q0 Z p0 p1  h0 n0 (some (.int (1 : Int32))) T75.heap _
      rw [e75]
      exact ⟨rfl, N75⟩
set_option maxRecDepth 65536 in
set_option maxHeartbeats 40000000 in
theorem rm0 (l : Launch) (Z : State) (a0 : Array Value) (hw : ∀ d ∈ tables_1, d.before a0 Z = true) (ws : List Jvm.Cond) (p0 : Int32) (p1 : Int32) (h0 : Heap) (n0 : Nat) (Z0 : n0 ≤ h0.size)  :
    MetFree l x (head1 (Jvm.Cond.code x code maxLocals ret :: ws) room_1) (fun aa U => aa = #[(.int p0), (.int p1)] ∧ Z.Warmed39 U.vm ∧ U.heap = h0) (fun _ _ _ _ _ => True) (fun _ U oc U' => ∃ v L, oc = .returned v ∧ Q0 Z p0 p1 h0 n0 v U'.heap L ∧ ReturnedEndW U oc U' L room_1.cells room_1.slots) := by
  refine MetFree.of_bodySF (plainFor_of_name own_pn9) hisR ?_
  intro p e s m args below meth c s₁ Bd hml0 hP hK
  obtain ⟨rfl, hZ, hh⟩ := hP
  have hx := Bd.exec
  have hby := Bd.bytes
  have hlk := Bd.notSynchronized
  have hret := Bd.returns
  have hml : c.maxLocals = 6 := hml0
  have hown : s.vm.findClass "com/example/hermod/hermod/xrap/FrameReaderAtEndPinLaw" = some m.cls := findClass_of_methodNamed Bd.named
  have hnm := (name_of_methodNamed Bd.named Bd.method).1
  have X0 : Stand p l e room_1 s m #[(.int p0), (.int p1)] below meth c s₁ [] 0 0 := Stand.of_body Bd
  have e0 : s₁.heap = h0 := by rw [← hh, Bd.state]; rfl
  have N0 := Fr.nil n0
  refine own_bodyS (Q := Q0 Z p0 p1 h0 n0) (KC := room_1.cells) (KS := room_1.slots) ?_
  rw [own_ef_rm0 m p0 p1]
  have X0 : Stand p l e room_1 (s.setVm s.vm) m #[(.int p0), (.int p1)] below meth c s₁ [] 0 0 := X0
  have hS : s.Since s.vm h0.size := (State.WarmedH.refl s).since _
  have hSn : h0.size ≤ h0.size := Nat.le_refl _
  refine own_iloadN X0 hx hby at_0 (pc' := 1) rfl rfl ?_
  refine own_bipush X0 hx hby at_1 (pc' := 3) rfl (n := (7 : Int32)) (by decide) ?_
  refine own_iand X0 hx hby at_3 (pc' := 4) rfl ?_
  refine own_istoreN X0 hx hby at_4 (pc' := 5) rfl (l' := #[.val (.int p0), .val (.int p1), .val (.int (p0 &&& (7 : Int32))), .unset, .unset, .unset]) rfl ?_
  refine own_iloadN X0 hx hby at_5 (pc' := 6) rfl rfl ?_
  refine own_ldcInt X0 hx hZ hby hown (wd_0 hw) at_6 (pc' := 8) rfl ?_
  refine own_iand X0 hx hby at_8 (pc' := 9) rfl ?_
  refine own_iloadN X0 hx hby at_9 (pc' := 10) rfl rfl ?_
  refine own_iconst X0 hx hby at_10 (pc' := 11) rfl (n := (1 : Int32)) (by decide) ?_
  refine own_iadd X0 hx hby at_11 (pc' := 12) rfl ?_
  refine own_irem X0 hx hby at_12 (pc' := 13) rfl (own_nz _ (own_n7 p0)) ?_
  refine own_istoreN X0 hx hby at_13 (pc' := 14) rfl (l' := #[.val (.int p0), .val (.int p1), .val (.int (p0 &&& (7 : Int32))), .val (.int ((p1 &&& (2147483647 : Int32)) % ((p0 &&& (7 : Int32)) + (1 : Int32)))), .unset, .unset]) rfl ?_
  exact own_s14 Z a0 hw p0 p1 (p0 &&& (7 : Int32)) ((p1 &&& (2147483647 : Int32)) % ((p0 &&& (7 : Int32)) + (1 : Int32)))  h0 n0 h0 (own_mono X0 (by decide) (by decide)) hx hby hlk hml hown hret hZ e0 N0 Z0 hS hSn  (own_n7 p0) (own_rr p1 _ (own_n7 p0))
set_option maxRecDepth 65536 in
set_option maxHeartbeats 40000000 in
theorem comes_1 {Post : Tables → Env → Array Value → State → Outcome → State → Prop} (hpost : ∀ tb e args s v u, (limb_1_1.after args s (.returned v) u = true ∧ limb_1_2.after args s (.returned v) u = true ∧ True) → ReturnedEndW s (.returned v) u (Jvm.fieldLocs frame_1_writes args s ++ Jvm.arrayLocs frame_1_arrays args s ++ Jvm.staticLocs frame_1_statics s) 24 4224 → Post tb e args s (.returned v) u) :
    ArmFor flags0 classFile x code maxLocals ret World_1 tables_1 room_1 Calls_1 rest_1 Pre_1 Post := by
  intro l hfl _ _ p e ha hc hk s m args below hf hA hF happ hP
  obtain ⟨hcalls, hrest, hpre⟩ := hP
  obtain ⟨-, -, -, hnamed, -, -, -, hat⟩ := (Spec.applies_iff hf).mp happ
  obtain ⟨hg, hn⟩ := and_e (Cond.before_iff.mp (show (Jvm.Cond.and given_1 narrow_1).before args s = true from hpre))
  obtain ⟨g1, g2⟩ := and_e hg
  obtain ⟨g3, g4⟩ := and_e g2
  obtain ⟨w0, w1, rfl⟩ : ∃ w0 w1 : Value, args = #[w0, w1] := by
    have hs : args.size = 2 := by simpa [Cond.value, given_1] using g1
    obtain ⟨L⟩ := args
    match L, hs with
    | [w0, w1], _ => exact ⟨w0, w1, rfl⟩
  have hw := fun d (hd : d ∈ tables_1) => atoms_spec (ws := Jvm.Cond.code x code maxLocals ret :: tables_1) hat d (List.mem_cons_of_mem _ hd)
  have hfit : Fit s := fun {y c} hc i hi => by
    obtain ⟨ha, rfl⟩ := Array.getElem?_eq_some_iff.mp hc
    have q := List.all_eq_true.mp ((Array.all_eq_true_iff_forall_mem.mp hF) _ (Array.getElem_mem ha)) i (List.mem_range.mpr hi)
    simpa [Array.getElem?_eq_getElem hi] using q
  obtain ⟨i0, ei0⟩ := is_v g3
  obtain rfl : w0 = (.int i0) := Option.some.inj ei0
  obtain ⟨i1, ei1⟩ := is_v g4
  obtain rfl : w1 = (.int i1) := Option.some.inj ei1
  obtain ⟨n, o, h1, h2, h3, _, L, rfl, ⟨rfl, N⟩, hq⟩ := rm0 l s _ hw tables_1 i0 i1 s.heap s.heap.size (Nat.le_refl _)  p e ha hc hk s m _ below hf ((Spec.applies_iff_loose hf).mp happ).1 ⟨rfl, State.Warmed39.refl s, rfl⟩ trivial
  refine ⟨n, _, h1, h2, h3, hpost _ _ _ _ _ _ ⟨Cond.after_iff.mpr rfl, Cond.after_iff.mpr (eq_i res_at (Term.int_eval (1)) rfl), trivial⟩ ⟨hq.1, hq.2.1, hq.2.2.1, (hq.2.2.2.sift fun y hy => Or.inr (N y hy)).mono (by decide) (by decide)⟩⟩
theorem main_1_1 : Claimed_1_1 := comes_1 fun _ _ _ _ _ _ h hF => ⟨h.1, hF⟩
theorem main_1_2 : Claimed_1_2 := comes_1 fun _ _ _ _ _ _ h hF => ⟨h.2.1, hF⟩
end Jvm.Pilot.@@N@@
namespace Jvm.Pilot.@@N@@
open Jvm Jvm.ClassFile Sem Op Lib Jvm.Free Jvm.Stand Jvm.Pilot.@@N@@.Jvm.D
/-! MADE BY PROGRAM (witnessworld.py) out of the Statement's table words and the real class files: 15 classes; the members and pool entries that the words name. The judged class is class 1, her method 1. -/
namespace start1
open Jvm.ClassFile
def u (s : String) : CpInfo := .utf8 (stringToUtf16 s)
/-- a pool by its gaps: so many unusable entries, then the entry; so many at the end -/
def gap : Nat → List CpInfo → List CpInfo
  | 0, r => r
  | n + 1, r => .unusable :: gap n r
def poolList (es : List (Nat × CpInfo)) (last : Nat) : List CpInfo := es.foldr (fun e r => gap e.1 (e.2 :: r)) (gap last [])
def pool (es : List (Nat × CpInfo)) (last : Nat) : Array CpInfo := ⟨poolList es last⟩
def fileOf (pool : Array CpInfo) (this : Nat) (attrs : Array Attribute := #[]) (ms : Array MethodInfo := #[]) (fl : Nat := 33) (sup : Nat := 0) (ifs : Array Nat := #[]) (fds : Array FieldInfo := #[]) : ClassFile where
  minorVersion := 0
  majorVersion := 65
  constantPool := pool
  accessFlags := fl
  thisClass := this
  superClass := sup
  interfaces := ifs
  fields := fds
  methods := ms
  attributes := attrs
def plain (name : String) (sup : Option ClassId) : Class where
  name := name
  kind := .ordinary
  loader := none
  accessFlags := 33
  super := sup
  interfaces := #[]
  cf := none
  fields := #[]
  methods := #[]
  instanceTypes := #[]
  staticTypes := #[]
  resolved := #[]
  callSites := []
  init := .initialized
  statics := none
  mirror := none

def pool0 : Array CpInfo := pool [(5, u "<init>"), (0, u "()V"), (1, .class_ 10), (1, u "java/lang/Object")] 113

def k0c0 : Code := { maxStack := 0, maxLocals := 1, code := object_method_1_code, exceptionTable := #[], attributes := #[] }
def k0m0 : Method := { name := "<init>", desc := "()V", sig := { parameters := [], returnType := none }, accessFlags := 1, code := some k0c0 }
/-- java/lang/Object -/
def k0 : Class := { plain "java/lang/Object" none with
  accessFlags := 33
  interfaces := #[]
  cf := some (fileOf pool0 8 #[] #[{ accessFlags := 1, nameIndex := 5, descriptorIndex := 6, attributes := #[] }] 33 0 #[] #[])
  fields := #[]
  methods := #[k0m0]
  instanceTypes := #[]
  staticTypes := #[]
  resolved := Array.replicate 124 none
  statics := none }

def pool1 : Array CpInfo := pool [(2, .class_ 4), (1, u "java/lang/Object"), (0, u "<init>"), (0, u "()V"), (0, .integer 2147483647), (0, .class_ 9), (0, u "com/example/hermod/hermod/xrap/FrameReader"), (0, .methodref 8 11), (0, .nameAndType 5 12), (0, u "([B)V"), (0, .methodref 8 14), (0, .nameAndType 15 16), (0, u "atEnd"), (0, u "()Z"), (0, .methodref 8 18), (0, .nameAndType 19 20), (0, u "readNumber4"), (0, u "()J"), (0, .methodref 8 22), (0, .nameAndType 23 24), (0, u "readNumber2"), (0, u "()I"), (0, .methodref 8 26), (0, .nameAndType 27 24), (0, u "readNumber1"), (0, .class_ 29), (0, u "com/example/hermod/hermod/xrap/FrameReaderAtEndPinLaw"), (2, u "law"), (0, u "(II)Z")] 6

def k1m0 : Method := { name := "<init>", desc := "()V", sig := { parameters := [], returnType := none }, accessFlags := 1, code := none }
def k1c1 : Code := { maxStack := 3, maxLocals := 6, code := code, exceptionTable := #[], attributes := #[] }
def k1m1 : Method := { name := "law", desc := "(II)Z", sig := { parameters := [.int, .int], returnType := some .boolean }, accessFlags := 9, code := some k1c1 }
/-- com/example/hermod/hermod/xrap/FrameReaderAtEndPinLaw -/
def k1 : Class := { plain "com/example/hermod/hermod/xrap/FrameReaderAtEndPinLaw" (some 0) with
  accessFlags := 49
  interfaces := #[]
  cf := some (fileOf pool1 28 #[] #[{ accessFlags := 1, nameIndex := 5, descriptorIndex := 6, attributes := #[] }, { accessFlags := 9, nameIndex := 32, descriptorIndex := 33, attributes := #[] }] 49 2 #[] #[])
  fields := #[]
  methods := #[k1m0, k1m1]
  instanceTypes := #[]
  staticTypes := #[]
  resolved := Array.replicate 40 none
  statics := none }

def pool2 : Array CpInfo := pool [(1, .methodref 2 3), (0, .class_ 4), (0, .nameAndType 5 6), (0, u "java/lang/Object"), (0, u "<init>"), (0, u "()V"), (0, .string 8), (0, u "frame"), (0, .methodref 10 11), (0, .class_ 12), (0, .nameAndType 13 14), (0, u "java/util/Objects"), (0, u "requireNonNull"), (0, u "(Ljava/lang/Object;Ljava/lang/String;)Ljava/lang/Object;"), (0, .class_ 16), (0, u "[B"), (0, .fieldref 18 19), (0, .class_ 20), (0, .nameAndType 8 16), (0, u "com/example/hermod/hermod/xrap/FrameReader"), (0, .string 22), (0, u "number1"), (0, .methodref 18 24), (0, .nameAndType 25 26), (0, u "readNumber"), (0, u "(ILjava/lang/String;)J"), (0, .string 28), (0, u "number2"), (0, .string 30), (0, u "number4"), (4, u "readNumber1"), (0, u "()I"), (2, .methodref 18 40), (0, .nameAndType 41 42), (0, u "claim"), (0, u "(JLjava/lang/String;)I"), (7, .fieldref 18 51), (0, .nameAndType 52 53), (0, u "position"), (0, u "I"), (8, u "readNumber4"), (0, u "()J"), (26, u "atEnd"), (0, u "()Z"), (52, u "([B)V"), (3, u "readNumber2")] 32

def k2c0 : Code := { maxStack := 3, maxLocals := 2, code := prog_14_method_1_code, exceptionTable := #[], attributes := #[] }
def k2m0 : Method := { name := "<init>", desc := "([B)V", sig := { parameters := [(.array .byte)], returnType := none }, accessFlags := 1, code := some k2c0 }
def k2c1 : Code := { maxStack := 3, maxLocals := 1, code := prog_14_method_2_code, exceptionTable := #[], attributes := #[] }
def k2m1 : Method := { name := "readNumber1", desc := "()I", sig := { parameters := [], returnType := some .int }, accessFlags := 1, code := some k2c1 }
def k2c2 : Code := { maxStack := 3, maxLocals := 1, code := prog_14_method_3_code, exceptionTable := #[], attributes := #[] }
def k2m2 : Method := { name := "readNumber2", desc := "()I", sig := { parameters := [], returnType := some .int }, accessFlags := 1, code := some k2c2 }
def k2c3 : Code := { maxStack := 3, maxLocals := 1, code := prog_14_method_4_code, exceptionTable := #[], attributes := #[] }
def k2m3 : Method := { name := "readNumber4", desc := "()J", sig := { parameters := [], returnType := some .long }, accessFlags := 1, code := some k2c3 }
def k2c4 : Code := { maxStack := 2, maxLocals := 1, code := prog_14_method_9_code, exceptionTable := #[], attributes := #[] }
def k2m4 : Method := { name := "atEnd", desc := "()Z", sig := { parameters := [], returnType := some .boolean }, accessFlags := 1, code := some k2c4 }
def k2c5 : Code := { maxStack := 4, maxLocals := 7, code := prog_14_method_11_code, exceptionTable := #[], attributes := #[] }
def k2m5 : Method := { name := "readNumber", desc := "(ILjava/lang/String;)J", sig := { parameters := [.int, (.object "java/lang/String")], returnType := some .long }, accessFlags := 2, code := some k2c5 }
def k2c6 : Code := { maxStack := 7, maxLocals := 5, code := prog_14_method_13_code, exceptionTable := #[], attributes := #[] }
def k2m6 : Method := { name := "claim", desc := "(JLjava/lang/String;)I", sig := { parameters := [.long, (.object "java/lang/String")], returnType := some .int }, accessFlags := 2, code := some k2c6 }
/-- com/example/hermod/hermod/xrap/FrameReader -/
def k2 : Class := { plain "com/example/hermod/hermod/xrap/FrameReader" (some 0) with
  accessFlags := 49
  interfaces := #[]
  cf := some (fileOf pool2 18 #[] #[{ accessFlags := 1, nameIndex := 5, descriptorIndex := 144, attributes := #[] }, { accessFlags := 1, nameIndex := 35, descriptorIndex := 36, attributes := #[] }, { accessFlags := 1, nameIndex := 148, descriptorIndex := 36, attributes := #[] }, { accessFlags := 1, nameIndex := 62, descriptorIndex := 63, attributes := #[] }, { accessFlags := 1, nameIndex := 90, descriptorIndex := 91, attributes := #[] }, { accessFlags := 2, nameIndex := 25, descriptorIndex := 26, attributes := #[] }, { accessFlags := 2, nameIndex := 41, descriptorIndex := 42, attributes := #[] }] 49 2 #[] #[{ accessFlags := 18, nameIndex := 8, descriptorIndex := 16, attributes := #[] }, { accessFlags := 2, nameIndex := 52, descriptorIndex := 53, attributes := #[] }])
  fields := #[{ name := "frame", type := (.array .byte), accessFlags := 18, slot := 0, constantValue := 0 }, { name := "position", type := .int, accessFlags := 2, slot := 1, constantValue := 0 }]
  methods := #[k2m0, k2m1, k2m2, k2m3, k2m4, k2m5, k2m6]
  instanceTypes := #[(.array .byte), .int]
  staticTypes := #[]
  resolved := Array.replicate 181 none
  statics := none }

def pool3 : Array CpInfo := pool [(1, .class_ 2), (0, u "java/io/Serializable"), (0, .class_ 4), (0, u "java/lang/Object")] 2

/-- java/io/Serializable -/
def k3 : Class := { plain "java/io/Serializable" (some 0) with
  accessFlags := 1537
  interfaces := #[]
  cf := some (fileOf pool3 1 #[] #[] 1537 3 #[] #[])
  fields := #[]
  methods := #[]
  instanceTypes := #[]
  staticTypes := #[]
  resolved := Array.replicate 7 none
  statics := none }

def pool4 : Array CpInfo := pool [(1, .class_ 2), (0, u "java/lang/Comparable"), (0, .class_ 4), (0, u "java/lang/Object")] 7

/-- java/lang/Comparable -/
def k4 : Class := { plain "java/lang/Comparable" (some 0) with
  accessFlags := 1537
  interfaces := #[]
  cf := some (fileOf pool4 1 #[] #[] 1537 3 #[] #[])
  fields := #[]
  methods := #[]
  instanceTypes := #[]
  staticTypes := #[]
  resolved := Array.replicate 12 none
  statics := none }

def pool5 : Array CpInfo := pool [(2, .class_ 4), (1, u "java/lang/CharSequence"), (42, .class_ 48), (0, u "java/lang/CharSequence$1CodePointIterator"), (10, .class_ 60), (0, u "java/lang/CharSequence$1CharIterator"), (5, .class_ 67), (0, u "java/lang/Object")] 63

/-- java/lang/CharSequence -/
def k5 : Class := { plain "java/lang/CharSequence" (some 0) with
  accessFlags := 1537
  interfaces := #[]
  cf := some (fileOf pool5 2 #[.nestMembers #[47, 59]] #[] 1537 66 #[] #[])
  fields := #[]
  methods := #[]
  instanceTypes := #[]
  staticTypes := #[]
  resolved := Array.replicate 131 none
  statics := none }

def pool6 : Array CpInfo := pool [(1, .class_ 2), (0, u "java/lang/constant/Constable"), (0, .class_ 4), (0, u "java/lang/Object")] 6

/-- java/lang/constant/Constable -/
def k6 : Class := { plain "java/lang/constant/Constable" (some 0) with
  accessFlags := 1537
  interfaces := #[]
  cf := some (fileOf pool6 1 #[] #[] 1537 3 #[] #[])
  fields := #[]
  methods := #[]
  instanceTypes := #[]
  staticTypes := #[]
  resolved := Array.replicate 11 none
  statics := none }

def pool7 : Array CpInfo := pool [(1, .class_ 2), (0, u "java/lang/constant/ConstantDesc"), (0, .class_ 4), (0, u "java/lang/Object")] 32

/-- java/lang/constant/ConstantDesc -/
def k7 : Class := { plain "java/lang/constant/ConstantDesc" (some 0) with
  accessFlags := 1537
  interfaces := #[]
  cf := some (fileOf pool7 1 #[] #[] 1537 3 #[] #[])
  fields := #[]
  methods := #[]
  instanceTypes := #[]
  staticTypes := #[]
  resolved := Array.replicate 37 none
  statics := none }

def pool8 : Array CpInfo := pool [(2, .class_ 4), (1, u "java/lang/Object"), (0, u "<init>"), (0, u "()V"), (3, .class_ 12), (1, u "java/lang/String"), (0, u "value"), (0, u "[B"), (2, u "coder"), (0, u "B"), (2, u "hash"), (0, u "I"), (2, u "hashIsZero"), (0, u "Z"), (13, u "COMPACT_STRINGS"), (534, .class_ 576), (0, u "java/lang/CharSequence"), (22, u "CASE_INSENSITIVE_ORDER"), (0, u "Ljava/util/Comparator;"), (500, u "serialPersistentFields"), (0, u "[Ljava/io/ObjectStreamField;"), (0, .class_ 1104), (0, u "java/lang/String$CaseInsensitiveComparator"), (1, .class_ 1107), (0, u "java/io/Serializable"), (0, .class_ 1109), (0, u "java/lang/Comparable"), (0, .class_ 1111), (0, u "java/lang/constant/Constable"), (0, .class_ 1113), (0, u "java/lang/constant/ConstantDesc"), (2, u "serialVersionUID"), (0, u "J"), (3, u "REPL"), (0, u "C"), (2, u "LATIN1"), (1, u "UTF16")] 323

def k8m0 : Method := { name := "<init>", desc := "()V", sig := { parameters := [], returnType := none }, accessFlags := 1, code := none }
/-- java/lang/String -/
def k8 : Class := { plain "java/lang/String" (some 0) with
  accessFlags := 49
  interfaces := #[3, 4, 5, 6, 7]
  cf := some (fileOf pool8 10 #[.nestMembers #[1103]] #[{ accessFlags := 1, nameIndex := 5, descriptorIndex := 6, attributes := #[] }] 49 2 #[1106, 1108, 575, 1110, 1112] #[{ accessFlags := 18, nameIndex := 13, descriptorIndex := 14, attributes := #[] }, { accessFlags := 18, nameIndex := 17, descriptorIndex := 18, attributes := #[] }, { accessFlags := 2, nameIndex := 21, descriptorIndex := 22, attributes := #[] }, { accessFlags := 2, nameIndex := 25, descriptorIndex := 26, attributes := #[] }, { accessFlags := 26, nameIndex := 1116, descriptorIndex := 1117, attributes := #[] }, { accessFlags := 24, nameIndex := 40, descriptorIndex := 26, attributes := #[] }, { accessFlags := 26, nameIndex := 1101, descriptorIndex := 1102, attributes := #[] }, { accessFlags := 26, nameIndex := 1121, descriptorIndex := 1122, attributes := #[] }, { accessFlags := 25, nameIndex := 599, descriptorIndex := 600, attributes := #[] }, { accessFlags := 24, nameIndex := 1125, descriptorIndex := 18, attributes := #[] }, { accessFlags := 24, nameIndex := 1127, descriptorIndex := 18, attributes := #[] }])
  fields := #[{ name := "value", type := (.array .byte), accessFlags := 18, slot := 0, constantValue := 0 }, { name := "coder", type := .byte, accessFlags := 18, slot := 1, constantValue := 0 }, { name := "hash", type := .int, accessFlags := 2, slot := 2, constantValue := 0 }, { name := "hashIsZero", type := .boolean, accessFlags := 2, slot := 3, constantValue := 0 }, { name := "serialVersionUID", type := .long, accessFlags := 26, slot := 0, constantValue := 0 }, { name := "COMPACT_STRINGS", type := .boolean, accessFlags := 24, slot := 1, constantValue := 0 }, { name := "serialPersistentFields", type := (.array (.object "java/io/ObjectStreamField")), accessFlags := 26, slot := 2, constantValue := 0 }, { name := "REPL", type := .char, accessFlags := 26, slot := 3, constantValue := 0 }, { name := "CASE_INSENSITIVE_ORDER", type := (.object "java/util/Comparator"), accessFlags := 25, slot := 4, constantValue := 0 }, { name := "LATIN1", type := .byte, accessFlags := 24, slot := 5, constantValue := 0 }, { name := "UTF16", type := .byte, accessFlags := 24, slot := 6, constantValue := 0 }]
  methods := #[k8m0]
  instanceTypes := #[(.array .byte), .byte, .int, .boolean]
  staticTypes := #[.long, .boolean, (.array (.object "java/io/ObjectStreamField")), .char, (.object "java/util/Comparator"), .byte, .byte]
  resolved := Array.replicate 1451 none
  statics := none }

def pool9 : Array CpInfo := pool [(2, .class_ 4), (1, u "java/lang/Object"), (0, u "<init>"), (0, u "()V"), (35, .class_ 44), (1, u "java/util/Objects"), (0, u "requireNonNull"), (48, u "(Ljava/lang/Object;Ljava/lang/String;)Ljava/lang/Object;")] 89

def k9m0 : Method := { name := "<init>", desc := "()V", sig := { parameters := [], returnType := none }, accessFlags := 2, code := none }
def k9c1 : Code := { maxStack := 3, maxLocals := 2, code := jdk_31_method_11_code, exceptionTable := #[], attributes := #[] }
def k9m1 : Method := { name := "requireNonNull", desc := "(Ljava/lang/Object;Ljava/lang/String;)Ljava/lang/Object;", sig := { parameters := [(.object "java/lang/Object"), (.object "java/lang/String")], returnType := some (.object "java/lang/Object") }, accessFlags := 9, code := some k9c1 }
/-- java/util/Objects -/
def k9 : Class := { plain "java/util/Objects" (some 0) with
  accessFlags := 49
  interfaces := #[]
  cf := some (fileOf pool9 42 #[] #[{ accessFlags := 2, nameIndex := 5, descriptorIndex := 6, attributes := #[] }, { accessFlags := 9, nameIndex := 45, descriptorIndex := 94, attributes := #[] }] 49 2 #[] #[])
  fields := #[]
  methods := #[k9m0, k9m1]
  instanceTypes := #[]
  staticTypes := #[]
  resolved := Array.replicate 184 none
  statics := none }

def pool10 : Array CpInfo := pool [(1, u "java/lang/Cloneable"), (0, .class_ 1), (0, u "java/lang/Object"), (0, .class_ 3)] 3

/-- java/lang/Cloneable -/
def k10 : Class := { plain "java/lang/Cloneable" (some 0) with
  accessFlags := 1537
  interfaces := #[]
  cf := some (fileOf pool10 2 #[] #[] 1537 4 #[] #[])
  fields := #[]
  methods := #[]
  instanceTypes := #[]
  staticTypes := #[]
  resolved := Array.replicate 8 none
  statics := none }

/-- the primitive byte -/
def k11 : Class := { plain "byte" none with kind := .primitive 'B', accessFlags := 0x411 }
/-- [B -/
def k12 : Class := { plain "[B" (some 0) with kind := .array 11 .byte, interfaces := #[10, 3], accessFlags := 1041 }

/-- the primitive int -/
def k13 : Class := { plain "int" none with kind := .primitive 'I', accessFlags := 0x411 }
/-- [I -/
def k14 : Class := { plain "[I" (some 0) with kind := .array 13 .int, interfaces := #[10, 3], accessFlags := 1041 }

def heap : Heap := #[]
def classes : Array Class := #[k0, k1, k2, k3, k4, k5, k6, k7, k8, k9, k10, k11, k12, k13, k14]
def interned : List (Array UInt16 × Addr) := []
def slotsUsed : Nat := 0
def theMethod : MethodId := ⟨1, 1⟩
def args0 : Array Value := #[.int 5, .int 5]
def aboutOver (below : List Frame) : State where
  vm := { classes := classes, interned := interned.toArray }
  heap := heap
  slotsUsed := slotsUsed
  threads := #[{ frames := .invoking theMethod args0 :: below }]
def below0 : List Frame := [.native { method := ⟨0, 0⟩, args := #[] }]
def about1 : State := aboutOver below0
def p0 : Program := .bare "" "" ""
def e0 : Env := launch0.env 0 0 0
theorem w_frames : about1.frames = Frame.invoking theMethod args0 :: below0 := rfl
set_option maxRecDepth 65536 in
theorem w_args : argsFit about1.vm theMethod args0 = true := by decide +kernel
set_option maxRecDepth 65536 in
theorem w_heap : heapFits about1 = true := by decide +kernel
set_option maxRecDepth 65536 in
theorem w_runnable : about1.curStatus? = some .runnable := by decide +kernel
set_option maxRecDepth 65536 in
theorem w_alone : about1.alone = true := by decide +kernel
set_option maxRecDepth 65536 in
theorem w_named : about1.methodNamed? x = some theMethod := by decide +kernel
set_option maxRecDepth 65536 in
theorem w_hears : about1.hears theMethod below0 = true := by decide +kernel
set_option maxRecDepth 65536 in
theorem w_ripe : about1.ripe theMethod args0 below0 = true := by decide +kernel
theorem w_running : about1.status = .running := rfl
set_option maxRecDepth 65536 in
theorem w_room : about1.hasRoom e0.platform room_1 = true :=
  launch0.hasRoom_least _ room_1 (by decide +kernel) (by decide +kernel) (by decide +kernel) (by decide +kernel) (by decide +kernel) (by decide +kernel)
theorem allAtoms_all (ts : List Jvm.Cond) (a : Array Jvm.Value) (st : Jvm.State) : (allAtoms ts).before a st = ts.all (fun c => c.before a st) := by
  induction ts with
  | nil => rfl
  | cons c t ih =>
    show (Jvm.Cond.and c (allAtoms t)).before a st = _
    rw [Jvm.Cond.before_and, ih, List.all_cons]
def words1 : List Jvm.Cond := Jvm.Cond.code x code maxLocals ret :: tables_1
/-- a 'code' word, met by the world's own term for the bytes: nothing is compared byte by byte -/
theorem code_word {y : MethodName} {bytes : ByteArray} {mx : Nat} {rt : Option FieldType} {a : Array Value} {s : State} {m : MethodId} {meth : Method} {c : Code} (h1 : s.methodNamed? y = some m) (h2 : s.vm.method? m = some meth) (h3 : meth.code = some c) (h4 : c.code = bytes)
    (h5 : (c.maxLocals == mx && c.exceptionTable.isEmpty && decide (c.maxStack ≤ mostOperands) && decide (meth.sig.returnType = rt) && !meth.locks && decide (parseMethodDescriptor y.desc = some meth.sig)) = true) : (Jvm.Cond.code y bytes mx rt).before a s = true := by
  simp only [Bool.and_eq_true, beq_iff_eq, Bool.not_eq_true', decide_eq_true_eq] at h5
  obtain ⟨⟨⟨⟨⟨g1, g2⟩, g3⟩, g4⟩, g5⟩, g6⟩ := h5
  simp [Cond.before, Cond.holds, Cond.value, h1, h2, h3, h4, g1, g2, g3, g4, g5, g6]
def isCode : Jvm.Cond → Bool
  | .code _ _ _ _ => true
  | _ => false
theorem all_split {L : List Jvm.Cond} {P : Jvm.Cond → Bool} (h1 : L.all (fun c => isCode c || P c) = true) (h2 : ∀ c ∈ L.filter isCode, P c = true) : L.all P = true := by
  refine List.all_eq_true.mpr fun c hc => ?_
  have h := List.all_eq_true.mp h1 c hc
  rcases Bool.eq_false_or_eq_true (isCode c) with hi | hi
  · exact h2 c (List.mem_filter.mpr ⟨hc, hi⟩)
  · simpa [hi] using h
set_option maxRecDepth 65536 in
theorem w_c0 : (Jvm.Cond.code x code maxLocals ret).before args0 about1 = true := code_word (m := ⟨1, 1⟩) (meth := k1m1) (c := k1c1) (by decide +kernel) rfl rfl rfl (by decide +kernel)
set_option maxRecDepth 65536 in
theorem w_c1 : (Jvm.Cond.code ({ cls := "com/example/hermod/hermod/xrap/FrameReader", name := "<init>", desc := "([B)V" } : Jvm.MethodName) prog_14_method_1_code (2 : Nat) (Option.none : Option Jvm.ClassFile.FieldType)).before args0 about1 = true := code_word (m := ⟨2, 0⟩) (meth := k2m0) (c := k2c0) (by decide +kernel) rfl rfl rfl (by decide +kernel)
set_option maxRecDepth 65536 in
theorem w_c2 : (Jvm.Cond.code ({ cls := "java/lang/Object", name := "<init>", desc := "()V" } : Jvm.MethodName) object_method_1_code (1 : Nat) (Option.none : Option Jvm.ClassFile.FieldType)).before args0 about1 = true := code_word (m := ⟨0, 0⟩) (meth := k0m0) (c := k0c0) (by decide +kernel) rfl rfl rfl (by decide +kernel)
set_option maxRecDepth 65536 in
theorem w_c3 : (Jvm.Cond.code ({ cls := "java/util/Objects", name := "requireNonNull", desc := "(Ljava/lang/Object;Ljava/lang/String;)Ljava/lang/Object;" } : Jvm.MethodName) jdk_31_method_11_code (2 : Nat) (Option.some (Jvm.ClassFile.FieldType.object "java/lang/Object"))).before args0 about1 = true := code_word (m := ⟨9, 1⟩) (meth := k9m1) (c := k9c1) (by decide +kernel) rfl rfl rfl (by decide +kernel)
set_option maxRecDepth 65536 in
theorem w_c4 : (Jvm.Cond.code ({ cls := "com/example/hermod/hermod/xrap/FrameReader", name := "atEnd", desc := "()Z" } : Jvm.MethodName) prog_14_method_9_code (1 : Nat) (Option.some Jvm.ClassFile.FieldType.boolean)).before args0 about1 = true := code_word (m := ⟨2, 4⟩) (meth := k2m4) (c := k2c4) (by decide +kernel) rfl rfl rfl (by decide +kernel)
set_option maxRecDepth 65536 in
theorem w_c5 : (Jvm.Cond.code ({ cls := "com/example/hermod/hermod/xrap/FrameReader", name := "readNumber1", desc := "()I" } : Jvm.MethodName) prog_14_method_2_code (1 : Nat) (Option.some Jvm.ClassFile.FieldType.int)).before args0 about1 = true := code_word (m := ⟨2, 1⟩) (meth := k2m1) (c := k2c1) (by decide +kernel) rfl rfl rfl (by decide +kernel)
set_option maxRecDepth 65536 in
theorem w_c6 : (Jvm.Cond.code ({ cls := "com/example/hermod/hermod/xrap/FrameReader", name := "readNumber", desc := "(ILjava/lang/String;)J" } : Jvm.MethodName) prog_14_method_11_code (7 : Nat) (Option.some Jvm.ClassFile.FieldType.long)).before args0 about1 = true := code_word (m := ⟨2, 5⟩) (meth := k2m5) (c := k2c5) (by decide +kernel) rfl rfl rfl (by decide +kernel)
set_option maxRecDepth 65536 in
theorem w_c7 : (Jvm.Cond.code ({ cls := "com/example/hermod/hermod/xrap/FrameReader", name := "claim", desc := "(JLjava/lang/String;)I" } : Jvm.MethodName) prog_14_method_13_code (5 : Nat) (Option.some Jvm.ClassFile.FieldType.int)).before args0 about1 = true := code_word (m := ⟨2, 6⟩) (meth := k2m6) (c := k2c6) (by decide +kernel) rfl rfl rfl (by decide +kernel)
set_option maxRecDepth 65536 in
theorem w_c8 : (Jvm.Cond.code ({ cls := "com/example/hermod/hermod/xrap/FrameReader", name := "readNumber2", desc := "()I" } : Jvm.MethodName) prog_14_method_3_code (1 : Nat) (Option.some Jvm.ClassFile.FieldType.int)).before args0 about1 = true := code_word (m := ⟨2, 2⟩) (meth := k2m2) (c := k2c2) (by decide +kernel) rfl rfl rfl (by decide +kernel)
set_option maxRecDepth 65536 in
theorem w_c9 : (Jvm.Cond.code ({ cls := "com/example/hermod/hermod/xrap/FrameReader", name := "readNumber4", desc := "()J" } : Jvm.MethodName) prog_14_method_4_code (1 : Nat) (Option.some Jvm.ClassFile.FieldType.long)).before args0 about1 = true := code_word (m := ⟨2, 3⟩) (meth := k2m3) (c := k2c3) (by decide +kernel) rfl rfl rfl (by decide +kernel)
def codes1 : List Jvm.Cond := [Jvm.Cond.code x code maxLocals ret, Jvm.Cond.code ({ cls := "com/example/hermod/hermod/xrap/FrameReader", name := "<init>", desc := "([B)V" } : Jvm.MethodName) prog_14_method_1_code (2 : Nat) (Option.none : Option Jvm.ClassFile.FieldType), Jvm.Cond.code ({ cls := "java/lang/Object", name := "<init>", desc := "()V" } : Jvm.MethodName) object_method_1_code (1 : Nat) (Option.none : Option Jvm.ClassFile.FieldType), Jvm.Cond.code ({ cls := "java/util/Objects", name := "requireNonNull", desc := "(Ljava/lang/Object;Ljava/lang/String;)Ljava/lang/Object;" } : Jvm.MethodName) jdk_31_method_11_code (2 : Nat) (Option.some (Jvm.ClassFile.FieldType.object "java/lang/Object")), Jvm.Cond.code ({ cls := "com/example/hermod/hermod/xrap/FrameReader", name := "atEnd", desc := "()Z" } : Jvm.MethodName) prog_14_method_9_code (1 : Nat) (Option.some Jvm.ClassFile.FieldType.boolean), Jvm.Cond.code ({ cls := "com/example/hermod/hermod/xrap/FrameReader", name := "readNumber1", desc := "()I" } : Jvm.MethodName) prog_14_method_2_code (1 : Nat) (Option.some Jvm.ClassFile.FieldType.int), Jvm.Cond.code ({ cls := "com/example/hermod/hermod/xrap/FrameReader", name := "readNumber", desc := "(ILjava/lang/String;)J" } : Jvm.MethodName) prog_14_method_11_code (7 : Nat) (Option.some Jvm.ClassFile.FieldType.long), Jvm.Cond.code ({ cls := "com/example/hermod/hermod/xrap/FrameReader", name := "claim", desc := "(JLjava/lang/String;)I" } : Jvm.MethodName) prog_14_method_13_code (5 : Nat) (Option.some Jvm.ClassFile.FieldType.int), Jvm.Cond.code ({ cls := "com/example/hermod/hermod/xrap/FrameReader", name := "readNumber2", desc := "()I" } : Jvm.MethodName) prog_14_method_3_code (1 : Nat) (Option.some Jvm.ClassFile.FieldType.int), Jvm.Cond.code ({ cls := "com/example/hermod/hermod/xrap/FrameReader", name := "readNumber4", desc := "()J" } : Jvm.MethodName) prog_14_method_4_code (1 : Nat) (Option.some Jvm.ClassFile.FieldType.long)]
set_option maxRecDepth 65536 in
theorem codes_eq : words1.filter isCode = codes1 := rfl
theorem w_codes : ∀ c ∈ words1.filter isCode, c.before args0 about1 = true := by
  rw [codes_eq]
  intro c hc
  simp only [codes1, List.mem_cons, List.not_mem_nil, or_false] at hc
  rcases hc with rfl | rfl | rfl | rfl | rfl | rfl | rfl | rfl | rfl | rfl
  · exact w_c0
  · exact w_c1
  · exact w_c2
  · exact w_c3
  · exact w_c4
  · exact w_c5
  · exact w_c6
  · exact w_c7
  · exact w_c8
  · exact w_c9
set_option maxRecDepth 65536 in
theorem w_t1 : (words1.take 24).all (fun c => isCode c || c.before args0 about1) = true := by decide +kernel
set_option maxRecDepth 65536 in
theorem w_t2 : ((words1.drop 24).take 24).all (fun c => isCode c || c.before args0 about1) = true := by decide +kernel
set_option maxRecDepth 65536 in
theorem w_t3 : ((words1.drop 24).drop 24).all (fun c => isCode c || c.before args0 about1) = true := by decide +kernel
theorem w_tables : (allAtoms (Jvm.Cond.code x code maxLocals ret :: tables_1)).before args0 about1 = true := by
  rw [allAtoms_all]
  show words1.all (fun c => c.before args0 about1) = true
  refine all_split ?_ w_codes
  rw [← List.take_append_drop 24 words1, List.all_append, w_t1, ← List.take_append_drop 24 (words1.drop 24), List.all_append, w_t2, w_t3]
  rfl
set_option maxRecDepth 65536 in
theorem w_case : (Jvm.Cond.and given_1 narrow_1).before args0 about1 = true := by decide +kernel
theorem w_applies : (headSpec (Jvm.Cond.code x code maxLocals ret :: tables_1) room_1).applies x e0.platform about1 = true :=
  (Spec.applies_iff w_frames).mpr ⟨w_running, w_runnable, w_alone, w_named, w_hears, w_ripe, w_room, w_tables⟩
theorem atStart : AtStart classFile x code maxLocals ret World_1 tables_1 room_1 Calls_1 rest_1 Pre_1 launch0 p0 e0 about1 theMethod args0 below0 :=
  ⟨lists_1, trivial, launch0.admits_env _ _ _, launch0.least_env, fairChoices_fair.cas, fairChoices_fair.clock, w_frames, w_args, w_heap, w_applies, trivial, trivial, w_case⟩
end start1
theorem witness_1 : WitnessClaimed_1 := ⟨start1.p0, start1.e0, start1.about1, start1.theMethod, start1.args0, start1.below0, start1.atStart⟩
end Jvm.Pilot.@@N@@
