import JvmDerived
import JvmDerived.Pilot.@@N@@Statement
import JvmDerived.Pilot.@@N@@Code
set_option linter.unusedVariables false
set_option linter.unusedSimpArgs false
namespace Jvm.Pilot.@@N@@
open Jvm Jvm.ClassFile Sem Op Lib Jvm.Free Jvm.Stand Jvm.LawKit Jvm.RoadKit Bundle Jvm.Pilot.@@N@@.Jvm.D
section OwnKit
variable {p : Program} {l : Launch} {e : Env} {R : Room} {s : State} {m : MethodId} {args : Array Value} {below : List Frame} {meth : Method} {c : Code} {T : State} {locs : List Loc} {cells slots : Nat} {Q : Option Value → Heap → List Loc → Prop} {F : Option Value → State → Prop} {KC KS : Nat} {bs : ByteArray} {pc pc' : Nat} {Ls l' : Array Slot} {st : List Value}
/-- from U the run comes to its end: it returns v, and F says what it leaves -/
def own_End (p : Program) (e : Env) (below : List Frame) (F : Option Value → State → Prop) (U : State) : Prop :=
  ∃ s₂ v, Steps p.tables e below U s₂ ∧ s₂.status = .running ∧ Ended s₂ below (.returned v) ∧ F v s₂
def own_F (s : State) (Q : Option Value → Heap → List Loc → Prop) (KC KS : Nat) : Option Value → State → Prop := fun v s₂ => ∃ L, Q v s₂.heap L ∧ FrameEnd s (.returned v) s₂ L KC KS
def own_FS (s : State) (Q : Option Value → Heap → List Loc → Prop) (KC KS : Nat) : Option Value → State → Prop := fun v s₂ => ∃ L, Q v s₂.heap L ∧ ReturnedEndW s (.returned v) s₂ L KC KS
theorem own_body {U : State} (h : own_End p e below (own_F s Q KC KS) U) : ∃ s₂ o, Steps p.tables e below U s₂ ∧ s₂.status = .running ∧ Ended s₂ below o ∧ ∃ v L, o = .returned v ∧ Q v s₂.heap L ∧ FrameEnd s o s₂ L KC KS := by
  obtain ⟨s2, v, h1, h2, h3, L, h4, h5⟩ := h
  exact ⟨s2, _, h1, h2, h3, v, L, rfl, h4, h5⟩
theorem own_bodyS {U : State} (h : own_End p e below (own_FS s Q KC KS) U) : ∃ s₂ o, Steps p.tables e below U s₂ ∧ s₂.status = .running ∧ Ended s₂ below o ∧ ∃ v L, o = .returned v ∧ Q v s₂.heap L ∧ ReturnedEndW s o s₂ L KC KS := by
  obtain ⟨s2, v, h1, h2, h3, L, h4, h5⟩ := h
  exact ⟨s2, _, h1, h2, h3, v, L, rfl, h4, h5⟩
theorem own_step {U U' : State} (k : ∀ t, Steps p.tables e below U' t → Steps p.tables e below U t) (h : own_End p e below F U') : own_End p e below F U := by
  obtain ⟨s2, v, h1, h2⟩ := h
  exact ⟨s2, v, k _ h1, h2⟩
theorem own_trans {U U' : State} (k : Steps p.tables e below U U') (h : own_End p e below F U') : own_End p e below F U := by
  obtain ⟨s2, v, h1, h2⟩ := h
  exact ⟨s2, v, k.trans h1, h2⟩
theorem own_mono {cells' slots' : Nat} (X : Stand p l e R s m args below meth c T locs cells slots) (hc : cells ≤ cells') (hs : slots ≤ slots') : Stand p l e R s m args below meth c T locs cells' slots' := X.mono hc hs
theorem own_selPriv {y : MethodName} {n : Nat} (wi : (Cond.instantiable y.cls n).before args s = true) (hp : s.PrivateAt y) (hi : (Cond.instanceMethod y).before args s = true) (hy : y.cls ≠ "java/lang/invoke/MethodHandle" ∧ y.cls ≠ "java/lang/invoke/VarHandle") : (Cond.selects y.cls y y).before args s = true := by
  obtain ⟨c, k, h1, h2, -, h4, -⟩ := Cond.instantiable_spec wi
  exact selects_self_of_private h1 h2 (by simp only [Bool.or_eq_false_iff] at h4; exact h4.1) hp hi hy
theorem own_sta0 {Z : State} {h h' : Heap} {C n d : String} {v : Value} (S : Sta Z h C n d v) (K : Keep h h' []) : Sta Z h' C n d v := by
  obtain ⟨cf, i, k, f, st, cell, h1, h2, h3, h4, h5, h6, h7⟩ := S
  exact ⟨cf, i, k, f, st, cell, h1, h2, h3, h4, K.2.1 _ _ h5 nin0, h6, h7⟩
theorem own_sta1 {Z : State} {h h' : Heap} {C n d D : String} {v : Value} {a : Addr} (S : Sta Z h C n d v) (K : Keep h h' [a]) (E : Exa Z h a D) : Sta Z h' C n d v := by
  obtain ⟨cf, i, k, f, st, cell, h1, h2, h3, h4, h5, h6, h7⟩ := S
  obtain ⟨c', k', g1, -, -, g4, -⟩ := E
  have ne : st ≠ a := fun q => by subst q; cases h5.symm.trans g1; rw [g4] at h6; cases h6
  exact ⟨cf, i, k, f, st, cell, h1, h2, h3, h4, K.2.1 _ _ h5 (ninS ne nin0), h6, h7⟩
theorem own_cat1 {w : Value} (h : w.isRef = true) : w.category = 1 := by rcases ref_cases h with rfl | ⟨z, rfl⟩ <;> rfl
theorem own_nar {w : Value} {t : FieldType} (h : w.isRef = true) (ht : t.isReference = true) : narrow t w = w := by rcases ref_cases h with rfl | ⟨z, rfl⟩ <;> cases t <;> first | rfl | cases ht
theorem own_fit {w : Value} {t : FieldType} (h : w.isRef = true) (ht : t.isReference = true) : fits t w = true := by rcases ref_cases h with rfl | ⟨z, rfl⟩ <;> cases t <;> first | rfl | cases ht
/-- what the frame says where the run leaves -/
def own_Lv (F : Option Value → State → Prop) (s T : State) (locs : List Loc) (cells slots : Nat) (v : Option Value) : Prop := ∀ fs, s.WarmedH (T.setFrames fs).vm → s.sameButNew ({ T.setFrames fs with vm := s.vm } : State) locs cells slots → F v (T.setFrames fs)
theorem own_lv {v : Option Value} (hQ : Q v T.heap locs) (hc : cells ≤ KC) (hs : slots ≤ KS) : own_Lv (own_F s Q KC KS) s T locs cells slots v := fun fs hW hsm => ⟨locs, hQ, ⟨_, rfl⟩, hW, hsm.mono hc hs⟩
theorem own_lvS {v : Option Value} {vm₁ : Vm} {n : Nat} (hS : s.Since vm₁ n) (hn : n ≤ T.heap.size) (hQ : Q v T.heap locs) (hc : cells ≤ KC) (hs : slots ≤ KS) : own_Lv (own_FS s Q KC KS) (s.setVm vm₁) T locs cells slots v := fun fs hW hsm => by
  obtain ⟨a, b, c'⟩ := hS.ended (U := T.setFrames fs) hW hn hsm
  exact ⟨locs, hQ, ⟨_, rfl⟩, a, b, c'.mono hc hs⟩
theorem own_retW (X : Stand p l e R s m args below meth c T locs cells slots) (hx : p.tables.exec = Jvm.exec) (hlk : meth.locks = false) (hby : c.code = bs) {w : Value} {t : FieldType} {i : Instr} {rest : List Value} (hret : meth.sig.returnType = some t) (hn : narrow t w = w)
    (hi : (i = .ireturn ∧ (t = .int ∨ t = .boolean ∨ t = .byte ∨ t = .char ∨ t = .short) ∧ ∃ z, w = .int z) ∨ (i = .lreturn ∧ t = .long ∧ ∃ z, w = .long z) ∨ (i = .dreturn ∧ t = .double ∧ ∃ z, w = .double z) ∨ (i = .freturn ∧ t = .float ∧ ∃ z, w = .float z) ∨ (i = .areturn ∧ t.isReference = true ∧ w.isRef = true))
    (hd : decode bs pc = .ok (i, 1)) (hF : own_Lv F s T locs cells slots (some w)) : own_End p e below F (T.setTop (mkF m pc Ls (w :: rest))) := by
  obtain ⟨fs, hr, hrun, hended, hW, hsame⟩ := X.leave (v := some w) (fun h => by rw [hret] at h; cases h) hlk
  exact ⟨_, _, retOut X hx hret hn hi (hb hby hd) hr, hrun, hended, hF fs hW hsame⟩
theorem own_ireturn (X : Stand p l e R s m args below meth c T locs cells slots) (hx : p.tables.exec = Jvm.exec) (hlk : meth.locks = false) (hby : c.code = bs) {z : Int32} {rest : List Value} (hret : meth.sig.returnType = some .int)
    (hd : decode bs pc = .ok (.ireturn, 1)) (hF : own_Lv F s T locs cells slots (some (.int z))) : own_End p e below F (T.setTop (mkF m pc Ls (.int z :: rest))) :=
  own_retW X hx hlk hby hret rfl (Or.inl ⟨rfl, Or.inl rfl, _, rfl⟩) hd hF
theorem own_zreturn (X : Stand p l e R s m args below meth c T locs cells slots) (hx : p.tables.exec = Jvm.exec) (hlk : meth.locks = false) (hby : c.code = bs) {z : Int32} {rest : List Value} (hret : meth.sig.returnType = some .boolean) (hz : z = 0 ∨ z = 1)
    (hd : decode bs pc = .ok (.ireturn, 1)) (hF : own_Lv F s T locs cells slots (some (.int z))) : own_End p e below F (T.setTop (mkF m pc Ls (.int z :: rest))) :=
  own_retW X hx hlk hby hret (by rcases hz with rfl | rfl <;> rfl) (Or.inl ⟨rfl, Or.inr (Or.inl rfl), _, rfl⟩) hd hF
theorem own_breturn (X : Stand p l e R s m args below meth c T locs cells slots) (hx : p.tables.exec = Jvm.exec) (hlk : meth.locks = false) (hby : c.code = bs) {z : Int32} {rest : List Value} (hret : meth.sig.returnType = some .byte) (hz : z.toInt8.toInt32 = z)
    (hd : decode bs pc = .ok (.ireturn, 1)) (hF : own_Lv F s T locs cells slots (some (.int z))) : own_End p e below F (T.setTop (mkF m pc Ls (.int z :: rest))) :=
  own_retW X hx hlk hby hret (show Value.int z.toInt8.toInt32 = .int z by rw [hz]) (Or.inl ⟨rfl, Or.inr (Or.inr (Or.inl rfl)), _, rfl⟩) hd hF
theorem own_lreturn (X : Stand p l e R s m args below meth c T locs cells slots) (hx : p.tables.exec = Jvm.exec) (hlk : meth.locks = false) (hby : c.code = bs) {z : Int64} {rest : List Value} (hret : meth.sig.returnType = some .long)
    (hd : decode bs pc = .ok (.lreturn, 1)) (hF : own_Lv F s T locs cells slots (some (.long z))) : own_End p e below F (T.setTop (mkF m pc Ls (.long z :: rest))) :=
  own_retW X hx hlk hby hret rfl (Or.inr (Or.inl ⟨rfl, rfl, _, rfl⟩)) hd hF
theorem own_areturn (X : Stand p l e R s m args below meth c T locs cells slots) (hx : p.tables.exec = Jvm.exec) (hlk : meth.locks = false) (hby : c.code = bs) {w : Value} {t : FieldType} {rest : List Value} (hret : meth.sig.returnType = some t) (ht : t.isReference = true) (hw : w.isRef = true)
    (hd : decode bs pc = .ok (.areturn, 1)) (hF : own_Lv F s T locs cells slots (some w)) : own_End p e below F (T.setTop (mkF m pc Ls (w :: rest))) :=
  own_retW X hx hlk hby hret (own_nar hw ht) (Or.inr (Or.inr (Or.inr (Or.inr ⟨rfl, ht, hw⟩)))) hd hF
theorem own_return (X : Stand p l e R s m args below meth c T locs cells slots) (hx : p.tables.exec = Jvm.exec) (hlk : meth.locks = false) (hby : c.code = bs) (hret : meth.sig.returnType = none)
    (hd : decode bs pc = .ok (.return_, 1)) (hF : own_Lv F s T locs cells slots none) : own_End p e below F (T.setTop (mkF m pc Ls [])) := by
  obtain ⟨fs, hr, hrun, hended, hW, hsame⟩ := X.leave (v := none) (fun _ => rfl) hlk
  exact ⟨_, _, X.returnOut hx hret (hb hby hd) hr, hrun, hended, hF fs hW hsame⟩
section Plain
theorem own_iload (X : Stand p l e R s m args below meth c T locs cells slots) (hx : p.tables.exec = Jvm.exec) (hby : c.code = bs) {k : Nat} {v : Int32} (hd : decode bs pc = .ok (.iload k, 2)) (hp : pc + 2 = pc') (hl : Ls[k]? = some (.val (.int v))) (h : own_End p e below F (T.setTop (mkF m pc' Ls (.int v :: st)))) : own_End p e below F (T.setTop (mkF m pc Ls st)) := by
  subst hp; exact own_step (fun t k => XS.iload X.here hx rfl (hb hby hd) hl k) h
theorem own_iloadN (X : Stand p l e R s m args below meth c T locs cells slots) (hx : p.tables.exec = Jvm.exec) (hby : c.code = bs) {k : Fin 4} {v : Int32} (hd : decode bs pc = .ok (.iload_n k, 1)) (hp : pc + 1 = pc') (hl : Ls[k.val]? = some (.val (.int v))) (h : own_End p e below F (T.setTop (mkF m pc' Ls (.int v :: st)))) : own_End p e below F (T.setTop (mkF m pc Ls st)) := by
  subst hp; exact own_step (fun t k => XS.iloadN X.here hx rfl (hb hby hd) hl k) h
theorem own_lload (X : Stand p l e R s m args below meth c T locs cells slots) (hx : p.tables.exec = Jvm.exec) (hby : c.code = bs) {k : Nat} {v : Int64} (hd : decode bs pc = .ok (.lload k, 2)) (hp : pc + 2 = pc') (hl : Ls[k]? = some (.val (.long v))) (h : own_End p e below F (T.setTop (mkF m pc' Ls (.long v :: st)))) : own_End p e below F (T.setTop (mkF m pc Ls st)) := by
  subst hp; exact own_step (fun t k => XS.lload X.here hx rfl (hb hby hd) hl k) h
theorem own_lloadN (X : Stand p l e R s m args below meth c T locs cells slots) (hx : p.tables.exec = Jvm.exec) (hby : c.code = bs) {k : Fin 4} {v : Int64} (hd : decode bs pc = .ok (.lload_n k, 1)) (hp : pc + 1 = pc') (hl : Ls[k.val]? = some (.val (.long v))) (h : own_End p e below F (T.setTop (mkF m pc' Ls (.long v :: st)))) : own_End p e below F (T.setTop (mkF m pc Ls st)) := by
  subst hp; exact own_step (fun t k => XS.lloadN X.here hx rfl (hb hby hd) hl k) h
theorem own_aload (X : Stand p l e R s m args below meth c T locs cells slots) (hx : p.tables.exec = Jvm.exec) (hby : c.code = bs) {k : Nat} {v : Value} (hd : decode bs pc = .ok (.aload k, 2)) (hp : pc + 2 = pc') (hl : Ls[k]? = some (.val v)) (hv : v.isRef = true) (h : own_End p e below F (T.setTop (mkF m pc' Ls (v :: st)))) : own_End p e below F (T.setTop (mkF m pc Ls st)) := by
  subst hp; exact own_step (fun t k => XS.aload X.here hx rfl (hb hby hd) hl hv k) h
theorem own_aloadN (X : Stand p l e R s m args below meth c T locs cells slots) (hx : p.tables.exec = Jvm.exec) (hby : c.code = bs) {k : Fin 4} {v : Value} (hd : decode bs pc = .ok (.aload_n k, 1)) (hp : pc + 1 = pc') (hl : Ls[k.val]? = some (.val v)) (hv : v.isRef = true) (h : own_End p e below F (T.setTop (mkF m pc' Ls (v :: st)))) : own_End p e below F (T.setTop (mkF m pc Ls st)) := by
  subst hp; exact own_step (fun t k => XS.aloadN X.here hx rfl (hb hby hd) hl hv k) h
theorem own_istore (X : Stand p l e R s m args below meth c T locs cells slots) (hx : p.tables.exec = Jvm.exec) (hby : c.code = bs) {k : Nat} {x : Int32} (hd : decode bs pc = .ok (.istore k, 2)) (hp : pc + 2 = pc') (hl : storeLocals Ls k (.int x) = some l') (h : own_End p e below F (T.setTop (mkF m pc' l' st))) : own_End p e below F (T.setTop (mkF m pc Ls (.int x :: st))) := by
  subst hp; exact own_step (fun t k => XS.istore X.here hx rfl (hb hby hd) rfl hl k) h
theorem own_istoreN (X : Stand p l e R s m args below meth c T locs cells slots) (hx : p.tables.exec = Jvm.exec) (hby : c.code = bs) {k : Fin 4} {x : Int32} (hd : decode bs pc = .ok (.istore_n k, 1)) (hp : pc + 1 = pc') (hl : storeLocals Ls k.val (.int x) = some l') (h : own_End p e below F (T.setTop (mkF m pc' l' st))) : own_End p e below F (T.setTop (mkF m pc Ls (.int x :: st))) := by
  subst hp; exact own_step (fun t k => XS.istoreN X.here hx rfl (hb hby hd) rfl hl k) h
theorem own_lstore (X : Stand p l e R s m args below meth c T locs cells slots) (hx : p.tables.exec = Jvm.exec) (hby : c.code = bs) {k : Nat} {x : Int64} (hd : decode bs pc = .ok (.lstore k, 2)) (hp : pc + 2 = pc') (hl : storeLocals Ls k (.long x) = some l') (h : own_End p e below F (T.setTop (mkF m pc' l' st))) : own_End p e below F (T.setTop (mkF m pc Ls (.long x :: st))) := by
  subst hp; exact own_step (fun t k => XS.lstore X.here hx rfl (hb hby hd) rfl hl k) h
theorem own_lstoreN (X : Stand p l e R s m args below meth c T locs cells slots) (hx : p.tables.exec = Jvm.exec) (hby : c.code = bs) {k : Fin 4} {x : Int64} (hd : decode bs pc = .ok (.lstore_n k, 1)) (hp : pc + 1 = pc') (hl : storeLocals Ls k.val (.long x) = some l') (h : own_End p e below F (T.setTop (mkF m pc' l' st))) : own_End p e below F (T.setTop (mkF m pc Ls (.long x :: st))) := by
  subst hp; exact own_step (fun t k => XS.lstoreN X.here hx rfl (hb hby hd) rfl hl k) h
theorem own_astore (X : Stand p l e R s m args below meth c T locs cells slots) (hx : p.tables.exec = Jvm.exec) (hby : c.code = bs) {k : Nat} {x : Value} (hd : decode bs pc = .ok (.astore k, 2)) (hp : pc + 2 = pc') (hv : x.isRef = true) (hl : storeLocals Ls k x = some l') (h : own_End p e below F (T.setTop (mkF m pc' l' st))) : own_End p e below F (T.setTop (mkF m pc Ls (x :: st))) := by
  subst hp; exact own_step (fun t k => XS.astore X.here hx rfl (hb hby hd) rfl hv hl k) h
theorem own_astoreN (X : Stand p l e R s m args below meth c T locs cells slots) (hx : p.tables.exec = Jvm.exec) (hby : c.code = bs) {k : Fin 4} {x : Value} (hd : decode bs pc = .ok (.astore_n k, 1)) (hp : pc + 1 = pc') (hv : x.isRef = true) (hl : storeLocals Ls k.val x = some l') (h : own_End p e below F (T.setTop (mkF m pc' l' st))) : own_End p e below F (T.setTop (mkF m pc Ls (x :: st))) := by
  subst hp; exact own_step (fun t k => XS.astoreN X.here hx rfl (hb hby hd) rfl hv hl k) h
theorem own_iinc (X : Stand p l e R s m args below meth c T locs cells slots) (hx : p.tables.exec = Jvm.exec) (hby : c.code = bs) {k : Nat} {cst : Int} {x y : Int32} (hd : decode bs pc = .ok (.iinc k cst, 3)) (hp : pc + 3 = pc') (hl : Ls[k]? = some (.val (.int x))) (hy : x + Int32.ofInt cst = y) (hl' : storeLocals Ls k (.int y) = some l') (h : own_End p e below F (T.setTop (mkF m pc' l' st))) : own_End p e below F (T.setTop (mkF m pc Ls st)) := by
  subst hp hy; exact own_step (fun t k => XS.iinc X.here hx rfl (hb hby hd) hl hl' k) h
theorem own_iconst (X : Stand p l e R s m args below meth c T locs cells slots) (hx : p.tables.exec = Jvm.exec) (hby : c.code = bs) {i : Int} {n : Int32} (hd : decode bs pc = .ok (.iconst i, 1)) (hp : pc + 1 = pc') (hn : Int32.ofInt i = n) (h : own_End p e below F (T.setTop (mkF m pc' Ls (.int n :: st)))) : own_End p e below F (T.setTop (mkF m pc Ls st)) := by
  subst hp hn; exact own_step (fun t k => XS.iconst X.here hx rfl (hb hby hd) k) h
theorem own_bipush (X : Stand p l e R s m args below meth c T locs cells slots) (hx : p.tables.exec = Jvm.exec) (hby : c.code = bs) {i : Int} {n : Int32} (hd : decode bs pc = .ok (.bipush i, 2)) (hp : pc + 2 = pc') (hn : (Int8.ofInt i).toInt32 = n) (h : own_End p e below F (T.setTop (mkF m pc' Ls (.int n :: st)))) : own_End p e below F (T.setTop (mkF m pc Ls st)) := by
  subst hp hn; exact own_step (fun t k => XS.bipush X.here hx rfl (hb hby hd) k) h
theorem own_sipush (X : Stand p l e R s m args below meth c T locs cells slots) (hx : p.tables.exec = Jvm.exec) (hby : c.code = bs) {i : Int} {n : Int32} (hd : decode bs pc = .ok (.sipush i, 3)) (hp : pc + 3 = pc') (hn : (Int16.ofInt i).toInt32 = n) (h : own_End p e below F (T.setTop (mkF m pc' Ls (.int n :: st)))) : own_End p e below F (T.setTop (mkF m pc Ls st)) := by
  subst hp hn; exact own_step (fun t k => XS.sipush X.here hx rfl (hb hby hd) k) h
theorem own_lconst (X : Stand p l e R s m args below meth c T locs cells slots) (hx : p.tables.exec = Jvm.exec) (hby : c.code = bs) {i : Fin 2} {n : Int64} (hd : decode bs pc = .ok (.lconst i, 1)) (hp : pc + 1 = pc') (hn : Int64.ofNat i.val = n) (h : own_End p e below F (T.setTop (mkF m pc' Ls (.long n :: st)))) : own_End p e below F (T.setTop (mkF m pc Ls st)) := by
  subst hp hn; exact own_step (fun t k => XS.lconst X.here hx rfl (hb hby hd) k) h
theorem own_aconst_null (X : Stand p l e R s m args below meth c T locs cells slots) (hx : p.tables.exec = Jvm.exec) (hby : c.code = bs) (hd : decode bs pc = .ok (.aconst_null, 1)) (hp : pc + 1 = pc') (h : own_End p e below F (T.setTop (mkF m pc' Ls (.null :: st)))) : own_End p e below F (T.setTop (mkF m pc Ls st)) := by
  subst hp; exact own_step (fun t k => XS.aconstNull X.here hx rfl (hb hby hd) k) h
theorem own_goto (X : Stand p l e R s m args below meth c T locs cells slots) (hx : p.tables.exec = Jvm.exec) (hby : c.code = bs) {o : Int} (hd : decode bs pc = .ok (.goto o, 3)) (ho : 0 ≤ (pc : Int) + o) (hp : ((pc : Int) + o).toNat = pc') (h : own_End p e below F (T.setTop (mkF m pc' Ls st))) : own_End p e below F (T.setTop (mkF m pc Ls st)) :=
  own_step (fun t k => XS.goto X.here hx rfl (pc0 := pc) (pc' := pc') rfl (hb hby hd) ho hp k) h
theorem own_dup (X : Stand p l e R s m args below meth c T locs cells slots) (hx : p.tables.exec = Jvm.exec) (hby : c.code = bs) {x : Value} (hd : decode bs pc = .ok (.dup, 1)) (hp : pc + 1 = pc') (hc : x.category = 1) (h : own_End p e below F (T.setTop (mkF m pc' Ls (x :: x :: st)))) : own_End p e below F (T.setTop (mkF m pc Ls (x :: st))) := by
  subst hp; exact own_step (fun t k => XS.dup X.here hx rfl (hb hby hd) rfl hc k) h
theorem own_dup_x1 (X : Stand p l e R s m args below meth c T locs cells slots) (hx : p.tables.exec = Jvm.exec) (hby : c.code = bs) {x y : Value} (hd : decode bs pc = .ok (.dup_x1, 1)) (hp : pc + 1 = pc') (hc : x.category = 1) (hc2 : y.category = 1) (h : own_End p e below F (T.setTop (mkF m pc' Ls (x :: y :: x :: st)))) : own_End p e below F (T.setTop (mkF m pc Ls (x :: y :: st))) := by
  subst hp; exact own_step (fun t k => XS.dupX1 X.here hx rfl (hb hby hd) rfl hc hc2 k) h
theorem own_pop (X : Stand p l e R s m args below meth c T locs cells slots) (hx : p.tables.exec = Jvm.exec) (hby : c.code = bs) {x : Value} (hd : decode bs pc = .ok (.pop, 1)) (hp : pc + 1 = pc') (hc : x.category = 1) (h : own_End p e below F (T.setTop (mkF m pc' Ls st))) : own_End p e below F (T.setTop (mkF m pc Ls (x :: st))) := by
  subst hp; exact own_step (fun t k => XS.pop X.here hx rfl (hb hby hd) rfl hc k) h
theorem own_pop2 (X : Stand p l e R s m args below meth c T locs cells slots) (hx : p.tables.exec = Jvm.exec) (hby : c.code = bs) {x : Int64} (hd : decode bs pc = .ok (.pop2, 1)) (hp : pc + 1 = pc') (h : own_End p e below F (T.setTop (mkF m pc' Ls st))) : own_End p e below F (T.setTop (mkF m pc Ls (.long x :: st))) := by
  subst hp
  refine own_step (fun t k => ?_) h
  have hd' := hb hby hd
  have hc : (Value.long x).category = 2 := rfl
  jvm_step X.here [X.here.top, hx, hd', Op.pop2.wp_sem, hc]
  exact k
theorem own_iadd (X : Stand p l e R s m args below meth c T locs cells slots) (hx : p.tables.exec = Jvm.exec) (hby : c.code = bs) {x y : Int32} (hd : decode bs pc = .ok (.iadd, 1)) (hp : pc + 1 = pc') (h : own_End p e below F (T.setTop (mkF m pc' Ls (.int (x + y) :: st)))) : own_End p e below F (T.setTop (mkF m pc Ls (.int y :: .int x :: st))) := by
  subst hp; exact own_step (fun t k => XS.iadd X.here hx rfl (hb hby hd) rfl k) h
theorem own_isub (X : Stand p l e R s m args below meth c T locs cells slots) (hx : p.tables.exec = Jvm.exec) (hby : c.code = bs) {x y : Int32} (hd : decode bs pc = .ok (.isub, 1)) (hp : pc + 1 = pc') (h : own_End p e below F (T.setTop (mkF m pc' Ls (.int (x - y) :: st)))) : own_End p e below F (T.setTop (mkF m pc Ls (.int y :: .int x :: st))) := by
  subst hp; exact own_step (fun t k => XS.isub X.here hx rfl (hb hby hd) rfl k) h
theorem own_imul (X : Stand p l e R s m args below meth c T locs cells slots) (hx : p.tables.exec = Jvm.exec) (hby : c.code = bs) {x y : Int32} (hd : decode bs pc = .ok (.imul, 1)) (hp : pc + 1 = pc') (h : own_End p e below F (T.setTop (mkF m pc' Ls (.int (x * y) :: st)))) : own_End p e below F (T.setTop (mkF m pc Ls (.int y :: .int x :: st))) := by
  subst hp; exact own_step (fun t k => XS.imul X.here hx rfl (hb hby hd) rfl k) h
theorem own_iand (X : Stand p l e R s m args below meth c T locs cells slots) (hx : p.tables.exec = Jvm.exec) (hby : c.code = bs) {x y : Int32} (hd : decode bs pc = .ok (.iand, 1)) (hp : pc + 1 = pc') (h : own_End p e below F (T.setTop (mkF m pc' Ls (.int (x &&& y) :: st)))) : own_End p e below F (T.setTop (mkF m pc Ls (.int y :: .int x :: st))) := by
  subst hp; exact own_step (fun t k => XS.iand X.here hx rfl (hb hby hd) rfl k) h
theorem own_ior (X : Stand p l e R s m args below meth c T locs cells slots) (hx : p.tables.exec = Jvm.exec) (hby : c.code = bs) {x y : Int32} (hd : decode bs pc = .ok (.ior, 1)) (hp : pc + 1 = pc') (h : own_End p e below F (T.setTop (mkF m pc' Ls (.int (x ||| y) :: st)))) : own_End p e below F (T.setTop (mkF m pc Ls (.int y :: .int x :: st))) := by
  subst hp; exact own_step (fun t k => XS.ior X.here hx rfl (hb hby hd) rfl k) h
theorem own_ixor (X : Stand p l e R s m args below meth c T locs cells slots) (hx : p.tables.exec = Jvm.exec) (hby : c.code = bs) {x y : Int32} (hd : decode bs pc = .ok (.ixor, 1)) (hp : pc + 1 = pc') (h : own_End p e below F (T.setTop (mkF m pc' Ls (.int (x ^^^ y) :: st)))) : own_End p e below F (T.setTop (mkF m pc Ls (.int y :: .int x :: st))) := by
  subst hp; exact own_step (fun t k => XS.ixor X.here hx rfl (hb hby hd) rfl k) h
theorem own_ladd (X : Stand p l e R s m args below meth c T locs cells slots) (hx : p.tables.exec = Jvm.exec) (hby : c.code = bs) {x y : Int64} (hd : decode bs pc = .ok (.ladd, 1)) (hp : pc + 1 = pc') (h : own_End p e below F (T.setTop (mkF m pc' Ls (.long (x + y) :: st)))) : own_End p e below F (T.setTop (mkF m pc Ls (.long y :: .long x :: st))) := by
  subst hp; exact own_step (fun t k => XS.ladd X.here hx rfl (hb hby hd) rfl k) h
theorem own_lsub (X : Stand p l e R s m args below meth c T locs cells slots) (hx : p.tables.exec = Jvm.exec) (hby : c.code = bs) {x y : Int64} (hd : decode bs pc = .ok (.lsub, 1)) (hp : pc + 1 = pc') (h : own_End p e below F (T.setTop (mkF m pc' Ls (.long (x - y) :: st)))) : own_End p e below F (T.setTop (mkF m pc Ls (.long y :: .long x :: st))) := by
  subst hp; exact own_step (fun t k => XS.lsub X.here hx rfl (hb hby hd) rfl k) h
theorem own_lmul (X : Stand p l e R s m args below meth c T locs cells slots) (hx : p.tables.exec = Jvm.exec) (hby : c.code = bs) {x y : Int64} (hd : decode bs pc = .ok (.lmul, 1)) (hp : pc + 1 = pc') (h : own_End p e below F (T.setTop (mkF m pc' Ls (.long (x * y) :: st)))) : own_End p e below F (T.setTop (mkF m pc Ls (.long y :: .long x :: st))) := by
  subst hp; exact own_step (fun t k => XS.lmul X.here hx rfl (hb hby hd) rfl k) h
theorem own_land (X : Stand p l e R s m args below meth c T locs cells slots) (hx : p.tables.exec = Jvm.exec) (hby : c.code = bs) {x y : Int64} (hd : decode bs pc = .ok (.land, 1)) (hp : pc + 1 = pc') (h : own_End p e below F (T.setTop (mkF m pc' Ls (.long (x &&& y) :: st)))) : own_End p e below F (T.setTop (mkF m pc Ls (.long y :: .long x :: st))) := by
  subst hp; exact own_step (fun t k => XS.land X.here hx rfl (hb hby hd) rfl k) h
theorem own_lor (X : Stand p l e R s m args below meth c T locs cells slots) (hx : p.tables.exec = Jvm.exec) (hby : c.code = bs) {x y : Int64} (hd : decode bs pc = .ok (.lor, 1)) (hp : pc + 1 = pc') (h : own_End p e below F (T.setTop (mkF m pc' Ls (.long (x ||| y) :: st)))) : own_End p e below F (T.setTop (mkF m pc Ls (.long y :: .long x :: st))) := by
  subst hp; exact own_step (fun t k => XS.lor X.here hx rfl (hb hby hd) rfl k) h
theorem own_lxor (X : Stand p l e R s m args below meth c T locs cells slots) (hx : p.tables.exec = Jvm.exec) (hby : c.code = bs) {x y : Int64} (hd : decode bs pc = .ok (.lxor, 1)) (hp : pc + 1 = pc') (h : own_End p e below F (T.setTop (mkF m pc' Ls (.long (x ^^^ y) :: st)))) : own_End p e below F (T.setTop (mkF m pc Ls (.long y :: .long x :: st))) := by
  subst hp; exact own_step (fun t k => XS.lxor X.here hx rfl (hb hby hd) rfl k) h
theorem own_ishl (X : Stand p l e R s m args below meth c T locs cells slots) (hx : p.tables.exec = Jvm.exec) (hby : c.code = bs) {x y : Int32} (hd : decode bs pc = .ok (.ishl, 1)) (hp : pc + 1 = pc') (h : own_End p e below F (T.setTop (mkF m pc' Ls (.int (x <<< (y &&& 31)) :: st)))) : own_End p e below F (T.setTop (mkF m pc Ls (.int y :: .int x :: st))) := by
  subst hp; exact own_step (fun t k => XS.ishl X.here hx rfl (hb hby hd) rfl k) h
theorem own_ishr (X : Stand p l e R s m args below meth c T locs cells slots) (hx : p.tables.exec = Jvm.exec) (hby : c.code = bs) {x y : Int32} (hd : decode bs pc = .ok (.ishr, 1)) (hp : pc + 1 = pc') (h : own_End p e below F (T.setTop (mkF m pc' Ls (.int (x >>> (y &&& 31)) :: st)))) : own_End p e below F (T.setTop (mkF m pc Ls (.int y :: .int x :: st))) := by
  subst hp; exact own_step (fun t k => XS.ishr X.here hx rfl (hb hby hd) rfl k) h
theorem own_iushr (X : Stand p l e R s m args below meth c T locs cells slots) (hx : p.tables.exec = Jvm.exec) (hby : c.code = bs) {x y : Int32} (hd : decode bs pc = .ok (.iushr, 1)) (hp : pc + 1 = pc') (h : own_End p e below F (T.setTop (mkF m pc' Ls (.int ((x.toUInt32 >>> (y &&& 31).toUInt32).toInt32) :: st)))) : own_End p e below F (T.setTop (mkF m pc Ls (.int y :: .int x :: st))) := by
  subst hp; exact own_step (fun t k => XS.iushr X.here hx rfl (hb hby hd) rfl k) h
theorem own_lshl (X : Stand p l e R s m args below meth c T locs cells slots) (hx : p.tables.exec = Jvm.exec) (hby : c.code = bs) {x : Int64} {y : Int32} (hd : decode bs pc = .ok (.lshl, 1)) (hp : pc + 1 = pc') (h : own_End p e below F (T.setTop (mkF m pc' Ls (.long (x <<< (y &&& 0x3f).toInt64) :: st)))) : own_End p e below F (T.setTop (mkF m pc Ls (.int y :: .long x :: st))) := by
  subst hp; exact own_step (fun t k => XS.lshl X.here hx rfl (hb hby hd) rfl k) h
theorem own_lshr (X : Stand p l e R s m args below meth c T locs cells slots) (hx : p.tables.exec = Jvm.exec) (hby : c.code = bs) {x : Int64} {y : Int32} (hd : decode bs pc = .ok (.lshr, 1)) (hp : pc + 1 = pc') (h : own_End p e below F (T.setTop (mkF m pc' Ls (.long (x >>> (y &&& 0x3f).toInt64) :: st)))) : own_End p e below F (T.setTop (mkF m pc Ls (.int y :: .long x :: st))) := by
  subst hp; exact own_step (fun t k => XS.lshr X.here hx rfl (hb hby hd) rfl k) h
theorem own_lushr (X : Stand p l e R s m args below meth c T locs cells slots) (hx : p.tables.exec = Jvm.exec) (hby : c.code = bs) {x : Int64} {y : Int32} (hd : decode bs pc = .ok (.lushr, 1)) (hp : pc + 1 = pc') (h : own_End p e below F (T.setTop (mkF m pc' Ls (.long ((x.toUInt64 >>> (y &&& 0x3f).toInt64.toUInt64).toInt64) :: st)))) : own_End p e below F (T.setTop (mkF m pc Ls (.int y :: .long x :: st))) := by
  subst hp; exact own_step (fun t k => XS.lushr X.here hx rfl (hb hby hd) rfl k) h
theorem own_lcmp (X : Stand p l e R s m args below meth c T locs cells slots) (hx : p.tables.exec = Jvm.exec) (hby : c.code = bs) {x y : Int64} (hd : decode bs pc = .ok (.lcmp, 1)) (hp : pc + 1 = pc') (h : own_End p e below F (T.setTop (mkF m pc' Ls (.int (lcmpW x y) :: st)))) : own_End p e below F (T.setTop (mkF m pc Ls (.long y :: .long x :: st))) := by
  subst hp; exact own_step (fun t k => XS.lcmp X.here hx rfl (hb hby hd) rfl k) h
theorem own_ineg (X : Stand p l e R s m args below meth c T locs cells slots) (hx : p.tables.exec = Jvm.exec) (hby : c.code = bs) {x : Int32} (hd : decode bs pc = .ok (.ineg, 1)) (hp : pc + 1 = pc') (h : own_End p e below F (T.setTop (mkF m pc' Ls (.int (-x) :: st)))) : own_End p e below F (T.setTop (mkF m pc Ls (.int x :: st))) := by
  subst hp; exact own_step (fun t k => XS.ineg X.here hx rfl (hb hby hd) rfl k) h
theorem own_i2b (X : Stand p l e R s m args below meth c T locs cells slots) (hx : p.tables.exec = Jvm.exec) (hby : c.code = bs) {x : Int32} (hd : decode bs pc = .ok (.i2b, 1)) (hp : pc + 1 = pc') (h : own_End p e below F (T.setTop (mkF m pc' Ls (.int (x.toInt8.toInt32) :: st)))) : own_End p e below F (T.setTop (mkF m pc Ls (.int x :: st))) := by
  subst hp; exact own_step (fun t k => XS.i2b X.here hx rfl (hb hby hd) rfl k) h
theorem own_i2s (X : Stand p l e R s m args below meth c T locs cells slots) (hx : p.tables.exec = Jvm.exec) (hby : c.code = bs) {x : Int32} (hd : decode bs pc = .ok (.i2s, 1)) (hp : pc + 1 = pc') (h : own_End p e below F (T.setTop (mkF m pc' Ls (.int (x.toInt16.toInt32) :: st)))) : own_End p e below F (T.setTop (mkF m pc Ls (.int x :: st))) := by
  subst hp; exact own_step (fun t k => XS.i2s X.here hx rfl (hb hby hd) rfl k) h
theorem own_i2c (X : Stand p l e R s m args below meth c T locs cells slots) (hx : p.tables.exec = Jvm.exec) (hby : c.code = bs) {x : Int32} (hd : decode bs pc = .ok (.i2c, 1)) (hp : pc + 1 = pc') (h : own_End p e below F (T.setTop (mkF m pc' Ls (.int (x.toUInt32.toUInt16.toUInt32.toInt32) :: st)))) : own_End p e below F (T.setTop (mkF m pc Ls (.int x :: st))) := by
  subst hp; exact own_step (fun t k => XS.i2c X.here hx rfl (hb hby hd) rfl k) h
theorem own_i2l (X : Stand p l e R s m args below meth c T locs cells slots) (hx : p.tables.exec = Jvm.exec) (hby : c.code = bs) {x : Int32} (hd : decode bs pc = .ok (.i2l, 1)) (hp : pc + 1 = pc') (h : own_End p e below F (T.setTop (mkF m pc' Ls (.long (x.toInt64) :: st)))) : own_End p e below F (T.setTop (mkF m pc Ls (.int x :: st))) := by
  subst hp; exact own_step (fun t k => XS.i2l X.here hx rfl (hb hby hd) rfl k) h
theorem own_lneg (X : Stand p l e R s m args below meth c T locs cells slots) (hx : p.tables.exec = Jvm.exec) (hby : c.code = bs) {x : Int64} (hd : decode bs pc = .ok (.lneg, 1)) (hp : pc + 1 = pc') (h : own_End p e below F (T.setTop (mkF m pc' Ls (.long (-x) :: st)))) : own_End p e below F (T.setTop (mkF m pc Ls (.long x :: st))) := by
  subst hp; exact own_step (fun t k => XS.lneg X.here hx rfl (hb hby hd) rfl k) h
theorem own_l2i (X : Stand p l e R s m args below meth c T locs cells slots) (hx : p.tables.exec = Jvm.exec) (hby : c.code = bs) {x : Int64} (hd : decode bs pc = .ok (.l2i, 1)) (hp : pc + 1 = pc') (h : own_End p e below F (T.setTop (mkF m pc' Ls (.int (x.toInt32) :: st)))) : own_End p e below F (T.setTop (mkF m pc Ls (.long x :: st))) := by
  subst hp; exact own_step (fun t k => XS.l2i X.here hx rfl (hb hby hd) rfl k) h
theorem own_idiv (X : Stand p l e R s m args below meth c T locs cells slots) (hx : p.tables.exec = Jvm.exec) (hby : c.code = bs) {x y : Int32} (hd : decode bs pc = .ok (.idiv, 1)) (hp : pc + 1 = pc') (hy : ¬ y = 0) (h : own_End p e below F (T.setTop (mkF m pc' Ls (.int (x / y) :: st)))) : own_End p e below F (T.setTop (mkF m pc Ls (.int y :: .int x :: st))) := by
  subst hp; exact own_step (fun t k => XS.idiv X.here hx rfl (hb hby hd) rfl hy k) h
theorem own_irem (X : Stand p l e R s m args below meth c T locs cells slots) (hx : p.tables.exec = Jvm.exec) (hby : c.code = bs) {x y : Int32} (hd : decode bs pc = .ok (.irem, 1)) (hp : pc + 1 = pc') (hy : ¬ y = 0) (h : own_End p e below F (T.setTop (mkF m pc' Ls (.int (x % y) :: st)))) : own_End p e below F (T.setTop (mkF m pc Ls (.int y :: .int x :: st))) := by
  subst hp; exact own_step (fun t k => iremM X hx rfl (hb hby hd) rfl hy k) h
theorem own_ldiv (X : Stand p l e R s m args below meth c T locs cells slots) (hx : p.tables.exec = Jvm.exec) (hby : c.code = bs) {x y : Int64} (hd : decode bs pc = .ok (.ldiv, 1)) (hp : pc + 1 = pc') (hy : ¬ y = 0) (h : own_End p e below F (T.setTop (mkF m pc' Ls (.long (x / y) :: st)))) : own_End p e below F (T.setTop (mkF m pc Ls (.long y :: .long x :: st))) := by
  subst hp; exact own_step (fun t k => XS.ldiv X.here hx rfl (hb hby hd) rfl hy k) h
theorem own_lrem (X : Stand p l e R s m args below meth c T locs cells slots) (hx : p.tables.exec = Jvm.exec) (hby : c.code = bs) {x y : Int64} (hd : decode bs pc = .ok (.lrem, 1)) (hp : pc + 1 = pc') (hy : ¬ y = 0) (h : own_End p e below F (T.setTop (mkF m pc' Ls (.long (x % y) :: st)))) : own_End p e below F (T.setTop (mkF m pc Ls (.long y :: .long x :: st))) := by
  subst hp; exact own_step (fun t k => XS.lrem X.here hx rfl (hb hby hd) rfl hy (by rw [lrem_mod]; exact k)) h
/-- the branch's condition, and its contrary -/
abbrev own_ct (cd : ClassFile.Cond) (x y : Int32) : Prop := match cd with | .eq => x = y | .ne => ¬ x = y | .lt => x < y | .ge => ¬ x < y | .gt => y < x | .le => ¬ y < x
abbrev own_cf (cd : ClassFile.Cond) (x y : Int32) : Prop := match cd with | .eq => ¬ x = y | .ne => x = y | .lt => ¬ x < y | .ge => x < y | .gt => ¬ y < x | .le => y < x
abbrev own_ctL (cd : ClassFile.Cond) (x y : Int64) : Prop := match cd with | .eq => x = y | .ne => ¬ x = y | .lt => x < y | .ge => ¬ x < y | .gt => y < x | .le => ¬ y < x
abbrev own_cfL (cd : ClassFile.Cond) (x y : Int64) : Prop := match cd with | .eq => ¬ x = y | .ne => x = y | .lt => ¬ x < y | .ge => x < y | .gt => ¬ y < x | .le => y < x
theorem own_ct_y {cd : ClassFile.Cond} {x y : Int32} (h : own_ct cd x y) : if_icmp.holds cd x y = true := by
  cases cd
  · exact (teq h).1
  · exact (feq h).2
  · exact (tlt h).1
  · exact (flt h).2.1
  · exact (tlt h).2.2.1
  · exact (flt h).2.2.2
theorem own_ct_n {cd : ClassFile.Cond} {x y : Int32} (h : own_cf cd x y) : if_icmp.holds cd x y = false := by
  cases cd
  · exact (feq h).1
  · exact (teq h).2
  · exact (flt h).1
  · exact (tlt h).2.1
  · exact (flt h).2.2.1
  · exact (tlt h).2.2.2
theorem own_ct_or (cd : ClassFile.Cond) (x y : Int32) : own_ct cd x y ∨ own_cf cd x y := by
  cases cd
  · exact Decidable.em _
  · exact (Decidable.em _).symm
  · exact Decidable.em _
  · exact (Decidable.em _).symm
  · exact Decidable.em _
  · exact (Decidable.em _).symm
theorem own_ctL_or (cd : ClassFile.Cond) (x y : Int64) : own_ctL cd x y ∨ own_cfL cd x y := by
  cases cd
  · exact Decidable.em _
  · exact (Decidable.em _).symm
  · exact Decidable.em _
  · exact (Decidable.em _).symm
  · exact Decidable.em _
  · exact (Decidable.em _).symm
theorem own_ctL_y {cd : ClassFile.Cond} {x y : Int64} (h : own_ctL cd x y) : own_ct cd (lcmpW x y) 0 := by
  cases cd
  · exact (lw_eq x y).mpr h
  · exact fun q => h ((lw_eq x y).mp q)
  · exact (lw_lt x y).mpr h
  · exact fun q => h ((lw_lt x y).mp q)
  · exact (lw_gt x y).mpr h
  · exact fun q => h ((lw_gt x y).mp q)
theorem own_ctL_n {cd : ClassFile.Cond} {x y : Int64} (h : own_cfL cd x y) : own_cf cd (lcmpW x y) 0 := by
  cases cd
  · exact fun q => h ((lw_eq x y).mp q)
  · exact (lw_eq x y).mpr h
  · exact fun q => h ((lw_lt x y).mp q)
  · exact (lw_lt x y).mpr h
  · exact fun q => h ((lw_gt x y).mp q)
  · exact (lw_gt x y).mpr h
theorem own_ifY (X : Stand p l e R s m args below meth c T locs cells slots) (hx : p.tables.exec = Jvm.exec) (hby : c.code = bs) {cd : ClassFile.Cond} {x : Int32} {o : Int} (hd : decode bs pc = .ok (.ifCond cd o, 3)) (ho : 0 ≤ (pc : Int) + o) (hp : ((pc : Int) + o).toNat = pc') (hc : own_ct cd x 0) (h : own_End p e below F (T.setTop (mkF m pc' Ls st))) : own_End p e below F (T.setTop (mkF m pc Ls (.int x :: st))) :=
  own_step (fun t k => XS.ifYes X.here hx rfl (pc0 := pc) (pc' := pc') rfl (hb hby hd) rfl ((if0 _ _).trans (own_ct_y hc)) ho hp k) h
theorem own_ifN (X : Stand p l e R s m args below meth c T locs cells slots) (hx : p.tables.exec = Jvm.exec) (hby : c.code = bs) {cd : ClassFile.Cond} {x : Int32} {o : Int} (hd : decode bs pc = .ok (.ifCond cd o, 3)) (hp : pc + 3 = pc') (hc : own_cf cd x 0) (h : own_End p e below F (T.setTop (mkF m pc' Ls st))) : own_End p e below F (T.setTop (mkF m pc Ls (.int x :: st))) := by
  subst hp; exact own_step (fun t k => XS.ifNo X.here hx rfl (hb hby hd) rfl ((if0 _ _).trans (own_ct_n hc)) k) h
theorem own_icY (X : Stand p l e R s m args below meth c T locs cells slots) (hx : p.tables.exec = Jvm.exec) (hby : c.code = bs) {cd : ClassFile.Cond} {x y : Int32} {o : Int} (hd : decode bs pc = .ok (.if_icmp cd o, 3)) (ho : 0 ≤ (pc : Int) + o) (hp : ((pc : Int) + o).toNat = pc') (hc : own_ct cd x y) (h : own_End p e below F (T.setTop (mkF m pc' Ls st))) : own_End p e below F (T.setTop (mkF m pc Ls (.int y :: .int x :: st))) :=
  own_step (fun t k => XS.icmpYes X.here hx rfl (pc0 := pc) (pc' := pc') rfl (hb hby hd) rfl (own_ct_y hc) ho hp k) h
theorem own_icN (X : Stand p l e R s m args below meth c T locs cells slots) (hx : p.tables.exec = Jvm.exec) (hby : c.code = bs) {cd : ClassFile.Cond} {x y : Int32} {o : Int} (hd : decode bs pc = .ok (.if_icmp cd o, 3)) (hp : pc + 3 = pc') (hc : own_cf cd x y) (h : own_End p e below F (T.setTop (mkF m pc' Ls st))) : own_End p e below F (T.setTop (mkF m pc Ls (.int y :: .int x :: st))) := by
  subst hp; exact own_step (fun t k => XS.icmpNo X.here hx rfl (hb hby hd) rfl (own_ct_n hc) k) h
theorem own_if2 (X : Stand p l e R s m args below meth c T locs cells slots) (hx : p.tables.exec = Jvm.exec) (hby : c.code = bs) {cd : ClassFile.Cond} {x : Int32} {o : Int} {pc1 pc2 : Nat} (hd : decode bs pc = .ok (.ifCond cd o, 3)) (ho : 0 ≤ (pc : Int) + o) (hp : ((pc : Int) + o).toNat = pc1) (hp2 : pc + 3 = pc2) (h1 : own_ct cd x 0 → own_End p e below F (T.setTop (mkF m pc1 Ls st))) (h2 : own_cf cd x 0 → own_End p e below F (T.setTop (mkF m pc2 Ls st))) : own_End p e below F (T.setTop (mkF m pc Ls (.int x :: st))) :=
  (own_ct_or cd x 0).elim (fun q => own_ifY X hx hby hd ho hp q (h1 q)) (fun q => own_ifN X hx hby hd hp2 q (h2 q))
theorem own_ic2 (X : Stand p l e R s m args below meth c T locs cells slots) (hx : p.tables.exec = Jvm.exec) (hby : c.code = bs) {cd : ClassFile.Cond} {x y : Int32} {o : Int} {pc1 pc2 : Nat} (hd : decode bs pc = .ok (.if_icmp cd o, 3)) (ho : 0 ≤ (pc : Int) + o) (hp : ((pc : Int) + o).toNat = pc1) (hp2 : pc + 3 = pc2) (h1 : own_ct cd x y → own_End p e below F (T.setTop (mkF m pc1 Ls st))) (h2 : own_cf cd x y → own_End p e below F (T.setTop (mkF m pc2 Ls st))) : own_End p e below F (T.setTop (mkF m pc Ls (.int y :: .int x :: st))) :=
  (own_ct_or cd x y).elim (fun q => own_icY X hx hby hd ho hp q (h1 q)) (fun q => own_icN X hx hby hd hp2 q (h2 q))
theorem own_ifL2 (X : Stand p l e R s m args below meth c T locs cells slots) (hx : p.tables.exec = Jvm.exec) (hby : c.code = bs) {cd : ClassFile.Cond} {x y : Int64} {o : Int} {pc1 pc2 : Nat} (hd : decode bs pc = .ok (.ifCond cd o, 3)) (ho : 0 ≤ (pc : Int) + o) (hp : ((pc : Int) + o).toNat = pc1) (hp2 : pc + 3 = pc2) (h1 : own_ctL cd x y → own_End p e below F (T.setTop (mkF m pc1 Ls st))) (h2 : own_cfL cd x y → own_End p e below F (T.setTop (mkF m pc2 Ls st))) : own_End p e below F (T.setTop (mkF m pc Ls (.int (lcmpW x y) :: st))) :=
  (own_ctL_or cd x y).elim (fun q => own_ifY X hx hby hd ho hp (own_ctL_y q) (h1 q)) (fun q => own_ifN X hx hby hd hp2 (own_ctL_n q) (h2 q))
theorem own_ifnullY (X : Stand p l e R s m args below meth c T locs cells slots) (hx : p.tables.exec = Jvm.exec) (hby : c.code = bs) {o : Int} (hd : decode bs pc = .ok (.ifnull o, 3)) (ho : 0 ≤ (pc : Int) + o) (hp : ((pc : Int) + o).toNat = pc') (h : own_End p e below F (T.setTop (mkF m pc' Ls st))) : own_End p e below F (T.setTop (mkF m pc Ls (.null :: st))) :=
  own_step (fun t k => XS.ifnullYes X.here hx rfl (pc0 := pc) (pc' := pc') rfl (hb hby hd) rfl ho hp k) h
theorem own_ifnullN (X : Stand p l e R s m args below meth c T locs cells slots) (hx : p.tables.exec = Jvm.exec) (hby : c.code = bs) {o : Int} {b : Addr} (hd : decode bs pc = .ok (.ifnull o, 3)) (hp : pc + 3 = pc') (h : own_End p e below F (T.setTop (mkF m pc' Ls st))) : own_End p e below F (T.setTop (mkF m pc Ls (.ref b :: st))) := by
  subst hp; exact own_step (fun t k => XS.ifnullNo X.here hx rfl (hb hby hd) rfl k) h
theorem own_ifnonnullY (X : Stand p l e R s m args below meth c T locs cells slots) (hx : p.tables.exec = Jvm.exec) (hby : c.code = bs) {o : Int} {b : Addr} (hd : decode bs pc = .ok (.ifnonnull o, 3)) (ho : 0 ≤ (pc : Int) + o) (hp : ((pc : Int) + o).toNat = pc') (h : own_End p e below F (T.setTop (mkF m pc' Ls st))) : own_End p e below F (T.setTop (mkF m pc Ls (.ref b :: st))) :=
  own_step (fun t k => XS.ifnonnullYes X.here hx rfl (pc0 := pc) (pc' := pc') rfl (hb hby hd) rfl ho hp k) h
theorem own_ifnonnullN (X : Stand p l e R s m args below meth c T locs cells slots) (hx : p.tables.exec = Jvm.exec) (hby : c.code = bs) {o : Int} (hd : decode bs pc = .ok (.ifnonnull o, 3)) (hp : pc + 3 = pc') (h : own_End p e below F (T.setTop (mkF m pc' Ls st))) : own_End p e below F (T.setTop (mkF m pc Ls (.null :: st))) := by
  subst hp; exact own_step (fun t k => XS.ifnonnullNo X.here hx rfl (hb hby hd) rfl k) h
theorem own_acmp (X : Stand p l e R s m args below meth c T locs cells slots) (hx : p.tables.exec = Jvm.exec) (hby : c.code = bs) {cd : ACond} {x y : Value} {o : Int} {same : Bool} (hd : decode bs pc = .ok (.if_acmp cd o, 3)) (h1 : x.isRef = true) (h2 : y.isRef = true) (hq : decide (x = y) = same) (ho : 0 ≤ (pc : Int) + o) (hp : pc' = if acV cd same = true then ((pc : Int) + o).toNat else pc + 3) (h : own_End p e below F (T.setTop (mkF m pc' Ls st))) : own_End p e below F (T.setTop (mkF m pc Ls (y :: x :: st))) :=
  own_step (fun t k => Jvm.RoadKit.acmp (g := mkF m pc Ls (y :: x :: st)) X hx rfl h1 h2 (pc0 := pc) (pc' := pc') (same := same) rfl (hb hby hd) rfl hq ho hp k) h
end Plain
section Words
variable {Z : State} {a0 : Array Value}
theorem own_ldcInt (X : Stand p l e R s m args below meth c T locs cells slots) (hx : p.tables.exec = Jvm.exec) (hZ : Z.Warmed39 s.vm) (hby : c.code = bs) {own : String} {index : Nat} {v : Int32} (hown : s.vm.findClass own = some m.cls) (w : (Cond.constant own index v).before a0 Z = true) (hd : decode bs pc = .ok (.ldc index, 2)) (hp : pc + 2 = pc') (h : own_End p e below F (T.setTop (mkF m pc' Ls (.int v :: st)))) : own_End p e below F (T.setTop (mkF m pc Ls st)) := by
  subst hp; exact own_step (X.ldcInt hx hown (mvT hZ w) (g := mkF m pc Ls st) rfl (hb hby hd)) h
theorem own_ldc2Long (X : Stand p l e R s m args below meth c T locs cells slots) (hx : p.tables.exec = Jvm.exec) (hZ : Z.Warmed39 s.vm) (hby : c.code = bs) {own : String} {index : Nat} {v : Int64} (hown : s.vm.findClass own = some m.cls) (w : (Cond.constantLong own index v).before a0 Z = true) (hd : decode bs pc = .ok (.ldc2_w index, 3)) (hp : pc + 3 = pc') (h : own_End p e below F (T.setTop (mkF m pc' Ls (.long v :: st)))) : own_End p e below F (T.setTop (mkF m pc Ls st)) := by
  subst hp; exact own_step (X.ldc2Long hx hown (mvT hZ w) (g := mkF m pc Ls st) rfl (hb hby hd)) h
end Words
section Heap
variable {Z : State} {a0 : Array Value} {h : Heap}
theorem own_getF (X : Stand p l e R s m args below meth c T locs cells slots) (hx : p.tables.exec = Jvm.exec) (hZ : Z.Warmed39 s.vm) (hby : c.code = bs) {own R0 O n d host : String} {index : Nat} {a : Addr} {v : Value} (hown : s.vm.findClass own = some m.cls) (w : (Cond.fieldLink own index R0 n d).before a0 Z = true ∨ (Cond.fieldLinkNest own index R0 n d host).before a0 Z = true) (via : Via Z R0 O n d) (eT : T.heap = h) (Fd : Fld Z h a O n d v) (hd : decode bs pc = .ok (.getfield index, 3)) (hp : pc + 3 = pc')
    (k : ∀ T', Stand p l e R s m args below meth c T' locs cells slots → T'.heap = h → own_End p e below F (T'.setTop (mkF m pc' Ls (v :: st)))) : own_End p e below F (T.setTop (mkF m pc Ls (.ref a :: st))) := by
  subst hp
  obtain ⟨T', X', e', stp⟩ := getF X hx hZ hown w via eT Fd (g := mkF m pc Ls (.ref a :: st)) rfl rfl (hb hby hd)
  exact own_step stp (k T' X' e')
theorem own_getS (X : Stand p l e R s m args below meth c T locs cells slots) (hx : p.tables.exec = Jvm.exec) (hZ : Z.Warmed39 s.vm) (hby : c.code = bs) {own R0 O n d host : String} {index : Nat} {v : Value} (hown : s.vm.findClass own = some m.cls) (w : (Cond.fieldLink own index R0 n d).before a0 Z = true ∨ (Cond.fieldLinkNest own index R0 n d host).before a0 Z = true) (via : Via Z R0 O n d) (eT : T.heap = h) (Fd : Sta Z h O n d v) (hd : decode bs pc = .ok (.getstatic index, 3)) (hp : pc + 3 = pc')
    (k : ∀ T', Stand p l e R s m args below meth c T' locs cells slots → T'.heap = h → own_End p e below F (T'.setTop (mkF m pc' Ls (v :: st)))) : own_End p e below F (T.setTop (mkF m pc Ls st)) := by
  subst hp
  obtain ⟨T', X', e', stp⟩ := getS2 X hx hZ hown w via eT Fd (g := mkF m pc Ls st) rfl (hb hby hd)
  exact own_step stp (k T' X' e')
theorem own_putF (X : Stand p l e R s m args below meth c T locs cells slots) (hx : p.tables.exec = Jvm.exec) (hZ : Z.Warmed39 s.vm) (hby : c.code = bs) {own R0 O n d host C : String} {index kk : Nat} {ty : FieldType} {a : Addr} {v old : Value} (hown : s.vm.findClass own = some m.cls) (w : (Cond.fieldLink own index R0 n d).before a0 Z = true ∨ (Cond.fieldLinkNest own index R0 n d host).before a0 Z = true) (via : Via Z R0 O n d) (eT : T.heap = h) (Fd : Fld Z h a O n d old) (E : Exa Z h a C)
    (La : (Cond.lays C O n d).before a0 Z = true ∨ ((Cond.laysFinal C O n d).before a0 Z = true ∧ own = O ∧ meth.name = "<init>")) (wi : (Cond.instantiable C kk).before a0 Z = true) (hty : parseFieldDescriptor d = some ty) (hn : narrow ty v = v) (hf : fits ty v = true) (hd : decode bs pc = .ok (.putfield index, 3)) (hp : pc + 3 = pc')
    (k : ∀ T' h', Stand p l e R s m args below meth c T' (locs ++ [⟨a, Jvm.RoadKit.slotOf Z O n d⟩]) cells slots → T'.heap = h' → Wr h h' a (Jvm.RoadKit.slotOf Z O n d) v → own_End p e below F (T'.setTop (mkF m pc' Ls st))) : own_End p e below F (T.setTop (mkF m pc Ls (v :: .ref a :: st))) := by
  subst hp
  obtain ⟨T', h', X', e', W', stp⟩ := putF X hx hZ hown w via eT Fd E La wi hty hn hf (g := mkF m pc Ls (v :: .ref a :: st)) rfl rfl (hb hby hd)
  exact own_step stp (k T' h' X' e' W')
theorem own_putN (X : Stand p l e R s m args below meth c T locs cells slots) (hx : p.tables.exec = Jvm.exec) (hZ : Z.Warmed39 s.vm) (hby : c.code = bs) {own R0 O n d C : String} {index kk : Nat} {ty : FieldType} {a : Addr} {v v' old : Value} (hown : s.vm.findClass own = some m.cls) (w : (Cond.fieldLink own index R0 n d).before a0 Z = true) (via : Via Z R0 O n d) (eT : T.heap = h) (Fd : Fld Z h a O n d old) (E : Exa Z h a C)
    (La : (Cond.lays C O n d).before a0 Z = true ∨ ((Cond.laysFinal C O n d).before a0 Z = true ∧ own = O ∧ meth.name = "<init>")) (wi : (Cond.instantiable C kk).before a0 Z = true) (hty : parseFieldDescriptor d = some ty) (hn : narrow ty v = v') (hf : fits ty v' = true) (hd : decode bs pc = .ok (.putfield index, 3)) (hp : pc + 3 = pc')
    (k : ∀ T' h', Stand p l e R s m args below meth c T' (locs ++ [⟨a, Jvm.RoadKit.slotOf Z O n d⟩]) cells slots → T'.heap = h' → Wr h h' a (Jvm.RoadKit.slotOf Z O n d) v' → own_End p e below F (T'.setTop (mkF m pc' Ls st))) : own_End p e below F (T.setTop (mkF m pc Ls (v :: .ref a :: st))) := by
  subst hp
  obtain ⟨T', h', X', e', W', stp⟩ := putFN X hx hZ hown w via eT Fd E La wi hty hn hf (g := mkF m pc Ls (v :: .ref a :: st)) rfl rfl (hb hby hd)
  exact own_step stp (k T' h' X' e' W')
theorem own_new (X : Stand p l e R s m args below meth c T locs cells slots) (hx : p.tables.exec = Jvm.exec) (hZ : Z.Warmed39 s.vm) (hby : c.code = bs) {own C : String} {index n : Nat} (hown : s.vm.findClass own = some m.cls) (w : (Cond.classLink own index C).before a0 Z = true) (wi : (Cond.instantiable C n).before a0 Z = true) (wz : (Cond.initialized C).before a0 Z = true) (eT : T.heap = h) (hd : decode bs pc = .ok (.new index, 3)) (hp : pc + 3 = pc') (hc : cells + 1 ≤ R.cells) (hl : slots + n ≤ R.slots)
    (k : ∀ T' h' (b : Addr), b = h.size → Stand p l e R s m args below meth c T' locs (cells + 1) (slots + n) → T'.heap = h' → Ext h h' → Exa Z h' b C → (∀ {O nm d : String} {ty : FieldType}, Laid Z a0 C O nm d → parseFieldDescriptor d = some ty → Fld Z h' b O nm d (defaultValue ty)) → own_End p e below F (T'.setTop (mkF m pc' Ls (.ref b :: st)))) : own_End p e below F (T.setTop (mkF m pc Ls st)) := by
  subst hp
  obtain ⟨T', h', X', e', E', A', D', -, stp⟩ := newO X hx hZ hown w wi wz eT (g := mkF m pc Ls st) rfl (hb hby hd) hc hl
  exact own_step stp (k T' h' h.size rfl X' e' E' A' D')
theorem own_newP (X : Stand p l e R s m args below meth c T locs cells slots) (hx : p.tables.exec = Jvm.exec) (hZ : Z.Warmed39 s.vm) (hby : c.code = bs) {aty : ArrayType} {n : Int32} {cap : Nat} (w : (Cond.arrayClass (newarray.typeOf aty)).before a0 Z = true) (eT : T.heap = h) (hd : decode bs pc = .ok (.newarray aty, 2)) (hp : pc + 2 = pc') (hn : ¬ n < 0) (hcap : n.toNatClampNeg ≤ cap) (hb' : cap * 8 ≤ 536870912) (hc : cells + 1 ≤ R.cells) (hl : slots + cap ≤ R.slots)
    (k : ∀ T' h' cA (b : Addr), b = h.size → Stand p l e R s m args below meth c T' locs (cells + 1) (slots + cap) → T'.heap = h' → Ext h h' → Arr Z h' b (newA cA (newarray.typeOf aty) n) (newarray.typeOf aty) → own_End p e below F (T'.setTop (mkF m pc' Ls (.ref b :: st)))) : own_End p e below F (T.setTop (mkF m pc Ls (.int n :: st))) := by
  subst hp
  obtain ⟨T', h', cA, X', e', E', A', stp⟩ := newP X hx hZ w eT (g := mkF m pc Ls (.int n :: st)) rfl (hb hby hd) rfl hn hcap hb' hc hl
  exact own_step stp (k T' h' cA h.size rfl X' e' E' A')
theorem own_newPE (X : Stand p l e R s m args below meth c T locs cells slots) (hx : p.tables.exec = Jvm.exec) (hZ : Z.Warmed39 s.vm) (hby : c.code = bs) {aty : ArrayType} {n : Int32} {cap : Nat} {ad : String} (had : "[" ++ (newarray.typeOf aty).toString = ad) (w : (Cond.arrayClass (newarray.typeOf aty)).before a0 Z = true) (eT : T.heap = h) (hd : decode bs pc = .ok (.newarray aty, 2)) (hp : pc + 2 = pc') (hn : ¬ n < 0) (hcap : n.toNatClampNeg ≤ cap) (hb' : cap * 8 ≤ 536870912) (hc : cells + 1 ≤ R.cells) (hl : slots + cap ≤ R.slots)
    (k : ∀ T' h' cA (b : Addr), b = h.size → Stand p l e R s m args below meth c T' locs (cells + 1) (slots + cap) → T'.heap = h' → Ext h h' → Arr Z h' b (newA cA (newarray.typeOf aty) n) (newarray.typeOf aty) → Exa Z h' b ad → own_End p e below F (T'.setTop (mkF m pc' Ls (.ref b :: st)))) : own_End p e below F (T.setTop (mkF m pc Ls (.int n :: st))) := by
  subst hp
  obtain ⟨T', h', cA, X', e', E', A', Ex', stp⟩ := newPE X hx hZ w eT (g := mkF m pc Ls (.int n :: st)) rfl (hb hby hd) rfl hn hcap hb' hc hl had
  exact own_step stp (k T' h' cA h.size rfl X' e' E' A' Ex')
theorem own_newR (X : Stand p l e R s m args below meth c T locs cells slots) (hx : p.tables.exec = Jvm.exec) (hZ : Z.Warmed39 s.vm) (hby : c.code = bs) {own C : String} {index : Nat} {n : Int32} {cap : Nat} (hown : s.vm.findClass own = some m.cls) (w1 : (Cond.classLink own index C).before a0 Z = true) (w2 : (Cond.arrayOver (.object C)).before a0 Z = true) (eT : T.heap = h) (hd : decode bs pc = .ok (.anewarray index, 3)) (hp : pc + 3 = pc') (hn : ¬ n < 0) (hcap : n.toNatClampNeg ≤ cap) (hb' : cap * 8 ≤ 536870912) (hc : cells + 1 ≤ R.cells) (hl : slots + cap ≤ R.slots)
    (k : ∀ T' h' cA (b : Addr), b = h.size → Stand p l e R s m args below meth c T' locs (cells + 1) (slots + cap) → T'.heap = h' → Ext h h' → Arr Z h' b (newA cA (.object C) n) (.object C) → Ovr Z cA C → own_End p e below F (T'.setTop (mkF m pc' Ls (.ref b :: st)))) : own_End p e below F (T.setTop (mkF m pc Ls (.int n :: st))) := by
  subst hp
  obtain ⟨T', h', cA, X', e', E', A', O', stp⟩ := newR X hx hZ hown w1 w2 eT (g := mkF m pc Ls (.int n :: st)) rfl (hb hby hd) rfl hn hcap hb' hc hl
  exact own_step stp (k T' h' cA h.size rfl X' e' E' A' O')
theorem own_iastore (X : Stand p l e R s m args below meth c T locs cells slots) (hx : p.tables.exec = Jvm.exec) (hZ : Z.Warmed39 s.vm) (hby : c.code = bs) {a : Addr} {cl : Cell} (eT : T.heap = h) (A : Arr Z h a cl .int) {j : Int32} {x : Int32} (hj : ¬ (j < 0 ∨ cl.slots.size ≤ j.toNatClampNeg)) (hd : decode bs pc = .ok (.iastore, 1)) (hp : pc + 1 = pc')
    (k : ∀ T' h', Stand p l e R s m args below meth c T' (locs ++ [⟨a, j.toNatClampNeg⟩]) cells slots → T'.heap = h' → Wr h h' a j.toNatClampNeg (.int x) → own_End p e below F (T'.setTop (mkF m pc' Ls st))) : own_End p e below F (T.setTop (mkF m pc Ls (.int x :: .int j :: .ref a :: st))) := by
  subst hp
  obtain ⟨T', h', X', e', W', stp⟩ := stI X hx hZ eT A hj (g := mkF m pc Ls (.int x :: .int j :: .ref a :: st)) rfl rfl (hb hby hd)
  exact own_step stp (k T' h' X' e' W')
theorem own_lastore (X : Stand p l e R s m args below meth c T locs cells slots) (hx : p.tables.exec = Jvm.exec) (hZ : Z.Warmed39 s.vm) (hby : c.code = bs) {a : Addr} {cl : Cell} (eT : T.heap = h) (A : Arr Z h a cl .long) {j : Int32} {x : Int64} (hj : ¬ (j < 0 ∨ cl.slots.size ≤ j.toNatClampNeg)) (hd : decode bs pc = .ok (.lastore, 1)) (hp : pc + 1 = pc')
    (k : ∀ T' h', Stand p l e R s m args below meth c T' (locs ++ [⟨a, j.toNatClampNeg⟩]) cells slots → T'.heap = h' → Wr h h' a j.toNatClampNeg (.long x) → own_End p e below F (T'.setTop (mkF m pc' Ls st))) : own_End p e below F (T.setTop (mkF m pc Ls (.long x :: .int j :: .ref a :: st))) := by
  subst hp
  obtain ⟨T', h', X', e', W', stp⟩ := stJ X hx hZ eT A hj (g := mkF m pc Ls (.long x :: .int j :: .ref a :: st)) rfl rfl (hb hby hd)
  exact own_step stp (k T' h' X' e' W')
theorem own_castore (X : Stand p l e R s m args below meth c T locs cells slots) (hx : p.tables.exec = Jvm.exec) (hZ : Z.Warmed39 s.vm) (hby : c.code = bs) {a : Addr} {cl : Cell} (eT : T.heap = h) (A : Arr Z h a cl .char) {j : Int32} {x : Int32} (hj : ¬ (j < 0 ∨ cl.slots.size ≤ j.toNatClampNeg)) (hd : decode bs pc = .ok (.castore, 1)) (hp : pc + 1 = pc')
    (k : ∀ T' h', Stand p l e R s m args below meth c T' (locs ++ [⟨a, j.toNatClampNeg⟩]) cells slots → T'.heap = h' → Wr h h' a j.toNatClampNeg (.int (nar .char x)) → own_End p e below F (T'.setTop (mkF m pc' Ls st))) : own_End p e below F (T.setTop (mkF m pc Ls (.int x :: .int j :: .ref a :: st))) := by
  subst hp
  obtain ⟨T', h', X', e', W', stp⟩ := stC X hx hZ eT A hj (g := mkF m pc Ls (.int x :: .int j :: .ref a :: st)) rfl rfl (hb hby hd)
  exact own_step stp (k T' h' X' e' W')
theorem own_bastore (X : Stand p l e R s m args below meth c T locs cells slots) (hx : p.tables.exec = Jvm.exec) (hZ : Z.Warmed39 s.vm) (hby : c.code = bs) {a : Addr} {cl : Cell} (eT : T.heap = h) (A : Arr Z h a cl .byte) {j : Int32} {x : Int32} (hj : ¬ (j < 0 ∨ cl.slots.size ≤ j.toNatClampNeg)) (hd : decode bs pc = .ok (.bastore, 1)) (hp : pc + 1 = pc')
    (k : ∀ T' h', Stand p l e R s m args below meth c T' (locs ++ [⟨a, j.toNatClampNeg⟩]) cells slots → T'.heap = h' → Wr h h' a j.toNatClampNeg (.int (nar .byte x)) → own_End p e below F (T'.setTop (mkF m pc' Ls st))) : own_End p e below F (T.setTop (mkF m pc Ls (.int x :: .int j :: .ref a :: st))) := by
  subst hp
  obtain ⟨T', h', X', e', W', stp⟩ := stB X hx hZ eT A hj (g := mkF m pc Ls (.int x :: .int j :: .ref a :: st)) rfl rfl (hb hby hd)
  exact own_step stp (k T' h' X' e' W')
theorem own_stR (X : Stand p l e R s m args below meth c T locs cells slots) (hx : p.tables.exec = Jvm.exec) (hZ : Z.Warmed39 s.vm) (hby : c.code = bs) {a : Addr} {cl : Cell} {ty : FieldType} (eT : T.heap = h) (A : Arr Z h a cl ty) {j : Int32} {v : Value} (hj : ¬ (j < 0 ∨ cl.slots.size ≤ j.toNatClampNeg)) (hty : ty.isReference = true) (S : Sto Z h a v) (hd : decode bs pc = .ok (.aastore, 1)) (hp : pc + 1 = pc')
    (k : ∀ T' h', Stand p l e R s m args below meth c T' (locs ++ [⟨a, j.toNatClampNeg⟩]) cells slots → T'.heap = h' → Wr h h' a j.toNatClampNeg v → own_End p e below F (T'.setTop (mkF m pc' Ls st))) : own_End p e below F (T.setTop (mkF m pc Ls (v :: .int j :: .ref a :: st))) := by
  subst hp
  obtain ⟨T', h', X', e', W', stp⟩ := stR X hx hZ eT A hj hty S (g := mkF m pc Ls (v :: .int j :: .ref a :: st)) rfl rfl (hb hby hd)
  exact own_step stp (k T' h' X' e' W')
theorem own_iaload (X : Stand p l e R s m args below meth c T locs cells slots) (hx : p.tables.exec = Jvm.exec) (hZ : Z.Warmed39 s.vm) (hby : c.code = bs) {a : Addr} {cl : Cell} (eT : T.heap = h) (A : Arr Z h a cl .int) {j : Int32} {v : Value} (hj : ¬ (j < 0 ∨ cl.slots.size ≤ j.toNatClampNeg)) (hv : cl.slots[j.toNatClampNeg]? = some v) (hd : decode bs pc = .ok (.iaload, 1)) (hp : pc + 1 = pc') (k : own_End p e below F (T.setTop (mkF m pc' Ls (v :: st)))) : own_End p e below F (T.setTop (mkF m pc Ls (.int j :: .ref a :: st))) := by
  subst hp
  exact own_step (fun t q => X.iaload hx (j := j) (v := v) (by rw [eT]; exact A.1) (State.isArrayOf_alike hZ.alike A.2.1) A.2.2 hj hv (g := mkF m pc Ls (.int j :: .ref a :: st)) rfl rfl (hb hby hd) _ q) k
theorem own_laload (X : Stand p l e R s m args below meth c T locs cells slots) (hx : p.tables.exec = Jvm.exec) (hZ : Z.Warmed39 s.vm) (hby : c.code = bs) {a : Addr} {cl : Cell} (eT : T.heap = h) (A : Arr Z h a cl .long) {j : Int32} {v : Value} (hj : ¬ (j < 0 ∨ cl.slots.size ≤ j.toNatClampNeg)) (hv : cl.slots[j.toNatClampNeg]? = some v) (hd : decode bs pc = .ok (.laload, 1)) (hp : pc + 1 = pc') (k : own_End p e below F (T.setTop (mkF m pc' Ls (v :: st)))) : own_End p e below F (T.setTop (mkF m pc Ls (.int j :: .ref a :: st))) := by
  subst hp
  exact own_step (fun t q => X.laload hx (j := j) (v := v) (by rw [eT]; exact A.1) (State.isArrayOf_alike hZ.alike A.2.1) A.2.2 hj hv (g := mkF m pc Ls (.int j :: .ref a :: st)) rfl rfl (hb hby hd) _ q) k
theorem own_caload (X : Stand p l e R s m args below meth c T locs cells slots) (hx : p.tables.exec = Jvm.exec) (hZ : Z.Warmed39 s.vm) (hby : c.code = bs) {a : Addr} {cl : Cell} (eT : T.heap = h) (A : Arr Z h a cl .char) {j : Int32} {v : Value} (hj : ¬ (j < 0 ∨ cl.slots.size ≤ j.toNatClampNeg)) (hv : cl.slots[j.toNatClampNeg]? = some v) (hd : decode bs pc = .ok (.caload, 1)) (hp : pc + 1 = pc') (k : own_End p e below F (T.setTop (mkF m pc' Ls (v :: st)))) : own_End p e below F (T.setTop (mkF m pc Ls (.int j :: .ref a :: st))) := by
  subst hp
  exact own_step (fun t q => X.caload hx (j := j) (v := v) (by rw [eT]; exact A.1) (State.isArrayOf_alike hZ.alike A.2.1) A.2.2 hj hv (g := mkF m pc Ls (.int j :: .ref a :: st)) rfl rfl (hb hby hd) _ q) k
theorem own_baload (X : Stand p l e R s m args below meth c T locs cells slots) (hx : p.tables.exec = Jvm.exec) (hZ : Z.Warmed39 s.vm) (hby : c.code = bs) {a : Addr} {cl : Cell} (eT : T.heap = h) (A : Arr Z h a cl .byte) {j : Int32} {v : Value} (hj : ¬ (j < 0 ∨ cl.slots.size ≤ j.toNatClampNeg)) (hv : cl.slots[j.toNatClampNeg]? = some v) (hd : decode bs pc = .ok (.baload, 1)) (hp : pc + 1 = pc') (k : own_End p e below F (T.setTop (mkF m pc' Ls (v :: st)))) : own_End p e below F (T.setTop (mkF m pc Ls (.int j :: .ref a :: st))) := by
  subst hp
  exact own_step (fun t q => X.baloadBytes hx (j := j) (v := v) (by rw [eT]; exact A.1) (State.isArrayOf_alike hZ.alike A.2.1) A.2.2 hj hv (g := mkF m pc Ls (.int j :: .ref a :: st)) rfl rfl (hb hby hd) _ q) k
theorem own_aaload (X : Stand p l e R s m args below meth c T locs cells slots) (hx : p.tables.exec = Jvm.exec) (hZ : Z.Warmed39 s.vm) (hby : c.code = bs) {a : Addr} {cl : Cell} {ty : FieldType} (eT : T.heap = h) (A : Arr Z h a cl ty) (hty : ty.isReference = true) {j : Int32} {v : Value} (hj : ¬ (j < 0 ∨ cl.slots.size ≤ j.toNatClampNeg)) (hv : cl.slots[j.toNatClampNeg]? = some v) (hd : decode bs pc = .ok (.aaload, 1)) (hp : pc + 1 = pc') (k : own_End p e below F (T.setTop (mkF m pc' Ls (v :: st)))) : own_End p e below F (T.setTop (mkF m pc Ls (.int j :: .ref a :: st))) := by
  subst hp
  exact own_step (fun t q => X.aaload hx (j := j) (v := v) (by rw [eT]; exact A.1) (State.isArrayOf_alike hZ.alike A.2.1) hty A.2.2 hj hv (g := mkF m pc Ls (.int j :: .ref a :: st)) rfl rfl (hb hby hd) _ q) k
theorem own_alen (X : Stand p l e R s m args below meth c T locs cells slots) (hx : p.tables.exec = Jvm.exec) (hZ : Z.Warmed39 s.vm) (hby : c.code = bs) {a : Addr} {cl : Cell} {ty : FieldType} {z : Int32} (eT : T.heap = h) (A : Arr Z h a cl ty) (S : cl.slots.size = z.toNatClampNeg) (M : ¬ z < 0) (hd : decode bs pc = .ok (.arraylength, 1)) (hp : pc + 1 = pc') (k : own_End p e below F (T.setTop (mkF m pc' Ls (.int z :: st)))) : own_End p e below F (T.setTop (mkF m pc Ls (.ref a :: st))) := by
  subst hp
  have hl := len_of S M
  exact own_step (fun t q => X.arraylength hx (by rw [eT]; exact A.1) (State.isArrayOf_alike hZ.alike A.2.1) (g := mkF m pc Ls (.ref a :: st)) rfl rfl (hb hby hd) _ (by rw [hl]; exact q)) k
theorem own_init (X : Stand p l e R s m args below meth c T locs cells slots) (hx : p.tables.exec = Jvm.exec) (hZ : Z.Warmed39 s.vm) (hby : c.code = bs) {own : String} {index : Nat} {a : Addr} {W : Nat} (hown : s.vm.findClass own = some m.cls) (w1 : (Cond.methodLink own index Lib.objectInit).before a0 Z = true) (w2 : (Cond.instanceMethod Lib.objectInit).before a0 Z = true) (w3 : (Cond.code Lib.objectInit ⟨#[0xb1]⟩ 1 none).before a0 Z = true) (eT : T.heap = h) (hsz : Ls.size = c.maxLocals) (hd : decode bs pc = .ok (.invokespecial index, 3)) (hp : pc + 3 = pc') (hf : 1 ≤ R.frames) (hW : (st.map fun v => v.category).sum ≤ W) (hl : W + 12 ≤ R.locals)
    (k : ∀ T', Stand p l e R s m args below meth c T' locs cells slots → T'.heap = h → own_End p e below F (T'.setTop (mkF m pc' Ls st))) : own_End p e below F (T.setTop (mkF m pc Ls (.ref a :: st))) := by
  subst hp
  obtain ⟨T', X', e', stp⟩ := initO X hx hZ hown w1 w2 w3 eT (g := mkF m pc Ls (.ref a :: st)) rfl hsz rfl (hb hby hd) hf (W := W) (by show 2 * 0 + _ ≤ _; omega) hl
  exact own_step stp (k T' X' e')
theorem own_cast (X : Stand p l e R s m args below meth c T locs cells slots) (hx : p.tables.exec = Jvm.exec) (hZ : Z.Warmed39 s.vm) (hby : c.code = bs) {own K : String} {index : Nat} {a : Addr} (hown : s.vm.findClass own = some m.cls) (w : (Cond.classLink own index K).before a0 Z = true) (eT : T.heap = h) (I : Ins Z h a K true) (hd : decode bs pc = .ok (.checkcast index, 3)) (hp : pc + 3 = pc')
    (k : ∀ T', Stand p l e R s m args below meth c T' locs cells slots → T'.heap = h → own_End p e below F (T'.setTop (mkF m pc' Ls (.ref a :: st)))) : own_End p e below F (T.setTop (mkF m pc Ls (.ref a :: st))) := by
  subst hp
  obtain ⟨T', X', e', stp⟩ := castY X hx hZ hown w eT I (g := mkF m pc Ls (.ref a :: st)) rfl rfl (hb hby hd)
  exact own_step stp (k T' X' e')
theorem own_inst (X : Stand p l e R s m args below meth c T locs cells slots) (hx : p.tables.exec = Jvm.exec) (hZ : Z.Warmed39 s.vm) (hby : c.code = bs) {own K : String} {index : Nat} {a : Addr} (hown : s.vm.findClass own = some m.cls) (w : (Cond.classLink own index K).before a0 Z = true) (eT : T.heap = h) (I : Ins Z h a K true) (hd : decode bs pc = .ok (.instanceof index, 3)) (hp : pc + 3 = pc')
    (k : ∀ T', Stand p l e R s m args below meth c T' locs cells slots → T'.heap = h → own_End p e below F (T'.setTop (mkF m pc' Ls (.int 1 :: st)))) : own_End p e below F (T.setTop (mkF m pc Ls (.ref a :: st))) := by
  subst hp
  obtain ⟨T', X', e', stp⟩ := instY X hx hZ hown w eT I (g := mkF m pc Ls (.ref a :: st)) rfl rfl (hb hby hd)
  exact own_step stp (k T' X' e')
theorem own_instNull (X : Stand p l e R s m args below meth c T locs cells slots) (hx : p.tables.exec = Jvm.exec) (hby : c.code = bs) {index : Nat} (hd : decode bs pc = .ok (.instanceof index, 3)) (hp : pc + 3 = pc') (k : own_End p e below F (T.setTop (mkF m pc' Ls (.int 0 :: st)))) : own_End p e below F (T.setTop (mkF m pc Ls (.null :: st))) := by
  subst hp
  exact own_step (fun t q => X.instanceofNull hx (g := mkF m pc Ls (.null :: st)) rfl rfl (hb hby hd) _ q) k
end Heap
end OwnKit

theorem wd_0 {a0 : Array Value} {Z : State} (hw : ∀ d ∈ tables_1, d.before a0 Z = true) : (Jvm.Cond.arrayClass Jvm.ClassFile.FieldType.byte).before a0 Z = true := hw _ (List.mem_of_getElem? (i := 0) rfl)
theorem wd_1 {a0 : Array Value} {Z : State} (hw : ∀ d ∈ tables_1, d.before a0 Z = true) : (Jvm.Cond.methodLink "com/example/hermod/hermod/xrap/ContentBodyOfPinLaw" (7 : Nat) ({ cls := "com/example/hermod/hermod/xrap/ContentBody", name := "of", desc := "([B)Lcom/example/hermod/hermod/xrap/ContentBody;" } : Jvm.MethodName)).before a0 Z = true := hw _ (List.mem_of_getElem? (i := 1) rfl)
theorem wd_2 {a0 : Array Value} {Z : State} (hw : ∀ d ∈ tables_1, d.before a0 Z = true) : (Jvm.Cond.static ({ cls := "com/example/hermod/hermod/xrap/ContentBody", name := "of", desc := "([B)Lcom/example/hermod/hermod/xrap/ContentBody;" } : Jvm.MethodName)).before a0 Z = true := hw _ (List.mem_of_getElem? (i := 2) rfl)
theorem wd_3 {a0 : Array Value} {Z : State} (hw : ∀ d ∈ tables_1, d.before a0 Z = true) : (Jvm.Cond.initialized "com/example/hermod/hermod/xrap/ContentBody").before a0 Z = true := hw _ (List.mem_of_getElem? (i := 3) rfl)
theorem wd_4 {a0 : Array Value} {Z : State} (hw : ∀ d ∈ tables_1, d.before a0 Z = true) : (Jvm.Cond.code ({ cls := "com/example/hermod/hermod/xrap/ContentBody", name := "of", desc := "([B)Lcom/example/hermod/hermod/xrap/ContentBody;" } : Jvm.MethodName) prog_10_method_2_code (1 : Nat) (Option.some (Jvm.ClassFile.FieldType.object "com/example/hermod/hermod/xrap/ContentBody"))).before a0 Z = true := hw _ (List.mem_of_getElem? (i := 4) rfl)
theorem wd_5 {a0 : Array Value} {Z : State} (hw : ∀ d ∈ tables_1, d.before a0 Z = true) : (Jvm.Cond.classLink "com/example/hermod/hermod/xrap/ContentBody" (8 : Nat) "com/example/hermod/hermod/xrap/ContentBody").before a0 Z = true := hw _ (List.mem_of_getElem? (i := 5) rfl)
theorem wd_6 {a0 : Array Value} {Z : State} (hw : ∀ d ∈ tables_1, d.before a0 Z = true) : (Jvm.Cond.instantiable "com/example/hermod/hermod/xrap/ContentBody" (1 : Nat)).before a0 Z = true := hw _ (List.mem_of_getElem? (i := 6) rfl)
theorem wd_7 {a0 : Array Value} {Z : State} (hw : ∀ d ∈ tables_1, d.before a0 Z = true) : (Jvm.Cond.methodLink "com/example/hermod/hermod/xrap/ContentBody" (13 : Nat) ({ cls := "[B", name := "clone", desc := "()Ljava/lang/Object;" } : Jvm.MethodName)).before a0 Z = true := hw _ (List.mem_of_getElem? (i := 7) rfl)
theorem wd_8 {a0 : Array Value} {Z : State} (hw : ∀ d ∈ tables_1, d.before a0 Z = true) : (Jvm.Cond.sameMethod "[B" "java/lang/Object" "clone" "()Ljava/lang/Object;").before a0 Z = true := hw _ (List.mem_of_getElem? (i := 8) rfl)
theorem wd_10 {a0 : Array Value} {Z : State} (hw : ∀ d ∈ tables_1, d.before a0 Z = true) : (Jvm.Cond.instanceMethod ({ cls := "java/lang/Object", name := "clone", desc := "()Ljava/lang/Object;" } : Jvm.MethodName)).before a0 Z = true := hw _ (List.mem_of_getElem? (i := 10) rfl)
theorem wd_11 {a0 : Array Value} {Z : State} (hw : ∀ d ∈ tables_1, d.before a0 Z = true) : (Jvm.Cond.selects "[B" ({ cls := "[B", name := "clone", desc := "()Ljava/lang/Object;" } : Jvm.MethodName) ({ cls := "java/lang/Object", name := "clone", desc := "()Ljava/lang/Object;" } : Jvm.MethodName)).before a0 Z = true := hw _ (List.mem_of_getElem? (i := 11) rfl)
theorem wd_12 {a0 : Array Value} {Z : State} (hw : ∀ d ∈ tables_1, d.before a0 Z = true) : (Jvm.Cond.native ({ cls := "java/lang/Object", name := "clone", desc := "()Ljava/lang/Object;" } : Jvm.MethodName)).before a0 Z = true := hw _ (List.mem_of_getElem? (i := 12) rfl)
theorem wd_13 {a0 : Array Value} {Z : State} (hw : ∀ d ∈ tables_1, d.before a0 Z = true) : (Jvm.Cond.castable "[B" "java/lang/Cloneable").before a0 Z = true := hw _ (List.mem_of_getElem? (i := 13) rfl)
theorem wd_14 {a0 : Array Value} {Z : State} (hw : ∀ d ∈ tables_1, d.before a0 Z = true) : (Jvm.Cond.classLink "com/example/hermod/hermod/xrap/ContentBody" (14 : Nat) "[B").before a0 Z = true := hw _ (List.mem_of_getElem? (i := 14) rfl)
theorem wd_16 {a0 : Array Value} {Z : State} (hw : ∀ d ∈ tables_1, d.before a0 Z = true) : (Jvm.Cond.methodLink "com/example/hermod/hermod/xrap/ContentBody" (18 : Nat) ({ cls := "com/example/hermod/hermod/xrap/ContentBody", name := "<init>", desc := "([B)V" } : Jvm.MethodName)).before a0 Z = true := hw _ (List.mem_of_getElem? (i := 16) rfl)
theorem wd_17 {a0 : Array Value} {Z : State} (hw : ∀ d ∈ tables_1, d.before a0 Z = true) : (Jvm.Cond.instanceMethod ({ cls := "com/example/hermod/hermod/xrap/ContentBody", name := "<init>", desc := "([B)V" } : Jvm.MethodName)).before a0 Z = true := hw _ (List.mem_of_getElem? (i := 17) rfl)
theorem wd_18 {a0 : Array Value} {Z : State} (hw : ∀ d ∈ tables_1, d.before a0 Z = true) : (Jvm.Cond.code ({ cls := "com/example/hermod/hermod/xrap/ContentBody", name := "<init>", desc := "([B)V" } : Jvm.MethodName) prog_10_method_1_code (2 : Nat) (Option.none : Option Jvm.ClassFile.FieldType)).before a0 Z = true := hw _ (List.mem_of_getElem? (i := 18) rfl)
theorem wd_19 {a0 : Array Value} {Z : State} (hw : ∀ d ∈ tables_1, d.before a0 Z = true) : (Jvm.Cond.methodLink "com/example/hermod/hermod/xrap/ContentBody" (1 : Nat) ({ cls := "java/lang/Object", name := "<init>", desc := "()V" } : Jvm.MethodName)).before a0 Z = true := hw _ (List.mem_of_getElem? (i := 19) rfl)
theorem wd_20 {a0 : Array Value} {Z : State} (hw : ∀ d ∈ tables_1, d.before a0 Z = true) : (Jvm.Cond.instanceMethod ({ cls := "java/lang/Object", name := "<init>", desc := "()V" } : Jvm.MethodName)).before a0 Z = true := hw _ (List.mem_of_getElem? (i := 20) rfl)
theorem wd_21 {a0 : Array Value} {Z : State} (hw : ∀ d ∈ tables_1, d.before a0 Z = true) : (Jvm.Cond.code ({ cls := "java/lang/Object", name := "<init>", desc := "()V" } : Jvm.MethodName) object_method_1_code (1 : Nat) (Option.none : Option Jvm.ClassFile.FieldType)).before a0 Z = true := hw _ (List.mem_of_getElem? (i := 21) rfl)
theorem wd_22 {a0 : Array Value} {Z : State} (hw : ∀ d ∈ tables_1, d.before a0 Z = true) : (Jvm.Cond.fieldLink "com/example/hermod/hermod/xrap/ContentBody" (7 : Nat) "com/example/hermod/hermod/xrap/ContentBody" "octets" "[B").before a0 Z = true := hw _ (List.mem_of_getElem? (i := 22) rfl)
theorem wd_23 {a0 : Array Value} {Z : State} (hw : ∀ d ∈ tables_1, d.before a0 Z = true) : (Jvm.Cond.laysFinal "com/example/hermod/hermod/xrap/ContentBody" "com/example/hermod/hermod/xrap/ContentBody" "octets" "[B").before a0 Z = true := hw _ (List.mem_of_getElem? (i := 23) rfl)
theorem wd_24 {a0 : Array Value} {Z : State} (hw : ∀ d ∈ tables_1, d.before a0 Z = true) : (Jvm.Cond.methodLink "com/example/hermod/hermod/xrap/ContentBodyOfPinLaw" (13 : Nat) ({ cls := "com/example/hermod/hermod/xrap/ContentBody", name := "length", desc := "()I" } : Jvm.MethodName)).before a0 Z = true := hw _ (List.mem_of_getElem? (i := 24) rfl)
theorem wd_25 {a0 : Array Value} {Z : State} (hw : ∀ d ∈ tables_1, d.before a0 Z = true) : (Jvm.Cond.declares ({ cls := "com/example/hermod/hermod/xrap/ContentBody", name := "length", desc := "()I" } : Jvm.MethodName)).before a0 Z = true := hw _ (List.mem_of_getElem? (i := 25) rfl)
theorem wd_26 {a0 : Array Value} {Z : State} (hw : ∀ d ∈ tables_1, d.before a0 Z = true) : (Jvm.Cond.instanceMethod ({ cls := "com/example/hermod/hermod/xrap/ContentBody", name := "length", desc := "()I" } : Jvm.MethodName)).before a0 Z = true := hw _ (List.mem_of_getElem? (i := 26) rfl)
theorem wd_27 {a0 : Array Value} {Z : State} (hw : ∀ d ∈ tables_1, d.before a0 Z = true) : (Jvm.Cond.selects "com/example/hermod/hermod/xrap/ContentBody" ({ cls := "com/example/hermod/hermod/xrap/ContentBody", name := "length", desc := "()I" } : Jvm.MethodName) ({ cls := "com/example/hermod/hermod/xrap/ContentBody", name := "length", desc := "()I" } : Jvm.MethodName)).before a0 Z = true := hw _ (List.mem_of_getElem? (i := 27) rfl)
theorem wd_28 {a0 : Array Value} {Z : State} (hw : ∀ d ∈ tables_1, d.before a0 Z = true) : (Jvm.Cond.code ({ cls := "com/example/hermod/hermod/xrap/ContentBody", name := "length", desc := "()I" } : Jvm.MethodName) prog_10_method_4_code (1 : Nat) (Option.some Jvm.ClassFile.FieldType.int)).before a0 Z = true := hw _ (List.mem_of_getElem? (i := 28) rfl)
theorem wd_29 {a0 : Array Value} {Z : State} (hw : ∀ d ∈ tables_1, d.before a0 Z = true) : (Jvm.Cond.methodLink "com/example/hermod/hermod/xrap/ContentBodyOfPinLaw" (17 : Nat) ({ cls := "com/example/hermod/hermod/xrap/ContentBody", name := "octets", desc := "()[B" } : Jvm.MethodName)).before a0 Z = true := hw _ (List.mem_of_getElem? (i := 29) rfl)
theorem wd_30 {a0 : Array Value} {Z : State} (hw : ∀ d ∈ tables_1, d.before a0 Z = true) : (Jvm.Cond.declares ({ cls := "com/example/hermod/hermod/xrap/ContentBody", name := "octets", desc := "()[B" } : Jvm.MethodName)).before a0 Z = true := hw _ (List.mem_of_getElem? (i := 30) rfl)
theorem wd_31 {a0 : Array Value} {Z : State} (hw : ∀ d ∈ tables_1, d.before a0 Z = true) : (Jvm.Cond.instanceMethod ({ cls := "com/example/hermod/hermod/xrap/ContentBody", name := "octets", desc := "()[B" } : Jvm.MethodName)).before a0 Z = true := hw _ (List.mem_of_getElem? (i := 31) rfl)
theorem wd_32 {a0 : Array Value} {Z : State} (hw : ∀ d ∈ tables_1, d.before a0 Z = true) : (Jvm.Cond.selects "com/example/hermod/hermod/xrap/ContentBody" ({ cls := "com/example/hermod/hermod/xrap/ContentBody", name := "octets", desc := "()[B" } : Jvm.MethodName) ({ cls := "com/example/hermod/hermod/xrap/ContentBody", name := "octets", desc := "()[B" } : Jvm.MethodName)).before a0 Z = true := hw _ (List.mem_of_getElem? (i := 32) rfl)
theorem wd_33 {a0 : Array Value} {Z : State} (hw : ∀ d ∈ tables_1, d.before a0 Z = true) : (Jvm.Cond.code ({ cls := "com/example/hermod/hermod/xrap/ContentBody", name := "octets", desc := "()[B" } : Jvm.MethodName) prog_10_method_7_code (1 : Nat) (Option.some (Jvm.ClassFile.FieldType.array Jvm.ClassFile.FieldType.byte))).before a0 Z = true := hw _ (List.mem_of_getElem? (i := 33) rfl)
theorem d1_0 : decode prog_10_method_2_code 0 = .ok (.new 8, 3) := by decide +kernel
theorem d1_3 : decode prog_10_method_2_code 3 = .ok (.dup, 1) := by decide +kernel
theorem d1_4 : decode prog_10_method_2_code 4 = .ok (.aload_n 0, 1) := by decide +kernel
theorem d1_5 : decode prog_10_method_2_code 5 = .ok (.invokevirtual 13, 3) := by decide +kernel
theorem d1_8 : decode prog_10_method_2_code 8 = .ok (.checkcast 14, 3) := by decide +kernel
theorem d1_11 : decode prog_10_method_2_code 11 = .ok (.invokespecial 18, 3) := by decide +kernel
theorem d1_14 : decode prog_10_method_2_code 14 = .ok (.areturn, 1) := by decide +kernel
theorem d2_0 : decode prog_10_method_1_code 0 = .ok (.aload_n 0, 1) := by decide +kernel
theorem d2_1 : decode prog_10_method_1_code 1 = .ok (.invokespecial 1, 3) := by decide +kernel
theorem d2_4 : decode prog_10_method_1_code 4 = .ok (.aload_n 0, 1) := by decide +kernel
theorem d2_5 : decode prog_10_method_1_code 5 = .ok (.aload_n 1, 1) := by decide +kernel
theorem d2_6 : decode prog_10_method_1_code 6 = .ok (.putfield 7, 3) := by decide +kernel
theorem d2_9 : decode prog_10_method_1_code 9 = .ok (.return_, 1) := by decide +kernel
theorem d4_0 : decode prog_10_method_4_code 0 = .ok (.aload_n 0, 1) := by decide +kernel
theorem d4_1 : decode prog_10_method_4_code 1 = .ok (.getfield 7, 3) := by decide +kernel
theorem d4_4 : decode prog_10_method_4_code 4 = .ok (.arraylength, 1) := by decide +kernel
theorem d4_5 : decode prog_10_method_4_code 5 = .ok (.ireturn, 1) := by decide +kernel
theorem d5_0 : decode prog_10_method_7_code 0 = .ok (.aload_n 0, 1) := by decide +kernel
theorem d5_1 : decode prog_10_method_7_code 1 = .ok (.getfield 7, 3) := by decide +kernel
theorem d5_4 : decode prog_10_method_7_code 4 = .ok (.areturn, 1) := by decide +kernel
theorem own_pn0 : plainName "com/example/hermod/hermod/xrap/ContentBody" = true := by first | (simp [plainName, overriddenIn]; done) | decide +kernel
theorem own_pd1 : parseMethodDescriptor "([B)V" = some ⟨[(.array .byte)], none⟩ := by decide +kernel
theorem own_pd2 : parseMethodDescriptor "([B)Lcom/example/hermod/hermod/xrap/ContentBody;" = some ⟨[(.array .byte)], some (.object "com/example/hermod/hermod/xrap/ContentBody")⟩ := by decide +kernel
theorem own_pd3 : parseMethodDescriptor "()I" = some ⟨[], some .int⟩ := by decide +kernel
theorem own_pd4 : parseMethodDescriptor "()[B" = some ⟨[], some (.array .byte)⟩ := by decide +kernel
theorem own_pn5 : plainName "com/example/hermod/hermod/xrap/ContentBodyOfPinLaw" = true := by first | (simp [plainName, overriddenIn]; done) | decide +kernel
set_option maxRecDepth 65536 in
theorem own_lk0 {p : Program} {l : Launch} {e : Env} {R : Room} {s : State} {m : MethodId} {args : Array Value} {below : List Frame} {meth : Method} {c : Code} {T : State} {locs : List Loc} {cells slots : Nat} {F : Option Value → State → Prop} {bs : ByteArray} {pc pc' : Nat} {Ls : Array Slot} {Z : State} {a0 : Array Value} {h : Heap} {x0 : Value} {b : Addr} {rest : List Value} {W : Nat} {rm : Room} {Q : Option Value → Heap → List Loc → Prop} (hw : ∀ d ∈ tables_1, d.before a0 Z = true) (X : Stand p l e R s m args below meth c T locs cells slots) (hx : p.tables.exec = Jvm.exec) (hZ : Z.Warmed39 s.vm) (hby : c.code = bs) (hsz : Ls.size = c.maxLocals) (hown : s.vm.findClass "com/example/hermod/hermod/xrap/ContentBody" = some m.cls) (hd : decode bs pc = .ok (.invokespecial 18, 3)) (hp : pc + 3 = pc') (eT : T.heap = h) (hW : (rest.map fun v => v.category).sum ≤ W)
    (hM : MetFree l (⟨"com/example/hermod/hermod/xrap/ContentBody", "<init>", "([B)V"⟩ : MethodName) (head1 [(Cond.code (⟨"com/example/hermod/hermod/xrap/ContentBody", "<init>", "([B)V"⟩ : MethodName) prog_10_method_1_code 2 none)] rm) (fun aa U => aa = #[.ref b, x0] ∧ Z.Warmed39 U.vm ∧ U.heap = h) (fun _ _ _ _ _ => True) (fun _ U o U' => ∃ v L, o = .returned v ∧ Q v U'.heap L ∧ FrameEnd U o U' L rm.cells rm.slots)) (hf : rm.frames + 1 ≤ R.frames) (hl : W + (2 + 11) + rm.locals ≤ R.locals) (hc : cells + rm.cells ≤ R.cells) (hs : slots + rm.slots ≤ R.slots)
    (k : ∀ v T' L', Stand p l e R s m args below meth c T' (locs ++ L') (cells + rm.cells) (slots + rm.slots) → Q v T'.heap L' → own_End p e below F (T'.setTop (mkF m pc' Ls (v.toList ++ rest)))) : own_End p e below F (T.setTop (mkF m pc Ls (x0 :: .ref b :: rest))) := by
  subst hp
  obtain ⟨v, _, ⟨T', L0, k0, n0⟩, -, X', ⟨L', hQ, e1, e2, e3⟩, stp⟩ := X.specialBack hx (y := (⟨"com/example/hermod/hermod/xrap/ContentBody", "<init>", "([B)V"⟩ : MethodName)) rfl hown (mvT hZ (wd_16 hw)) (mvT hZ (wd_17 hw)) (mvT hZ (wd_18 hw)) (by decide) (backOf (W := W) hM hZ (wd_18 hw) (wd_3 hw) hf hl) (g := mkF m pc Ls (x0 :: .ref b :: rest)) rfl hsz (Steps.refl _) (a := b) (argsL := [x0]) (rest := rest) (lenOf own_pd1 rfl) rfl (by show 2 * 0 + _ ≤ _; omega) (hb hby hd) (fun _ _ => ⟨rfl, eT, hc, hs⟩)
  dsimp only [Pt.U, Pt.locs, Pt.cells, Pt.slots] at X' e1 e2 e3 stp hQ
  subst e1 e2 e3
  exact own_trans stp (k v T' L' X' hQ)
set_option maxRecDepth 65536 in
theorem own_lk1 {p : Program} {l : Launch} {e : Env} {R : Room} {s : State} {m : MethodId} {args : Array Value} {below : List Frame} {meth : Method} {c : Code} {T : State} {locs : List Loc} {cells slots : Nat} {F : Option Value → State → Prop} {bs : ByteArray} {pc pc' : Nat} {Ls : Array Slot} {Z : State} {a0 : Array Value} {h : Heap} {x0 : Value} {rest : List Value} {W : Nat} {rm : Room} {Q : Option Value → Heap → List Loc → Prop} (hw : ∀ d ∈ tables_1, d.before a0 Z = true) (X : Stand p l e R s m args below meth c T locs cells slots) (hx : p.tables.exec = Jvm.exec) (hZ : Z.Warmed39 s.vm) (hby : c.code = bs) (hsz : Ls.size = c.maxLocals) (hown : s.vm.findClass "com/example/hermod/hermod/xrap/ContentBodyOfPinLaw" = some m.cls) (hd : decode bs pc = .ok (.invokestatic 7, 3)) (hp : pc + 3 = pc') (eT : T.heap = h) (hW : (rest.map fun v => v.category).sum ≤ W)
    (hM : MetFree l (⟨"com/example/hermod/hermod/xrap/ContentBody", "of", "([B)Lcom/example/hermod/hermod/xrap/ContentBody;"⟩ : MethodName) (head1 [(Cond.code (⟨"com/example/hermod/hermod/xrap/ContentBody", "of", "([B)Lcom/example/hermod/hermod/xrap/ContentBody;"⟩ : MethodName) prog_10_method_2_code 1 (some (.object "com/example/hermod/hermod/xrap/ContentBody")))] rm) (fun aa U => aa = #[x0] ∧ Z.Warmed39 U.vm ∧ U.heap = h) (fun _ _ _ _ _ => True) (fun _ U o U' => ∃ v L, o = .returned v ∧ Q v U'.heap L ∧ FrameEnd U o U' L rm.cells rm.slots)) (hf : rm.frames + 1 ≤ R.frames) (hl : W + (1 + 11) + rm.locals ≤ R.locals) (hc : cells + rm.cells ≤ R.cells) (hs : slots + rm.slots ≤ R.slots)
    (k : ∀ v T' L', Stand p l e R s m args below meth c T' (locs ++ L') (cells + rm.cells) (slots + rm.slots) → Q v T'.heap L' → own_End p e below F (T'.setTop (mkF m pc' Ls (v.toList ++ rest)))) : own_End p e below F (T.setTop (mkF m pc Ls (x0 :: rest))) := by
  subst hp
  obtain ⟨v, _, ⟨T', L0, k0, n0⟩, -, X', ⟨L', hQ, e1, e2, e3⟩, stp⟩ := Jvm.LawKit.callS X hx (y := (⟨"com/example/hermod/hermod/xrap/ContentBody", "of", "([B)Lcom/example/hermod/hermod/xrap/ContentBody;"⟩ : MethodName)) hown (mvT hZ (wd_1 hw)) (mvT hZ (wd_2 hw)) (mvT hZ (wd_3 hw)) (mvT hZ (wd_4 hw)) (by decide) (backOf (W := W) hM hZ (wd_4 hw) (wd_3 hw) hf hl) (g := mkF m pc Ls (x0 :: rest)) rfl hsz (argsL := [x0]) (rest := rest) (lenOf own_pd2 rfl) rfl (by show 2 * 0 + _ ≤ _; omega) (hb hby hd) (fun _ _ => ⟨rfl, eT, hc, hs⟩)
  dsimp only [Pt.U, Pt.locs, Pt.cells, Pt.slots] at X' e1 e2 e3 stp hQ
  subst e1 e2 e3
  exact own_step stp (k v T' L' X' hQ)
set_option maxRecDepth 65536 in
theorem own_lk2 {p : Program} {l : Launch} {e : Env} {R : Room} {s : State} {m : MethodId} {args : Array Value} {below : List Frame} {meth : Method} {c : Code} {T : State} {locs : List Loc} {cells slots : Nat} {F : Option Value → State → Prop} {bs : ByteArray} {pc pc' : Nat} {Ls : Array Slot} {Z : State} {a0 : Array Value} {h : Heap} {b : Addr} {rest : List Value} {W : Nat} {rm : Room} {Q : Option Value → Heap → List Loc → Prop} (hw : ∀ d ∈ tables_1, d.before a0 Z = true) (X : Stand p l e R s m args below meth c T locs cells slots) (hx : p.tables.exec = Jvm.exec) (hZ : Z.Warmed39 s.vm) (hby : c.code = bs) (hsz : Ls.size = c.maxLocals) (hown : s.vm.findClass "com/example/hermod/hermod/xrap/ContentBodyOfPinLaw" = some m.cls) (hd : decode bs pc = .ok (.invokevirtual 13, 3)) (hp : pc + 3 = pc') (eT : T.heap = h) (E : Exa Z h b "com/example/hermod/hermod/xrap/ContentBody") (hW : (rest.map fun v => v.category).sum ≤ W)
    (hM : MetFree l (⟨"com/example/hermod/hermod/xrap/ContentBody", "length", "()I"⟩ : MethodName) (head1 [(Cond.code (⟨"com/example/hermod/hermod/xrap/ContentBody", "length", "()I"⟩ : MethodName) prog_10_method_4_code 1 (some .int))] rm) (fun aa U => aa = #[.ref b] ∧ Z.Warmed39 U.vm ∧ U.heap = h) (fun _ _ _ _ _ => True) (fun _ U o U' => ∃ v L, o = .returned v ∧ Q v U'.heap L ∧ FrameEnd U o U' L rm.cells rm.slots)) (hf : rm.frames + 1 ≤ R.frames) (hl : W + (1 + 11) + rm.locals ≤ R.locals) (hc : cells + rm.cells ≤ R.cells) (hs : slots + rm.slots ≤ R.slots)
    (k : ∀ v T' L', Stand p l e R s m args below meth c T' (locs ++ L') (cells + rm.cells) (slots + rm.slots) → Q v T'.heap L' → own_End p e below F (T'.setTop (mkF m pc' Ls (v.toList ++ rest)))) : own_End p e below F (T.setTop (mkF m pc Ls (.ref b :: rest))) := by
  subst hp
  obtain ⟨cq, kq, q1, q2, q3⟩ := isOf hZ eT E
  obtain ⟨v, _, ⟨T', L0, k0, n0⟩, -, X', ⟨L', hQ, e1, e2, e3⟩, stp⟩ := X.virtualBack hx (y := (⟨"com/example/hermod/hermod/xrap/ContentBody", "length", "()I"⟩ : MethodName)) (z := (⟨"com/example/hermod/hermod/xrap/ContentBody", "length", "()I"⟩ : MethodName)) hown (mvT hZ (wd_24 hw)) (mvT hZ (wd_25 hw)) (notFace_of_selects (args := #[]) (mvT hZ (wd_27 hw))) (mvT hZ (wd_27 hw)) (mvT hZ (wd_26 hw)) (by decide) (backOf (W := W) hM hZ (wd_28 hw) (wd_3 hw) hf hl) q1 q3 (g := mkF m pc Ls (.ref b :: rest)) rfl hsz (Steps.refl _) (argsL := []) (rest := rest) (lenOf own_pd3 rfl) rfl (by show 2 * 0 + _ ≤ _; omega) (hb hby hd) (fun _ _ => ⟨rfl, eT, hc, hs⟩)
  dsimp only [Pt.U, Pt.locs, Pt.cells, Pt.slots] at X' e1 e2 e3 stp hQ
  subst e1 e2 e3
  exact own_trans stp (k v T' L' X' hQ)
set_option maxRecDepth 65536 in
theorem own_lk3 {p : Program} {l : Launch} {e : Env} {R : Room} {s : State} {m : MethodId} {args : Array Value} {below : List Frame} {meth : Method} {c : Code} {T : State} {locs : List Loc} {cells slots : Nat} {F : Option Value → State → Prop} {bs : ByteArray} {pc pc' : Nat} {Ls : Array Slot} {Z : State} {a0 : Array Value} {h : Heap} {b : Addr} {rest : List Value} {W : Nat} {rm : Room} {Q : Option Value → Heap → List Loc → Prop} (hw : ∀ d ∈ tables_1, d.before a0 Z = true) (X : Stand p l e R s m args below meth c T locs cells slots) (hx : p.tables.exec = Jvm.exec) (hZ : Z.Warmed39 s.vm) (hby : c.code = bs) (hsz : Ls.size = c.maxLocals) (hown : s.vm.findClass "com/example/hermod/hermod/xrap/ContentBodyOfPinLaw" = some m.cls) (hd : decode bs pc = .ok (.invokevirtual 17, 3)) (hp : pc + 3 = pc') (eT : T.heap = h) (E : Exa Z h b "com/example/hermod/hermod/xrap/ContentBody") (hW : (rest.map fun v => v.category).sum ≤ W)
    (hM : MetFree l (⟨"com/example/hermod/hermod/xrap/ContentBody", "octets", "()[B"⟩ : MethodName) (head1 [(Cond.code (⟨"com/example/hermod/hermod/xrap/ContentBody", "octets", "()[B"⟩ : MethodName) prog_10_method_7_code 1 (some (.array .byte)))] rm) (fun aa U => aa = #[.ref b] ∧ Z.Warmed39 U.vm ∧ U.heap = h) (fun _ _ _ _ _ => True) (fun _ U o U' => ∃ v L, o = .returned v ∧ Q v U'.heap L ∧ FrameEnd U o U' L rm.cells rm.slots)) (hf : rm.frames + 1 ≤ R.frames) (hl : W + (1 + 11) + rm.locals ≤ R.locals) (hc : cells + rm.cells ≤ R.cells) (hs : slots + rm.slots ≤ R.slots)
    (k : ∀ v T' L', Stand p l e R s m args below meth c T' (locs ++ L') (cells + rm.cells) (slots + rm.slots) → Q v T'.heap L' → own_End p e below F (T'.setTop (mkF m pc' Ls (v.toList ++ rest)))) : own_End p e below F (T.setTop (mkF m pc Ls (.ref b :: rest))) := by
  subst hp
  obtain ⟨cq, kq, q1, q2, q3⟩ := isOf hZ eT E
  obtain ⟨v, _, ⟨T', L0, k0, n0⟩, -, X', ⟨L', hQ, e1, e2, e3⟩, stp⟩ := X.virtualBack hx (y := (⟨"com/example/hermod/hermod/xrap/ContentBody", "octets", "()[B"⟩ : MethodName)) (z := (⟨"com/example/hermod/hermod/xrap/ContentBody", "octets", "()[B"⟩ : MethodName)) hown (mvT hZ (wd_29 hw)) (mvT hZ (wd_30 hw)) (notFace_of_selects (args := #[]) (mvT hZ (wd_32 hw))) (mvT hZ (wd_32 hw)) (mvT hZ (wd_31 hw)) (by decide) (backOf (W := W) hM hZ (wd_33 hw) (wd_3 hw) hf hl) q1 q3 (g := mkF m pc Ls (.ref b :: rest)) rfl hsz (Steps.refl _) (argsL := []) (rest := rest) (lenOf own_pd4 rfl) rfl (by show 2 * 0 + _ ≤ _; omega) (hb hby hd) (fun _ _ => ⟨rfl, eT, hc, hs⟩)
  dsimp only [Pt.U, Pt.locs, Pt.cells, Pt.slots] at X' e1 e2 e3 stp hQ
  subst e1 e2 e3
  exact own_trans stp (k v T' L' X' hQ)

def own_CB (Z : State) (h : Heap) (a : Addr) (v0 : Value) : Prop := Exa Z h a "com/example/hermod/hermod/xrap/ContentBody" ∧ Fld Z h a "com/example/hermod/hermod/xrap/ContentBody" "octets" "[B" v0
theorem own_CB.ext {Z : State} {h h' : Heap} {a : Addr} {v0 : Value} (O : own_CB Z h a v0) (X : Ext h h') : own_CB Z h' a v0 := by
  obtain ⟨E, F0⟩ := O
  exact ⟨E.ext X, F0.ext X⟩
theorem own_CB.keep {Z : State} {h h' : Heap} {a : Addr} {v0 : Value} (O : own_CB Z h a v0) {ws : List Addr} (K : Keep h h' ws) (q : a ∉ ws) : own_CB Z h' a v0 := by
  obtain ⟨E, F0⟩ := O
  exact ⟨E.keep K, F0.keep K q⟩
theorem own_CB.other {Z : State} {h h' : Heap} {a : Addr} {v0 : Value} (O : own_CB Z h a v0) {b : Addr} {sl : Nat} {v : Value} (W : Wr h h' b sl v) (q : a ≠ b) : own_CB Z h' a v0 := by
  obtain ⟨E, F0⟩ := O
  exact ⟨E.wr W, F0.other W (Or.inl q)⟩
theorem own_CB.lt {Z : State} {h : Heap} {a : Addr} {v0 : Value} (O : own_CB Z h a v0) : a < h.size := by
  obtain ⟨E, F0⟩ := O
  exact E.lt
theorem own_b8 (x : Int32) : x.toInt8.toInt32.toInt8.toInt32 = x.toInt8.toInt32 := by simp
theorem own_and3 (x : Int32) : x &&& 3 = 0 ∨ x &&& 3 = 1 ∨ x &&& 3 = 2 ∨ x &&& 3 = 3 := by
  have h := c_mask x 3 2 (by decide) (by decide)
  have e : ∀ k : Int32, (x &&& 3).toInt = k.toInt → x &&& 3 = k := fun k q => Int32.toInt_inj.mp q
  have h0 : (0 : Int32).toInt = 0 := rfl
  have h1 : (1 : Int32).toInt = 1 := rfl
  have h2 : (2 : Int32).toInt = 2 := rfl
  have h3 : (3 : Int32).toInt = 3 := rfl
  have : (x &&& 3).toInt = 0 ∨ (x &&& 3).toInt = 1 ∨ (x &&& 3).toInt = 2 ∨ (x &&& 3).toInt = 3 := by omega
  rcases this with q | q | q | q
  · exact Or.inl (e 0 q)
  · exact Or.inr (Or.inl (e 1 q))
  · exact Or.inr (Or.inr (Or.inl (e 2 q)))
  · exact Or.inr (Or.inr (Or.inr (e 3 q)))
theorem own_ef_rm2 (m : MethodId) (a : Addr) (w : Addr)  : entryFrame m #[(.ref a), (.ref w)] 2 = mkF m 0 #[.val (.ref a), .val (.ref w)] [] := by first | (simp [entryFrame, mkF, argsToLocals, Value.category]; done) | rfl
def Q2 (Z : State) (a : Addr) (w : Addr) (h0 : Heap) (n0 : Nat) (v : Option Value) (h : Heap) (L : List Loc) : Prop := v = none ∧ Fr n0 L ∧ Keep h0 h [a] ∧ own_CB Z h a (.ref w)
set_option maxRecDepth 65536 in
set_option maxHeartbeats 40000000 in
theorem rm2 (l : Launch) (Z : State) (a0 : Array Value) (hw : ∀ d ∈ tables_1, d.before a0 Z = true) (ws : List Jvm.Cond) (a : Addr) (w : Addr) (h0 : Heap) (n0 : Nat) (Z0 : n0 ≤ h0.size) (f_O_a : own_CB Z h0 a .null) (ge_a : n0 ≤ a) :
    MetFree l (⟨"com/example/hermod/hermod/xrap/ContentBody", "<init>", "([B)V"⟩ : MethodName) (head1 (Jvm.Cond.code (⟨"com/example/hermod/hermod/xrap/ContentBody", "<init>", "([B)V"⟩ : MethodName) prog_10_method_1_code 2 none :: ws) ({ frames := 1, cells := 0, slots := 0, locals := 12 } : Room)) (fun aa U => aa = #[(.ref a), (.ref w)] ∧ Z.Warmed39 U.vm ∧ U.heap = h0) (fun _ _ _ _ _ => True) (fun _ U oc U' => ∃ v L, oc = .returned v ∧ Q2 Z a w h0 n0 v U'.heap L ∧ FrameEnd U oc U' L ({ frames := 1, cells := 0, slots := 0, locals := 12 } : Room).cells ({ frames := 1, cells := 0, slots := 0, locals := 12 } : Room).slots) := by
  refine MetFree.of_bodySF (plainFor_of_name own_pn0) hisR ?_
  intro p e s m args below meth c s₁ Bd hml0 hP hK
  obtain ⟨rfl, hZ, hh⟩ := hP
  have hx := Bd.exec
  have hby := Bd.bytes
  have hlk := Bd.notSynchronized
  have hret := Bd.returns
  have hml : c.maxLocals = 2 := hml0
  have hown : s.vm.findClass "com/example/hermod/hermod/xrap/ContentBody" = some m.cls := findClass_of_methodNamed Bd.named
  have hnm := (name_of_methodNamed Bd.named Bd.method).1
  have X0 : Stand p l e ({ frames := 1, cells := 0, slots := 0, locals := 12 } : Room) s m #[(.ref a), (.ref w)] below meth c s₁ [] 0 0 := Stand.of_body Bd
  have e0 : s₁.heap = h0 := by rw [← hh, Bd.state]; rfl
  have N0 := Fr.nil n0
  refine own_body (Q := Q2 Z a w h0 n0) (KC := ({ frames := 1, cells := 0, slots := 0, locals := 12 } : Room).cells) (KS := ({ frames := 1, cells := 0, slots := 0, locals := 12 } : Room).slots) ?_
  rw [own_ef_rm2 m a w]
  have Kp : Keep h0 h0 [a] := Keep.refl h0 _
  refine own_aloadN X0 hx hby d2_0 (pc' := 1) rfl rfl rfl ?_
  refine own_init X0 hx hZ hby hown (wd_19 hw) (wd_20 hw) (wd_21 hw) e0 (by rw [hml]; rfl) d2_1 (pc' := 4) rfl (by decide) (W := 0) (Nat.le_of_eq rfl) (by decide) (fun T1 X1 e1 => ?_)
  refine own_aloadN X1 hx hby d2_4 (pc' := 5) rfl rfl rfl ?_
  refine own_aloadN X1 hx hby d2_5 (pc' := 6) rfl rfl rfl ?_
  obtain ⟨f_E_a, f_F_a_octets⟩ := f_O_a
  refine own_putF X1 hx hZ hby hown (host := "") (Or.inl (wd_22 hw)) Via.refl e1 f_F_a_octets f_E_a (Or.inr ⟨(wd_23 hw), rfl, hnm⟩) (wd_6 hw) (ty := (.array .byte)) (by decide) rfl rfl d2_6 (pc' := 9) rfl (fun T2 h2 X2 e2 W2 => ?_)
  have f_F_a_octets := f_F_a_octets.same W2
  have f_E_a := f_E_a.wr W2
  have Zn := Nat.le_trans Z0 (Keep.of_wr W2).1
  have Kp := Kp.wr W2 (Or.inl (List.mem_of_getElem? (i := 0) rfl))
  have N2 := Fr.snoc X2 N0 ge_a
  refine own_return X2 hx hlk hby hret d2_9 (own_lv ?_ (by decide) (by decide))
  show Q2 Z a w  h0 n0 none T2.heap _
  rw [e2]
  exact ⟨rfl, N2, Kp, ⟨f_E_a, f_F_a_octets⟩⟩
theorem own_ef_rm1 (m : MethodId) (b : Addr)  : entryFrame m #[(.ref b)] 1 = mkF m 0 #[.val (.ref b)] [] := by first | (simp [entryFrame, mkF, argsToLocals, Value.category]; done) | rfl
def Q1 (Z : State) (b : Addr) (k : ClassId) (n : Int32) (vs : List Value) (h0 : Heap) (n0 : Nat) (v : Option Value) (h : Heap) (L : List Loc) : Prop := ∃ a w : Addr, v = some (.ref a) ∧ Fr n0 L ∧ Keep h0 h [] ∧ h0.size ≤ a ∧ h0.size ≤ w ∧ a ≠ w ∧ own_CB Z h a (.ref w) ∧ Arv Z h w k .byte n vs (.int (0 : Int32))
set_option maxRecDepth 65536 in
set_option maxHeartbeats 40000000 in
theorem rm1 (l : Launch) (Z : State) (a0 : Array Value) (hw : ∀ d ∈ tables_1, d.before a0 Z = true) (ws : List Jvm.Cond) (b : Addr) (k : ClassId) (n : Int32) (vs : List Value) (h0 : Heap) (n0 : Nat) (Z0 : n0 ≤ h0.size) (f_V_b : Arv Z h0 b k .byte n vs (.int (0 : Int32))) (f_E_b : Exa Z h0 b "[B") (hn : n.toNatClampNeg ≤ 3) :
    MetFree l (⟨"com/example/hermod/hermod/xrap/ContentBody", "of", "([B)Lcom/example/hermod/hermod/xrap/ContentBody;"⟩ : MethodName) (head1 (Jvm.Cond.code (⟨"com/example/hermod/hermod/xrap/ContentBody", "of", "([B)Lcom/example/hermod/hermod/xrap/ContentBody;"⟩ : MethodName) prog_10_method_2_code 1 (some (.object "com/example/hermod/hermod/xrap/ContentBody")) :: ws) ({ frames := 2, cells := 2, slots := 4, locals := 26 } : Room)) (fun aa U => aa = #[(.ref b)] ∧ Z.Warmed39 U.vm ∧ U.heap = h0) (fun _ _ _ _ _ => True) (fun _ U oc U' => ∃ v L, oc = .returned v ∧ Q1 Z b k n vs h0 n0 v U'.heap L ∧ FrameEnd U oc U' L ({ frames := 2, cells := 2, slots := 4, locals := 26 } : Room).cells ({ frames := 2, cells := 2, slots := 4, locals := 26 } : Room).slots) := by
  refine MetFree.of_bodySF (plainFor_of_name own_pn0) hisR ?_
  intro p e s m args below meth c s₁ Bd hml0 hP hK
  obtain ⟨rfl, hZ, hh⟩ := hP
  have hx := Bd.exec
  have hby := Bd.bytes
  have hlk := Bd.notSynchronized
  have hret := Bd.returns
  have hml : c.maxLocals = 1 := hml0
  have hown : s.vm.findClass "com/example/hermod/hermod/xrap/ContentBody" = some m.cls := findClass_of_methodNamed Bd.named
  have hnm := (name_of_methodNamed Bd.named Bd.method).1
  have X0 : Stand p l e ({ frames := 2, cells := 2, slots := 4, locals := 26 } : Room) s m #[(.ref b)] below meth c s₁ [] 0 0 := Stand.of_body Bd
  have e0 : s₁.heap = h0 := by rw [← hh, Bd.state]; rfl
  have N0 := Fr.nil n0
  refine own_body (Q := Q1 Z b k n vs h0 n0) (KC := ({ frames := 2, cells := 2, slots := 4, locals := 26 } : Room).cells) (KS := ({ frames := 2, cells := 2, slots := 4, locals := 26 } : Room).slots) ?_
  rw [own_ef_rm1 m b]
  have Kp : Keep h0 h0 [] := Keep.refl h0 _
  refine own_new X0 hx hZ hby hown (wd_5 hw) (wd_6 hw) (wd_3 hw) e0 d1_0 (pc' := 3) rfl (by decide) (by decide) (fun T1 h1 b1 g1 X1 e1 E1 A1 D1 => ?_)
  have ne_b_b1 : b ≠ b1 := Nat.ne_of_lt (by rw [g1]; exact f_V_b.lt)
  have ge_b1 : n0 ≤ b1 := by rw [g1]; exact Z0
  have sz_b1 : h0.size ≤ b1 := by rw [g1]; exact Kp.1
  have f_V_b := f_V_b.ext E1
  have f_E_b := f_E_b.ext E1
  have Zn := Nat.le_trans Z0 E1.1
  have Kp := Kp.ext E1
  have f_O_b1 : own_CB Z h1 b1 .null := ⟨A1, D1 (Or.inr (wd_23 hw)) (ty := (.array .byte)) (by decide)⟩
  refine own_dup X1 hx hby d1_3 (pc' := 4) rfl rfl ?_
  refine own_aloadN X1 hx hby d1_4 (pc' := 5) rfl rfl rfl ?_
  obtain ⟨T2, h2, X2, e2, E2, A2, Ex2, st2⟩ := cloneH X1 hx hZ hown (wd_7 hw) (wd_8 hw) (wd_12 hw) (wd_10 hw) (wd_11 hw) (wd_13 hw) e1 f_V_b.arh f_E_b (g := (mkF m 5 #[.val (.ref b)] [(.ref b), (.ref b1), (.ref b1)])) rfl (by rw [hml]; rfl) rfl (hb hby d1_5) (by decide) (W := 2) (by show 2 * 0 + _ ≤ _; exact Nat.le_of_eq rfl) (by decide) (cap := 3) hn (by decide) (by decide)
  obtain ⟨b2, g2⟩ : ∃ z, z = h1.size := ⟨_, rfl⟩
  rw [← g2] at A2 Ex2 st2
  refine own_step st2 ?_
  have ne_b_b2 : b ≠ b2 := Nat.ne_of_lt (by rw [g2]; exact f_V_b.lt)
  have ne_b1_b2 : b1 ≠ b2 := Nat.ne_of_lt (by rw [g2]; exact f_O_b1.lt)
  have ge_b2 : n0 ≤ b2 := by rw [g2]; exact Zn
  have sz_b2 : h0.size ≤ b2 := by rw [g2]; exact Kp.1
  have f_V_b := f_V_b.ext E2
  have f_E_b := f_E_b.ext E2
  have f_O_b1 := f_O_b1.ext E2
  have Zn := Nat.le_trans Zn E2.1
  have Kp := Kp.ext E2
  have f_V_b2 : Arv Z h2 b2 k .byte n vs (.int (0 : Int32)) := A2
  show own_End p e below _ (T2.setTop (mkF m 8 #[.val (.ref b)] [(.ref b2), (.ref b1), (.ref b1)]))
  refine own_cast X2 hx hZ hby hown (wd_14 hw) e2 (Ins.self Ex2) d1_8 (pc' := 11) rfl (fun T3 X3 e3 => ?_)
  refine own_lk0 hw X3 hx hZ hby (by rw [hml]; rfl) hown d1_11 (pc' := 14) rfl e3 (W := 1) (Nat.le_of_eq rfl) (rm2 l Z a0 hw [] b1 b2 h2 n0 Zn f_O_b1 ge_b1) (by decide) (by decide) (by decide) (by decide) (fun v4 T4 L4 X4 hQ4 => ?_)
  obtain ⟨rfl, Nq4, K4, O4⟩ := hQ4
  have N4 := Fr.app N0 Nq4
  have f_V_b := f_V_b.keep K4 (ninS ne_b_b1 nin0)
  have f_E_b := f_E_b.keep K4
  have f_V_b2 := f_V_b2.keep K4 (ninS (Ne.symm ne_b1_b2) nin0)
  have Ex2 := Ex2.keep K4
  have Zn := Nat.le_trans Zn K4.1
  have Kp := Kp.trans K4 (allS (Or.inr sz_b1) all0)
  show own_End p e below _ (T4.setTop (mkF m 14 _ [(.ref b1)]))
  refine own_areturn X4 hx hlk hby hret rfl rfl d1_14 (own_lv ?_ (by decide) (by decide))
  show Q1 Z b k n vs  h0 n0 (some (.ref b1)) T4.heap _
  exact ⟨b1, b2, rfl, N4, Kp, sz_b1, sz_b2, ne_b1_b2, O4, f_V_b2⟩
theorem own_ef_rm4 (m : MethodId) (a : Addr)  : entryFrame m #[(.ref a)] 1 = mkF m 0 #[.val (.ref a)] [] := by first | (simp [entryFrame, mkF, argsToLocals, Value.category]; done) | rfl
def Q4 (Z : State) (a : Addr) (w : Addr) (k : ClassId) (n : Int32) (vs : List Value) (h0 : Heap) (n0 : Nat) (v : Option Value) (h : Heap) (L : List Loc) : Prop := v = some (.int n) ∧ Fr n0 L ∧ h = h0
set_option maxRecDepth 65536 in
set_option maxHeartbeats 40000000 in
theorem rm4 (l : Launch) (Z : State) (a0 : Array Value) (hw : ∀ d ∈ tables_1, d.before a0 Z = true) (ws : List Jvm.Cond) (a : Addr) (w : Addr) (k : ClassId) (n : Int32) (vs : List Value) (h0 : Heap) (n0 : Nat) (Z0 : n0 ≤ h0.size) (f_O_a : own_CB Z h0 a (.ref w)) (f_V_w : Arv Z h0 w k .byte n vs (.int (0 : Int32))) :
    MetFree l (⟨"com/example/hermod/hermod/xrap/ContentBody", "length", "()I"⟩ : MethodName) (head1 (Jvm.Cond.code (⟨"com/example/hermod/hermod/xrap/ContentBody", "length", "()I"⟩ : MethodName) prog_10_method_4_code 1 (some .int) :: ws) ({ frames := 0, cells := 0, slots := 0, locals := 0 } : Room)) (fun aa U => aa = #[(.ref a)] ∧ Z.Warmed39 U.vm ∧ U.heap = h0) (fun _ _ _ _ _ => True) (fun _ U oc U' => ∃ v L, oc = .returned v ∧ Q4 Z a w k n vs h0 n0 v U'.heap L ∧ FrameEnd U oc U' L ({ frames := 0, cells := 0, slots := 0, locals := 0 } : Room).cells ({ frames := 0, cells := 0, slots := 0, locals := 0 } : Room).slots) := by
  refine MetFree.of_bodySF (plainFor_of_name own_pn0) hisR ?_
  intro p e s m args below meth c s₁ Bd hml0 hP hK
  obtain ⟨rfl, hZ, hh⟩ := hP
  have hx := Bd.exec
  have hby := Bd.bytes
  have hlk := Bd.notSynchronized
  have hret := Bd.returns
  have hml : c.maxLocals = 1 := hml0
  have hown : s.vm.findClass "com/example/hermod/hermod/xrap/ContentBody" = some m.cls := findClass_of_methodNamed Bd.named
  have hnm := (name_of_methodNamed Bd.named Bd.method).1
  have X0 : Stand p l e ({ frames := 0, cells := 0, slots := 0, locals := 0 } : Room) s m #[(.ref a)] below meth c s₁ [] 0 0 := Stand.of_body Bd
  have e0 : s₁.heap = h0 := by rw [← hh, Bd.state]; rfl
  have N0 := Fr.nil n0
  refine own_body (Q := Q4 Z a w k n vs h0 n0) (KC := ({ frames := 0, cells := 0, slots := 0, locals := 0 } : Room).cells) (KS := ({ frames := 0, cells := 0, slots := 0, locals := 0 } : Room).slots) ?_
  rw [own_ef_rm4 m a]
  refine own_aloadN X0 hx hby d4_0 (pc' := 1) rfl rfl rfl ?_
  obtain ⟨f_E_a, f_F_a_octets⟩ := f_O_a
  refine own_getF X0 hx hZ hby hown (host := "") (Or.inl (wd_22 hw)) Via.refl e0 f_F_a_octets d4_1 (pc' := 4) rfl (fun T1 X1 e1 => ?_)
  obtain ⟨cl2, Ar2, q2, S2, M2, H2, G2⟩ := id f_V_w
  refine own_alen X1 hx hZ hby e1 Ar2 S2 M2 d4_4 (pc' := 5) rfl ?_
  refine own_ireturn X1 hx hlk hby hret d4_5 (own_lv ?_ (by decide) (by decide))
  show Q4 Z a w k n vs  h0 n0 (some (.int n)) T1.heap _
  rw [e1]
  exact ⟨rfl, N0, rfl⟩
theorem own_ef_rm5 (m : MethodId) (a : Addr)  : entryFrame m #[(.ref a)] 1 = mkF m 0 #[.val (.ref a)] [] := by first | (simp [entryFrame, mkF, argsToLocals, Value.category]; done) | rfl
def Q5 (Z : State) (a : Addr) (w : Addr) (h0 : Heap) (n0 : Nat) (v : Option Value) (h : Heap) (L : List Loc) : Prop := v = some (.ref w) ∧ Fr n0 L ∧ h = h0
set_option maxRecDepth 65536 in
set_option maxHeartbeats 40000000 in
theorem rm5 (l : Launch) (Z : State) (a0 : Array Value) (hw : ∀ d ∈ tables_1, d.before a0 Z = true) (ws : List Jvm.Cond) (a : Addr) (w : Addr) (h0 : Heap) (n0 : Nat) (Z0 : n0 ≤ h0.size) (f_O_a : own_CB Z h0 a (.ref w)) :
    MetFree l (⟨"com/example/hermod/hermod/xrap/ContentBody", "octets", "()[B"⟩ : MethodName) (head1 (Jvm.Cond.code (⟨"com/example/hermod/hermod/xrap/ContentBody", "octets", "()[B"⟩ : MethodName) prog_10_method_7_code 1 (some (.array .byte)) :: ws) ({ frames := 0, cells := 0, slots := 0, locals := 0 } : Room)) (fun aa U => aa = #[(.ref a)] ∧ Z.Warmed39 U.vm ∧ U.heap = h0) (fun _ _ _ _ _ => True) (fun _ U oc U' => ∃ v L, oc = .returned v ∧ Q5 Z a w h0 n0 v U'.heap L ∧ FrameEnd U oc U' L ({ frames := 0, cells := 0, slots := 0, locals := 0 } : Room).cells ({ frames := 0, cells := 0, slots := 0, locals := 0 } : Room).slots) := by
  refine MetFree.of_bodySF (plainFor_of_name own_pn0) hisR ?_
  intro p e s m args below meth c s₁ Bd hml0 hP hK
  obtain ⟨rfl, hZ, hh⟩ := hP
  have hx := Bd.exec
  have hby := Bd.bytes
  have hlk := Bd.notSynchronized
  have hret := Bd.returns
  have hml : c.maxLocals = 1 := hml0
  have hown : s.vm.findClass "com/example/hermod/hermod/xrap/ContentBody" = some m.cls := findClass_of_methodNamed Bd.named
  have hnm := (name_of_methodNamed Bd.named Bd.method).1
  have X0 : Stand p l e ({ frames := 0, cells := 0, slots := 0, locals := 0 } : Room) s m #[(.ref a)] below meth c s₁ [] 0 0 := Stand.of_body Bd
  have e0 : s₁.heap = h0 := by rw [← hh, Bd.state]; rfl
  have N0 := Fr.nil n0
  refine own_body (Q := Q5 Z a w h0 n0) (KC := ({ frames := 0, cells := 0, slots := 0, locals := 0 } : Room).cells) (KS := ({ frames := 0, cells := 0, slots := 0, locals := 0 } : Room).slots) ?_
  rw [own_ef_rm5 m a]
  refine own_aloadN X0 hx hby d5_0 (pc' := 1) rfl rfl rfl ?_
  obtain ⟨f_E_a, f_F_a_octets⟩ := f_O_a
  refine own_getF X0 hx hZ hby hown (host := "") (Or.inl (wd_22 hw)) Via.refl e0 f_F_a_octets d5_1 (pc' := 4) rfl (fun T1 X1 e1 => ?_)
  refine own_areturn X1 hx hlk hby hret rfl rfl d5_4 (own_lv ?_ (by decide) (by decide))
  show Q5 Z a w  h0 n0 (some (.ref w)) T1.heap _
  rw [e1]
  exact ⟨rfl, N0, rfl⟩
theorem own_ef_rm0 (m : MethodId) (p0 : Int32) (p1 : Int32) (p2 : Int32) (p3 : Int32)  : entryFrame m #[(.int p0), (.int p1), (.int p2), (.int p3)] maxLocals = mkF m 0 #[.val (.int p0), .val (.int p1), .val (.int p2), .val (.int p3), .unset, .unset, .unset, .unset, .unset, .unset, .unset] [] := by first | (simp [entryFrame, mkF, argsToLocals, Value.category, maxLocals]; done) | rfl
def Q0 (Z : State) (p0 : Int32) (p1 : Int32) (p2 : Int32) (p3 : Int32) (h0 : Heap) (n0 : Nat) (v : Option Value) (h : Heap) (L : List Loc) : Prop := v = some (.int 1) ∧ Fr n0 L
set_option maxRecDepth 65536 in
set_option maxHeartbeats 40000000 in
theorem rm0 (l : Launch) (Z : State) (a0 : Array Value) (hw : ∀ d ∈ tables_1, d.before a0 Z = true) (ws : List Jvm.Cond) (p0 : Int32) (p1 : Int32) (p2 : Int32) (p3 : Int32) (h0 : Heap) (n0 : Nat) (Z0 : n0 ≤ h0.size)  :
    MetFree l x (head1 (Jvm.Cond.code x code maxLocals ret :: ws) room_1) (fun aa U => aa = #[(.int p0), (.int p1), (.int p2), (.int p3)] ∧ Z.Warmed39 U.vm ∧ U.heap = h0) (fun _ _ _ _ _ => True) (fun _ U oc U' => ∃ v L, oc = .returned v ∧ Q0 Z p0 p1 p2 p3 h0 n0 v U'.heap L ∧ FrameEnd U oc U' L room_1.cells room_1.slots) := by
  refine MetFree.of_bodySF (plainFor_of_name own_pn5) hisR ?_
  intro p e s m args below meth c s₁ Bd hml0 hP hK
  obtain ⟨rfl, hZ, hh⟩ := hP
  have hx := Bd.exec
  have hby := Bd.bytes
  have hlk := Bd.notSynchronized
  have hret := Bd.returns
  have hml : c.maxLocals = 11 := hml0
  have hown : s.vm.findClass "com/example/hermod/hermod/xrap/ContentBodyOfPinLaw" = some m.cls := findClass_of_methodNamed Bd.named
  have hnm := (name_of_methodNamed Bd.named Bd.method).1
  have X0 : Stand p l e room_1 s m #[(.int p0), (.int p1), (.int p2), (.int p3)] below meth c s₁ [] 0 0 := Stand.of_body Bd
  have e0 : s₁.heap = h0 := by rw [← hh, Bd.state]; rfl
  have N0 := Fr.nil n0
  refine own_body (Q := Q0 Z p0 p1 p2 p3 h0 n0) (KC := room_1.cells) (KS := room_1.slots) ?_
  rw [own_ef_rm0 m p0 p1 p2 p3]
  refine own_iloadN X0 hx hby at_0 (pc' := 1) rfl rfl ?_
  refine own_iconst X0 hx hby at_1 (pc' := 2) rfl (n := (3 : Int32)) (by decide) ?_
  refine own_iand X0 hx hby at_2 (pc' := 3) rfl ?_
  rcases own_and3 p0 with hs1 | hs1 | hs1 | hs1
  · rw [hs1]
    show own_End p e below _ (s₁.setTop (mkF m 3 #[.val (.int p0), .val (.int p1), .val (.int p2), .val (.int p3), .unset, .unset, .unset, .unset, .unset, .unset, .unset] [(.int (0 : Int32))]))
    refine own_istore X0 hx hby at_3 (pc' := 5) rfl (l' := #[.val (.int p0), .val (.int p1), .val (.int p2), .val (.int p3), .val (.int (0 : Int32)), .unset, .unset, .unset, .unset, .unset, .unset]) rfl ?_
    refine own_iloadN X0 hx hby at_5 (pc' := 6) rfl rfl ?_
    refine own_i2b X0 hx hby at_6 (pc' := 7) rfl ?_
    refine own_istore X0 hx hby at_7 (pc' := 9) rfl (l' := #[.val (.int p0), .val (.int p1), .val (.int p2), .val (.int p3), .val (.int (0 : Int32)), .val (.int (p1.toInt8.toInt32)), .unset, .unset, .unset, .unset, .unset]) rfl ?_
    refine own_iloadN X0 hx hby at_9 (pc' := 10) rfl rfl ?_
    refine own_i2b X0 hx hby at_10 (pc' := 11) rfl ?_
    refine own_istore X0 hx hby at_11 (pc' := 13) rfl (l' := #[.val (.int p0), .val (.int p1), .val (.int p2), .val (.int p3), .val (.int (0 : Int32)), .val (.int (p1.toInt8.toInt32)), .val (.int (p2.toInt8.toInt32)), .unset, .unset, .unset, .unset]) rfl ?_
    refine own_iloadN X0 hx hby at_13 (pc' := 14) rfl rfl ?_
    refine own_i2b X0 hx hby at_14 (pc' := 15) rfl ?_
    refine own_istore X0 hx hby at_15 (pc' := 17) rfl (l' := #[.val (.int p0), .val (.int p1), .val (.int p2), .val (.int p3), .val (.int (0 : Int32)), .val (.int (p1.toInt8.toInt32)), .val (.int (p2.toInt8.toInt32)), .val (.int (p3.toInt8.toInt32)), .unset, .unset, .unset]) rfl ?_
    refine own_iload X0 hx hby at_17 (pc' := 19) rfl rfl ?_
    refine own_newPE (aty := .byte) X0 hx hZ hby (ad := "[B") (by decide) (wd_0 hw) e0 at_19 (pc' := 21) rfl (by decide) (cap := 0) (by decide) (by decide) (by decide) (by decide) (fun T2 h2 k2 b2 g2 X2 e2 E2 A2 Ex2 => ?_)
    have ge_b2 : n0 ≤ b2 := by rw [g2]; exact Z0
    have Zn := Nat.le_trans Z0 E2.1
    have f_V_b2 : Arv Z h2 b2 k2 .byte (0 : Int32) [] (.int (0 : Int32)) := Arv.new A2 (by decide)
    refine own_astore X2 hx hby at_21 (pc' := 23) rfl rfl (l' := #[.val (.int p0), .val (.int p1), .val (.int p2), .val (.int p3), .val (.int (0 : Int32)), .val (.int (p1.toInt8.toInt32)), .val (.int (p2.toInt8.toInt32)), .val (.int (p3.toInt8.toInt32)), .val (.ref b2), .unset, .unset]) rfl ?_
    refine own_iload X2 hx hby at_23 (pc' := 25) rfl rfl ?_
    refine own_ifY X2 hx hby at_25 (pc' := 34) (by decide) (by decide) (show ¬ (0 : Int32) < (0 : Int32) by decide) ?_
    refine own_iload X2 hx hby at_34 (pc' := 36) rfl rfl ?_
    refine own_iconst X2 hx hby at_36 (pc' := 37) rfl (n := (1 : Int32)) (by decide) ?_
    refine own_icY X2 hx hby at_37 (pc' := 46) (by decide) (by decide) (show ¬ (1 : Int32) < (0 : Int32) by decide) ?_
    refine own_iload X2 hx hby at_46 (pc' := 48) rfl rfl ?_
    refine own_iconst X2 hx hby at_48 (pc' := 49) rfl (n := (2 : Int32)) (by decide) ?_
    refine own_icY X2 hx hby at_49 (pc' := 58) (by decide) (by decide) (show ¬ (2 : Int32) < (0 : Int32) by decide) ?_
    refine own_aload X2 hx hby at_58 (pc' := 60) rfl rfl rfl ?_
    have lt_b2 := Ex2.lt
    have Zold := Zn
    refine own_lk1 hw X2 hx hZ hby (by rw [hml]; rfl) hown at_60 (pc' := 63) rfl e2 (W := 0) (Nat.le_of_eq rfl) (rm1 l Z a0 hw [] b2 k2 (0 : Int32) [] h2 n0 Zn f_V_b2 Ex2 (by decide)) (by decide) (by decide) (by decide) (by decide) (fun v4 T4 L4 X4 hQ4 => ?_)
    obtain ⟨oa3, ow3, rfl, Nq4, K4, ga4, gw4, naw4, O4, V4⟩ := hQ4
    have N4 := Fr.app N0 Nq4
    have Ex2 := Ex2.keep K4
    have f_V_b2 := f_V_b2.keep K4 nin0
    have Zn := Nat.le_trans Zn K4.1
    have ne_b2_oa3 : b2 ≠ oa3 := Nat.ne_of_lt (Nat.lt_of_lt_of_le lt_b2 ga4)
    have ne_b2_ow3 : b2 ≠ ow3 := Nat.ne_of_lt (Nat.lt_of_lt_of_le lt_b2 gw4)
    have ge_oa3 : n0 ≤ oa3 := Nat.le_trans Zold ga4
    show own_End p e below _ (T4.setTop (mkF m 63 _ [(.ref oa3)]))
    refine own_astore X4 hx hby at_63 (pc' := 65) rfl rfl (l' := #[.val (.int p0), .val (.int p1), .val (.int p2), .val (.int p3), .val (.int (0 : Int32)), .val (.int (p1.toInt8.toInt32)), .val (.int (p2.toInt8.toInt32)), .val (.int (p3.toInt8.toInt32)), .val (.ref b2), .val (.ref oa3), .unset]) rfl ?_
    refine own_aload X4 hx hby at_65 (pc' := 67) rfl rfl rfl ?_
    obtain ⟨cl5, Ar5, q5, S5, M5, H5, G5⟩ := id f_V_b2
    refine own_alen X4 hx hZ hby rfl Ar5 S5 M5 at_67 (pc' := 68) rfl ?_
    refine own_iload X4 hx hby at_68 (pc' := 70) rfl rfl ?_
    refine own_icY X4 hx hby at_70 (pc' := 75) (by decide) (by decide) (show (0 : Int32) = (0 : Int32) by decide) ?_
    refine own_iload X4 hx hby at_75 (pc' := 77) rfl rfl ?_
    refine own_ifY X4 hx hby at_77 (pc' := 91) (by decide) (by decide) (show ¬ (0 : Int32) < (0 : Int32) by decide) ?_
    refine own_iload X4 hx hby at_91 (pc' := 93) rfl rfl ?_
    refine own_iconst X4 hx hby at_93 (pc' := 94) rfl (n := (1 : Int32)) (by decide) ?_
    refine own_icY X4 hx hby at_94 (pc' := 108) (by decide) (by decide) (show ¬ (1 : Int32) < (0 : Int32) by decide) ?_
    refine own_iload X4 hx hby at_108 (pc' := 110) rfl rfl ?_
    refine own_iconst X4 hx hby at_110 (pc' := 111) rfl (n := (2 : Int32)) (by decide) ?_
    refine own_icY X4 hx hby at_111 (pc' := 125) (by decide) (by decide) (show ¬ (2 : Int32) < (0 : Int32) by decide) ?_
    refine own_iload X4 hx hby at_125 (pc' := 127) rfl rfl ?_
    refine own_ifY X4 hx hby at_127 (pc' := 139) (by decide) (by decide) (show ¬ (0 : Int32) < (0 : Int32) by decide) ?_
    refine own_iload X4 hx hby at_139 (pc' := 141) rfl rfl ?_
    refine own_iconst X4 hx hby at_141 (pc' := 142) rfl (n := (1 : Int32)) (by decide) ?_
    refine own_icY X4 hx hby at_142 (pc' := 154) (by decide) (by decide) (show ¬ (1 : Int32) < (0 : Int32) by decide) ?_
    refine own_iload X4 hx hby at_154 (pc' := 156) rfl rfl ?_
    refine own_iconst X4 hx hby at_156 (pc' := 157) rfl (n := (2 : Int32)) (by decide) ?_
    refine own_icY X4 hx hby at_157 (pc' := 169) (by decide) (by decide) (show ¬ (2 : Int32) < (0 : Int32) by decide) ?_
    refine own_aload X4 hx hby at_169 (pc' := 171) rfl rfl rfl ?_
    refine own_lk2 hw X4 hx hZ hby (by rw [hml]; rfl) hown at_171 (pc' := 174) rfl rfl O4.1 (W := 0) (Nat.le_of_eq rfl) (rm4 l Z a0 hw [] oa3 ow3 k2 (0 : Int32) [] T4.heap n0 Zn O4 V4) (by decide) (by decide) (by decide) (by decide) (fun v6 T6 L6 X6 hQ6 => ?_)
    obtain ⟨rfl, Nq6, e6⟩ := hQ6
    have N6 := Fr.app N4 Nq6
    show own_End p e below _ (T6.setTop (mkF m 174 _ [(.int (0 : Int32))]))
    refine own_iload X6 hx hby at_174 (pc' := 176) rfl rfl ?_
    refine own_icY X6 hx hby at_176 (pc' := 181) (by decide) (by decide) (show (0 : Int32) = (0 : Int32) by decide) ?_
    refine own_aload X6 hx hby at_181 (pc' := 183) rfl rfl rfl ?_
    refine own_lk3 hw X6 hx hZ hby (by rw [hml]; rfl) hown at_183 (pc' := 186) rfl e6 O4.1 (W := 0) (Nat.le_of_eq rfl) (rm5 l Z a0 hw [] oa3 ow3 T4.heap n0 Zn O4) (by decide) (by decide) (by decide) (by decide) (fun v7 T7 L7 X7 hQ7 => ?_)
    obtain ⟨rfl, Nq7, e7⟩ := hQ7
    have N7 := Fr.app N6 Nq7
    show own_End p e below _ (T7.setTop (mkF m 186 _ [(.ref ow3)]))
    refine own_astore X7 hx hby at_186 (pc' := 188) rfl rfl (l' := #[.val (.int p0), .val (.int p1), .val (.int p2), .val (.int p3), .val (.int (0 : Int32)), .val (.int (p1.toInt8.toInt32)), .val (.int (p2.toInt8.toInt32)), .val (.int (p3.toInt8.toInt32)), .val (.ref b2), .val (.ref oa3), .val (.ref ow3)]) rfl ?_
    refine own_aload X7 hx hby at_188 (pc' := 190) rfl rfl rfl ?_
    obtain ⟨cl8, Ar8, q8, S8, M8, H8, G8⟩ := id V4
    refine own_alen X7 hx hZ hby e7 Ar8 S8 M8 at_190 (pc' := 191) rfl ?_
    refine own_iload X7 hx hby at_191 (pc' := 193) rfl rfl ?_
    refine own_icY X7 hx hby at_193 (pc' := 198) (by decide) (by decide) (show (0 : Int32) = (0 : Int32) by decide) ?_
    refine own_iload X7 hx hby at_198 (pc' := 200) rfl rfl ?_
    refine own_ifY X7 hx hby at_200 (pc' := 214) (by decide) (by decide) (show ¬ (0 : Int32) < (0 : Int32) by decide) ?_
    refine own_iload X7 hx hby at_214 (pc' := 216) rfl rfl ?_
    refine own_iconst X7 hx hby at_216 (pc' := 217) rfl (n := (1 : Int32)) (by decide) ?_
    refine own_icY X7 hx hby at_217 (pc' := 231) (by decide) (by decide) (show ¬ (1 : Int32) < (0 : Int32) by decide) ?_
    refine own_iload X7 hx hby at_231 (pc' := 233) rfl rfl ?_
    refine own_iconst X7 hx hby at_233 (pc' := 234) rfl (n := (2 : Int32)) (by decide) ?_
    refine own_icY X7 hx hby at_234 (pc' := 248) (by decide) (by decide) (show ¬ (2 : Int32) < (0 : Int32) by decide) ?_
    refine own_iconst X7 hx hby at_248 (pc' := 249) rfl (n := (1 : Int32)) (by decide) ?_
    refine own_zreturn X7 hx hlk hby hret (Or.inr rfl) at_249 (own_lv ?_ (by decide) (by decide))
    show Q0 Z p0 p1 p2 p3  h0 n0 (some (.int (1 : Int32))) T7.heap _
    rw [e7]
    exact ⟨rfl, N7⟩
  · rw [hs1]
    show own_End p e below _ (s₁.setTop (mkF m 3 #[.val (.int p0), .val (.int p1), .val (.int p2), .val (.int p3), .unset, .unset, .unset, .unset, .unset, .unset, .unset] [(.int (1 : Int32))]))
    refine own_istore X0 hx hby at_3 (pc' := 5) rfl (l' := #[.val (.int p0), .val (.int p1), .val (.int p2), .val (.int p3), .val (.int (1 : Int32)), .unset, .unset, .unset, .unset, .unset, .unset]) rfl ?_
    refine own_iloadN X0 hx hby at_5 (pc' := 6) rfl rfl ?_
    refine own_i2b X0 hx hby at_6 (pc' := 7) rfl ?_
    refine own_istore X0 hx hby at_7 (pc' := 9) rfl (l' := #[.val (.int p0), .val (.int p1), .val (.int p2), .val (.int p3), .val (.int (1 : Int32)), .val (.int (p1.toInt8.toInt32)), .unset, .unset, .unset, .unset, .unset]) rfl ?_
    refine own_iloadN X0 hx hby at_9 (pc' := 10) rfl rfl ?_
    refine own_i2b X0 hx hby at_10 (pc' := 11) rfl ?_
    refine own_istore X0 hx hby at_11 (pc' := 13) rfl (l' := #[.val (.int p0), .val (.int p1), .val (.int p2), .val (.int p3), .val (.int (1 : Int32)), .val (.int (p1.toInt8.toInt32)), .val (.int (p2.toInt8.toInt32)), .unset, .unset, .unset, .unset]) rfl ?_
    refine own_iloadN X0 hx hby at_13 (pc' := 14) rfl rfl ?_
    refine own_i2b X0 hx hby at_14 (pc' := 15) rfl ?_
    refine own_istore X0 hx hby at_15 (pc' := 17) rfl (l' := #[.val (.int p0), .val (.int p1), .val (.int p2), .val (.int p3), .val (.int (1 : Int32)), .val (.int (p1.toInt8.toInt32)), .val (.int (p2.toInt8.toInt32)), .val (.int (p3.toInt8.toInt32)), .unset, .unset, .unset]) rfl ?_
    refine own_iload X0 hx hby at_17 (pc' := 19) rfl rfl ?_
    refine own_newPE (aty := .byte) X0 hx hZ hby (ad := "[B") (by decide) (wd_0 hw) e0 at_19 (pc' := 21) rfl (by decide) (cap := 1) (by decide) (by decide) (by decide) (by decide) (fun T9 h9 k9 b9 g9 X9 e9 E9 A9 Ex9 => ?_)
    have ge_b9 : n0 ≤ b9 := by rw [g9]; exact Z0
    have Zn := Nat.le_trans Z0 E9.1
    have f_V_b9 : Arv Z h9 b9 k9 .byte (1 : Int32) [(.int (0 : Int32))] (.int (0 : Int32)) := (Arv.new A9 (by decide)).pad (pad_rep [] (.int (0 : Int32)) 1)
    refine own_astore X9 hx hby at_21 (pc' := 23) rfl rfl (l' := #[.val (.int p0), .val (.int p1), .val (.int p2), .val (.int p3), .val (.int (1 : Int32)), .val (.int (p1.toInt8.toInt32)), .val (.int (p2.toInt8.toInt32)), .val (.int (p3.toInt8.toInt32)), .val (.ref b9), .unset, .unset]) rfl ?_
    refine own_iload X9 hx hby at_23 (pc' := 25) rfl rfl ?_
    refine own_ifN X9 hx hby at_25 (pc' := 28) rfl (show (0 : Int32) < (1 : Int32) by decide) ?_
    refine own_aload X9 hx hby at_28 (pc' := 30) rfl rfl rfl ?_
    refine own_iconst X9 hx hby at_30 (pc' := 31) rfl (n := (0 : Int32)) (by decide) ?_
    refine own_iload X9 hx hby at_31 (pc' := 33) rfl rfl ?_
    obtain ⟨cl10, Ar10, q10, S10, M10, H10, G10⟩ := id f_V_b9
    have hin10 : ¬ ((0 : Int32) < 0 ∨ cl10.slots.size ≤ ((0 : Int32)).toNatClampNeg) := inb_of S10 ⟨by decide, by decide⟩
    refine own_bastore X9 hx hZ hby e9 Ar10 hin10 at_33 (pc' := 34) rfl (fun T11 h11 X11 e11 W11 => ?_)
    have f_V_b9 := Arv.set Ar10 q10 S10 M10 H10 G10 (fits_nar_byte _) W11 0 rfl (Nat.le_of_ble_eq_true rfl)
    have f_V_b9 : Arv Z h11 b9 k9 .byte (1 : Int32) [(.int ((p1.toInt8.toInt32).toInt8.toInt32))] (.int (0 : Int32)) := f_V_b9
    rw [own_b8 p1] at f_V_b9
    have Ex9 := Ex9.wr W11
    have Zn := Nat.le_trans Zn (Keep.of_wr W11).1
    have N11 := Fr.snoc X11 N0 ge_b9
    refine own_iload X11 hx hby at_34 (pc' := 36) rfl rfl ?_
    refine own_iconst X11 hx hby at_36 (pc' := 37) rfl (n := (1 : Int32)) (by decide) ?_
    refine own_icY X11 hx hby at_37 (pc' := 46) (by decide) (by decide) (show ¬ (1 : Int32) < (1 : Int32) by decide) ?_
    refine own_iload X11 hx hby at_46 (pc' := 48) rfl rfl ?_
    refine own_iconst X11 hx hby at_48 (pc' := 49) rfl (n := (2 : Int32)) (by decide) ?_
    refine own_icY X11 hx hby at_49 (pc' := 58) (by decide) (by decide) (show ¬ (2 : Int32) < (1 : Int32) by decide) ?_
    refine own_aload X11 hx hby at_58 (pc' := 60) rfl rfl rfl ?_
    have lt_b9 := Ex9.lt
    have Zold := Zn
    refine own_lk1 hw X11 hx hZ hby (by rw [hml]; rfl) hown at_60 (pc' := 63) rfl e11 (W := 0) (Nat.le_of_eq rfl) (rm1 l Z a0 hw [] b9 k9 (1 : Int32) [(.int (p1.toInt8.toInt32))] h11 n0 Zn f_V_b9 Ex9 (by decide)) (by decide) (by decide) (by decide) (by decide) (fun v13 T13 L13 X13 hQ13 => ?_)
    obtain ⟨oa12, ow12, rfl, Nq13, K13, ga13, gw13, naw13, O13, V13⟩ := hQ13
    have N13 := Fr.app N11 Nq13
    have Ex9 := Ex9.keep K13
    have f_V_b9 := f_V_b9.keep K13 nin0
    have Zn := Nat.le_trans Zn K13.1
    have ne_b9_oa12 : b9 ≠ oa12 := Nat.ne_of_lt (Nat.lt_of_lt_of_le lt_b9 ga13)
    have ne_b9_ow12 : b9 ≠ ow12 := Nat.ne_of_lt (Nat.lt_of_lt_of_le lt_b9 gw13)
    have ge_oa12 : n0 ≤ oa12 := Nat.le_trans Zold ga13
    show own_End p e below _ (T13.setTop (mkF m 63 _ [(.ref oa12)]))
    refine own_astore X13 hx hby at_63 (pc' := 65) rfl rfl (l' := #[.val (.int p0), .val (.int p1), .val (.int p2), .val (.int p3), .val (.int (1 : Int32)), .val (.int (p1.toInt8.toInt32)), .val (.int (p2.toInt8.toInt32)), .val (.int (p3.toInt8.toInt32)), .val (.ref b9), .val (.ref oa12), .unset]) rfl ?_
    refine own_aload X13 hx hby at_65 (pc' := 67) rfl rfl rfl ?_
    obtain ⟨cl14, Ar14, q14, S14, M14, H14, G14⟩ := id f_V_b9
    refine own_alen X13 hx hZ hby rfl Ar14 S14 M14 at_67 (pc' := 68) rfl ?_
    refine own_iload X13 hx hby at_68 (pc' := 70) rfl rfl ?_
    refine own_icY X13 hx hby at_70 (pc' := 75) (by decide) (by decide) (show (1 : Int32) = (1 : Int32) by decide) ?_
    refine own_iload X13 hx hby at_75 (pc' := 77) rfl rfl ?_
    refine own_ifN X13 hx hby at_77 (pc' := 80) rfl (show (0 : Int32) < (1 : Int32) by decide) ?_
    refine own_aload X13 hx hby at_80 (pc' := 82) rfl rfl rfl ?_
    refine own_iconst X13 hx hby at_82 (pc' := 83) rfl (n := (0 : Int32)) (by decide) ?_
    obtain ⟨cl15, Ar15, q15, S15, M15, H15, G15⟩ := id f_V_b9
    have hin15 : ¬ ((0 : Int32) < 0 ∨ cl15.slots.size ≤ ((0 : Int32)).toNatClampNeg) := inb_of S15 ⟨by decide, by decide⟩
    have hat15 : cl15.slots[((0 : Int32)).toNatClampNeg]? = some (.int (p1.toInt8.toInt32)) := H15.at hin15 rfl
    refine own_baload X13 hx hZ hby rfl Ar15 hin15 hat15 at_83 (pc' := 84) rfl ?_
    refine own_iload X13 hx hby at_84 (pc' := 86) rfl rfl ?_
    refine own_icY X13 hx hby at_86 (pc' := 91) (by decide) (by decide) (show (p1.toInt8.toInt32) = (p1.toInt8.toInt32) from rfl) ?_
    refine own_iload X13 hx hby at_91 (pc' := 93) rfl rfl ?_
    refine own_iconst X13 hx hby at_93 (pc' := 94) rfl (n := (1 : Int32)) (by decide) ?_
    refine own_icY X13 hx hby at_94 (pc' := 108) (by decide) (by decide) (show ¬ (1 : Int32) < (1 : Int32) by decide) ?_
    refine own_iload X13 hx hby at_108 (pc' := 110) rfl rfl ?_
    refine own_iconst X13 hx hby at_110 (pc' := 111) rfl (n := (2 : Int32)) (by decide) ?_
    refine own_icY X13 hx hby at_111 (pc' := 125) (by decide) (by decide) (show ¬ (2 : Int32) < (1 : Int32) by decide) ?_
    refine own_iload X13 hx hby at_125 (pc' := 127) rfl rfl ?_
    refine own_ifN X13 hx hby at_127 (pc' := 130) rfl (show (0 : Int32) < (1 : Int32) by decide) ?_
    refine own_aload X13 hx hby at_130 (pc' := 132) rfl rfl rfl ?_
    refine own_iconst X13 hx hby at_132 (pc' := 133) rfl (n := (0 : Int32)) (by decide) ?_
    refine own_iload X13 hx hby at_133 (pc' := 135) rfl rfl ?_
    refine own_iconst X13 hx hby at_135 (pc' := 136) rfl (n := (-1 : Int32)) (by decide) ?_
    refine own_ixor X13 hx hby at_136 (pc' := 137) rfl ?_
    refine own_i2b X13 hx hby at_137 (pc' := 138) rfl ?_
    obtain ⟨cl16, Ar16, q16, S16, M16, H16, G16⟩ := id f_V_b9
    have hin16 : ¬ ((0 : Int32) < 0 ∨ cl16.slots.size ≤ ((0 : Int32)).toNatClampNeg) := inb_of S16 ⟨by decide, by decide⟩
    refine own_bastore X13 hx hZ hby rfl Ar16 hin16 at_138 (pc' := 139) rfl (fun T17 h17 X17 e17 W17 => ?_)
    have f_V_b9 := Arv.set Ar16 q16 S16 M16 H16 G16 (fits_nar_byte _) W17 0 rfl (Nat.le_of_ble_eq_true rfl)
    have f_V_b9 : Arv Z h17 b9 k9 .byte (1 : Int32) [(.int ((((p1.toInt8.toInt32) ^^^ (-1 : Int32)).toInt8.toInt32).toInt8.toInt32))] (.int (0 : Int32)) := f_V_b9
    rw [own_b8 ((p1.toInt8.toInt32) ^^^ (-1 : Int32))] at f_V_b9
    have Ex9 := Ex9.wr W17
    have O13 := O13.other W17 (Ne.symm ne_b9_oa12)
    have V13 := V13.other W17 (Ne.symm ne_b9_ow12)
    have Zn := Nat.le_trans Zn (Keep.of_wr W17).1
    have N17 := Fr.snoc X17 N13 ge_b9
    refine own_iload X17 hx hby at_139 (pc' := 141) rfl rfl ?_
    refine own_iconst X17 hx hby at_141 (pc' := 142) rfl (n := (1 : Int32)) (by decide) ?_
    refine own_icY X17 hx hby at_142 (pc' := 154) (by decide) (by decide) (show ¬ (1 : Int32) < (1 : Int32) by decide) ?_
    refine own_iload X17 hx hby at_154 (pc' := 156) rfl rfl ?_
    refine own_iconst X17 hx hby at_156 (pc' := 157) rfl (n := (2 : Int32)) (by decide) ?_
    refine own_icY X17 hx hby at_157 (pc' := 169) (by decide) (by decide) (show ¬ (2 : Int32) < (1 : Int32) by decide) ?_
    refine own_aload X17 hx hby at_169 (pc' := 171) rfl rfl rfl ?_
    refine own_lk2 hw X17 hx hZ hby (by rw [hml]; rfl) hown at_171 (pc' := 174) rfl e17 O13.1 (W := 0) (Nat.le_of_eq rfl) (rm4 l Z a0 hw [] oa12 ow12 k9 (1 : Int32) [(.int (p1.toInt8.toInt32))] h17 n0 Zn O13 V13) (by decide) (by decide) (by decide) (by decide) (fun v18 T18 L18 X18 hQ18 => ?_)
    obtain ⟨rfl, Nq18, e18⟩ := hQ18
    have N18 := Fr.app N17 Nq18
    show own_End p e below _ (T18.setTop (mkF m 174 _ [(.int (1 : Int32))]))
    refine own_iload X18 hx hby at_174 (pc' := 176) rfl rfl ?_
    refine own_icY X18 hx hby at_176 (pc' := 181) (by decide) (by decide) (show (1 : Int32) = (1 : Int32) by decide) ?_
    refine own_aload X18 hx hby at_181 (pc' := 183) rfl rfl rfl ?_
    refine own_lk3 hw X18 hx hZ hby (by rw [hml]; rfl) hown at_183 (pc' := 186) rfl e18 O13.1 (W := 0) (Nat.le_of_eq rfl) (rm5 l Z a0 hw [] oa12 ow12 h17 n0 Zn O13) (by decide) (by decide) (by decide) (by decide) (fun v19 T19 L19 X19 hQ19 => ?_)
    obtain ⟨rfl, Nq19, e19⟩ := hQ19
    have N19 := Fr.app N18 Nq19
    show own_End p e below _ (T19.setTop (mkF m 186 _ [(.ref ow12)]))
    refine own_astore X19 hx hby at_186 (pc' := 188) rfl rfl (l' := #[.val (.int p0), .val (.int p1), .val (.int p2), .val (.int p3), .val (.int (1 : Int32)), .val (.int (p1.toInt8.toInt32)), .val (.int (p2.toInt8.toInt32)), .val (.int (p3.toInt8.toInt32)), .val (.ref b9), .val (.ref oa12), .val (.ref ow12)]) rfl ?_
    refine own_aload X19 hx hby at_188 (pc' := 190) rfl rfl rfl ?_
    obtain ⟨cl20, Ar20, q20, S20, M20, H20, G20⟩ := id V13
    refine own_alen X19 hx hZ hby e19 Ar20 S20 M20 at_190 (pc' := 191) rfl ?_
    refine own_iload X19 hx hby at_191 (pc' := 193) rfl rfl ?_
    refine own_icY X19 hx hby at_193 (pc' := 198) (by decide) (by decide) (show (1 : Int32) = (1 : Int32) by decide) ?_
    refine own_iload X19 hx hby at_198 (pc' := 200) rfl rfl ?_
    refine own_ifN X19 hx hby at_200 (pc' := 203) rfl (show (0 : Int32) < (1 : Int32) by decide) ?_
    refine own_aload X19 hx hby at_203 (pc' := 205) rfl rfl rfl ?_
    refine own_iconst X19 hx hby at_205 (pc' := 206) rfl (n := (0 : Int32)) (by decide) ?_
    obtain ⟨cl21, Ar21, q21, S21, M21, H21, G21⟩ := id V13
    have hin21 : ¬ ((0 : Int32) < 0 ∨ cl21.slots.size ≤ ((0 : Int32)).toNatClampNeg) := inb_of S21 ⟨by decide, by decide⟩
    have hat21 : cl21.slots[((0 : Int32)).toNatClampNeg]? = some (.int (p1.toInt8.toInt32)) := H21.at hin21 rfl
    refine own_baload X19 hx hZ hby e19 Ar21 hin21 hat21 at_206 (pc' := 207) rfl ?_
    refine own_iload X19 hx hby at_207 (pc' := 209) rfl rfl ?_
    refine own_icY X19 hx hby at_209 (pc' := 214) (by decide) (by decide) (show (p1.toInt8.toInt32) = (p1.toInt8.toInt32) from rfl) ?_
    refine own_iload X19 hx hby at_214 (pc' := 216) rfl rfl ?_
    refine own_iconst X19 hx hby at_216 (pc' := 217) rfl (n := (1 : Int32)) (by decide) ?_
    refine own_icY X19 hx hby at_217 (pc' := 231) (by decide) (by decide) (show ¬ (1 : Int32) < (1 : Int32) by decide) ?_
    refine own_iload X19 hx hby at_231 (pc' := 233) rfl rfl ?_
    refine own_iconst X19 hx hby at_233 (pc' := 234) rfl (n := (2 : Int32)) (by decide) ?_
    refine own_icY X19 hx hby at_234 (pc' := 248) (by decide) (by decide) (show ¬ (2 : Int32) < (1 : Int32) by decide) ?_
    refine own_iconst X19 hx hby at_248 (pc' := 249) rfl (n := (1 : Int32)) (by decide) ?_
    refine own_zreturn X19 hx hlk hby hret (Or.inr rfl) at_249 (own_lv ?_ (by decide) (by decide))
    show Q0 Z p0 p1 p2 p3  h0 n0 (some (.int (1 : Int32))) T19.heap _
    rw [e19]
    exact ⟨rfl, N19⟩
  · rw [hs1]
    show own_End p e below _ (s₁.setTop (mkF m 3 #[.val (.int p0), .val (.int p1), .val (.int p2), .val (.int p3), .unset, .unset, .unset, .unset, .unset, .unset, .unset] [(.int (2 : Int32))]))
    refine own_istore X0 hx hby at_3 (pc' := 5) rfl (l' := #[.val (.int p0), .val (.int p1), .val (.int p2), .val (.int p3), .val (.int (2 : Int32)), .unset, .unset, .unset, .unset, .unset, .unset]) rfl ?_
    refine own_iloadN X0 hx hby at_5 (pc' := 6) rfl rfl ?_
    refine own_i2b X0 hx hby at_6 (pc' := 7) rfl ?_
    refine own_istore X0 hx hby at_7 (pc' := 9) rfl (l' := #[.val (.int p0), .val (.int p1), .val (.int p2), .val (.int p3), .val (.int (2 : Int32)), .val (.int (p1.toInt8.toInt32)), .unset, .unset, .unset, .unset, .unset]) rfl ?_
    refine own_iloadN X0 hx hby at_9 (pc' := 10) rfl rfl ?_
    refine own_i2b X0 hx hby at_10 (pc' := 11) rfl ?_
    refine own_istore X0 hx hby at_11 (pc' := 13) rfl (l' := #[.val (.int p0), .val (.int p1), .val (.int p2), .val (.int p3), .val (.int (2 : Int32)), .val (.int (p1.toInt8.toInt32)), .val (.int (p2.toInt8.toInt32)), .unset, .unset, .unset, .unset]) rfl ?_
    refine own_iloadN X0 hx hby at_13 (pc' := 14) rfl rfl ?_
    refine own_i2b X0 hx hby at_14 (pc' := 15) rfl ?_
    refine own_istore X0 hx hby at_15 (pc' := 17) rfl (l' := #[.val (.int p0), .val (.int p1), .val (.int p2), .val (.int p3), .val (.int (2 : Int32)), .val (.int (p1.toInt8.toInt32)), .val (.int (p2.toInt8.toInt32)), .val (.int (p3.toInt8.toInt32)), .unset, .unset, .unset]) rfl ?_
    refine own_iload X0 hx hby at_17 (pc' := 19) rfl rfl ?_
    refine own_newPE (aty := .byte) X0 hx hZ hby (ad := "[B") (by decide) (wd_0 hw) e0 at_19 (pc' := 21) rfl (by decide) (cap := 2) (by decide) (by decide) (by decide) (by decide) (fun T22 h22 k22 b22 g22 X22 e22 E22 A22 Ex22 => ?_)
    have ge_b22 : n0 ≤ b22 := by rw [g22]; exact Z0
    have Zn := Nat.le_trans Z0 E22.1
    have f_V_b22 : Arv Z h22 b22 k22 .byte (2 : Int32) [(.int (0 : Int32)), (.int (0 : Int32))] (.int (0 : Int32)) := (Arv.new A22 (by decide)).pad (pad_rep [] (.int (0 : Int32)) 2)
    refine own_astore X22 hx hby at_21 (pc' := 23) rfl rfl (l' := #[.val (.int p0), .val (.int p1), .val (.int p2), .val (.int p3), .val (.int (2 : Int32)), .val (.int (p1.toInt8.toInt32)), .val (.int (p2.toInt8.toInt32)), .val (.int (p3.toInt8.toInt32)), .val (.ref b22), .unset, .unset]) rfl ?_
    refine own_iload X22 hx hby at_23 (pc' := 25) rfl rfl ?_
    refine own_ifN X22 hx hby at_25 (pc' := 28) rfl (show (0 : Int32) < (2 : Int32) by decide) ?_
    refine own_aload X22 hx hby at_28 (pc' := 30) rfl rfl rfl ?_
    refine own_iconst X22 hx hby at_30 (pc' := 31) rfl (n := (0 : Int32)) (by decide) ?_
    refine own_iload X22 hx hby at_31 (pc' := 33) rfl rfl ?_
    obtain ⟨cl23, Ar23, q23, S23, M23, H23, G23⟩ := id f_V_b22
    have hin23 : ¬ ((0 : Int32) < 0 ∨ cl23.slots.size ≤ ((0 : Int32)).toNatClampNeg) := inb_of S23 ⟨by decide, by decide⟩
    refine own_bastore X22 hx hZ hby e22 Ar23 hin23 at_33 (pc' := 34) rfl (fun T24 h24 X24 e24 W24 => ?_)
    have f_V_b22 := Arv.set Ar23 q23 S23 M23 H23 G23 (fits_nar_byte _) W24 0 rfl (Nat.le_of_ble_eq_true rfl)
    have f_V_b22 : Arv Z h24 b22 k22 .byte (2 : Int32) [(.int ((p1.toInt8.toInt32).toInt8.toInt32)), (.int (0 : Int32))] (.int (0 : Int32)) := f_V_b22
    rw [own_b8 p1] at f_V_b22
    have Ex22 := Ex22.wr W24
    have Zn := Nat.le_trans Zn (Keep.of_wr W24).1
    have N24 := Fr.snoc X24 N0 ge_b22
    refine own_iload X24 hx hby at_34 (pc' := 36) rfl rfl ?_
    refine own_iconst X24 hx hby at_36 (pc' := 37) rfl (n := (1 : Int32)) (by decide) ?_
    refine own_icN X24 hx hby at_37 (pc' := 40) rfl (show (1 : Int32) < (2 : Int32) by decide) ?_
    refine own_aload X24 hx hby at_40 (pc' := 42) rfl rfl rfl ?_
    refine own_iconst X24 hx hby at_42 (pc' := 43) rfl (n := (1 : Int32)) (by decide) ?_
    refine own_iload X24 hx hby at_43 (pc' := 45) rfl rfl ?_
    obtain ⟨cl25, Ar25, q25, S25, M25, H25, G25⟩ := id f_V_b22
    have hin25 : ¬ ((1 : Int32) < 0 ∨ cl25.slots.size ≤ ((1 : Int32)).toNatClampNeg) := inb_of S25 ⟨by decide, by decide⟩
    refine own_bastore X24 hx hZ hby e24 Ar25 hin25 at_45 (pc' := 46) rfl (fun T26 h26 X26 e26 W26 => ?_)
    have f_V_b22 := Arv.set Ar25 q25 S25 M25 H25 G25 (fits_nar_byte _) W26 1 rfl (Nat.le_of_ble_eq_true rfl)
    have f_V_b22 : Arv Z h26 b22 k22 .byte (2 : Int32) [(.int (p1.toInt8.toInt32)), (.int ((p2.toInt8.toInt32).toInt8.toInt32))] (.int (0 : Int32)) := f_V_b22
    rw [own_b8 p2] at f_V_b22
    have Ex22 := Ex22.wr W26
    have Zn := Nat.le_trans Zn (Keep.of_wr W26).1
    have N26 := Fr.snoc X26 N24 ge_b22
    refine own_iload X26 hx hby at_46 (pc' := 48) rfl rfl ?_
    refine own_iconst X26 hx hby at_48 (pc' := 49) rfl (n := (2 : Int32)) (by decide) ?_
    refine own_icY X26 hx hby at_49 (pc' := 58) (by decide) (by decide) (show ¬ (2 : Int32) < (2 : Int32) by decide) ?_
    refine own_aload X26 hx hby at_58 (pc' := 60) rfl rfl rfl ?_
    have lt_b22 := Ex22.lt
    have Zold := Zn
    refine own_lk1 hw X26 hx hZ hby (by rw [hml]; rfl) hown at_60 (pc' := 63) rfl e26 (W := 0) (Nat.le_of_eq rfl) (rm1 l Z a0 hw [] b22 k22 (2 : Int32) [(.int (p1.toInt8.toInt32)), (.int (p2.toInt8.toInt32))] h26 n0 Zn f_V_b22 Ex22 (by decide)) (by decide) (by decide) (by decide) (by decide) (fun v28 T28 L28 X28 hQ28 => ?_)
    obtain ⟨oa27, ow27, rfl, Nq28, K28, ga28, gw28, naw28, O28, V28⟩ := hQ28
    have N28 := Fr.app N26 Nq28
    have Ex22 := Ex22.keep K28
    have f_V_b22 := f_V_b22.keep K28 nin0
    have Zn := Nat.le_trans Zn K28.1
    have ne_b22_oa27 : b22 ≠ oa27 := Nat.ne_of_lt (Nat.lt_of_lt_of_le lt_b22 ga28)
    have ne_b22_ow27 : b22 ≠ ow27 := Nat.ne_of_lt (Nat.lt_of_lt_of_le lt_b22 gw28)
    have ge_oa27 : n0 ≤ oa27 := Nat.le_trans Zold ga28
    show own_End p e below _ (T28.setTop (mkF m 63 _ [(.ref oa27)]))
    refine own_astore X28 hx hby at_63 (pc' := 65) rfl rfl (l' := #[.val (.int p0), .val (.int p1), .val (.int p2), .val (.int p3), .val (.int (2 : Int32)), .val (.int (p1.toInt8.toInt32)), .val (.int (p2.toInt8.toInt32)), .val (.int (p3.toInt8.toInt32)), .val (.ref b22), .val (.ref oa27), .unset]) rfl ?_
    refine own_aload X28 hx hby at_65 (pc' := 67) rfl rfl rfl ?_
    obtain ⟨cl29, Ar29, q29, S29, M29, H29, G29⟩ := id f_V_b22
    refine own_alen X28 hx hZ hby rfl Ar29 S29 M29 at_67 (pc' := 68) rfl ?_
    refine own_iload X28 hx hby at_68 (pc' := 70) rfl rfl ?_
    refine own_icY X28 hx hby at_70 (pc' := 75) (by decide) (by decide) (show (2 : Int32) = (2 : Int32) by decide) ?_
    refine own_iload X28 hx hby at_75 (pc' := 77) rfl rfl ?_
    refine own_ifN X28 hx hby at_77 (pc' := 80) rfl (show (0 : Int32) < (2 : Int32) by decide) ?_
    refine own_aload X28 hx hby at_80 (pc' := 82) rfl rfl rfl ?_
    refine own_iconst X28 hx hby at_82 (pc' := 83) rfl (n := (0 : Int32)) (by decide) ?_
    obtain ⟨cl30, Ar30, q30, S30, M30, H30, G30⟩ := id f_V_b22
    have hin30 : ¬ ((0 : Int32) < 0 ∨ cl30.slots.size ≤ ((0 : Int32)).toNatClampNeg) := inb_of S30 ⟨by decide, by decide⟩
    have hat30 : cl30.slots[((0 : Int32)).toNatClampNeg]? = some (.int (p1.toInt8.toInt32)) := H30.at hin30 rfl
    refine own_baload X28 hx hZ hby rfl Ar30 hin30 hat30 at_83 (pc' := 84) rfl ?_
    refine own_iload X28 hx hby at_84 (pc' := 86) rfl rfl ?_
    refine own_icY X28 hx hby at_86 (pc' := 91) (by decide) (by decide) (show (p1.toInt8.toInt32) = (p1.toInt8.toInt32) from rfl) ?_
    refine own_iload X28 hx hby at_91 (pc' := 93) rfl rfl ?_
    refine own_iconst X28 hx hby at_93 (pc' := 94) rfl (n := (1 : Int32)) (by decide) ?_
    refine own_icN X28 hx hby at_94 (pc' := 97) rfl (show (1 : Int32) < (2 : Int32) by decide) ?_
    refine own_aload X28 hx hby at_97 (pc' := 99) rfl rfl rfl ?_
    refine own_iconst X28 hx hby at_99 (pc' := 100) rfl (n := (1 : Int32)) (by decide) ?_
    obtain ⟨cl31, Ar31, q31, S31, M31, H31, G31⟩ := id f_V_b22
    have hin31 : ¬ ((1 : Int32) < 0 ∨ cl31.slots.size ≤ ((1 : Int32)).toNatClampNeg) := inb_of S31 ⟨by decide, by decide⟩
    have hat31 : cl31.slots[((1 : Int32)).toNatClampNeg]? = some (.int (p2.toInt8.toInt32)) := H31.at hin31 rfl
    refine own_baload X28 hx hZ hby rfl Ar31 hin31 hat31 at_100 (pc' := 101) rfl ?_
    refine own_iload X28 hx hby at_101 (pc' := 103) rfl rfl ?_
    refine own_icY X28 hx hby at_103 (pc' := 108) (by decide) (by decide) (show (p2.toInt8.toInt32) = (p2.toInt8.toInt32) from rfl) ?_
    refine own_iload X28 hx hby at_108 (pc' := 110) rfl rfl ?_
    refine own_iconst X28 hx hby at_110 (pc' := 111) rfl (n := (2 : Int32)) (by decide) ?_
    refine own_icY X28 hx hby at_111 (pc' := 125) (by decide) (by decide) (show ¬ (2 : Int32) < (2 : Int32) by decide) ?_
    refine own_iload X28 hx hby at_125 (pc' := 127) rfl rfl ?_
    refine own_ifN X28 hx hby at_127 (pc' := 130) rfl (show (0 : Int32) < (2 : Int32) by decide) ?_
    refine own_aload X28 hx hby at_130 (pc' := 132) rfl rfl rfl ?_
    refine own_iconst X28 hx hby at_132 (pc' := 133) rfl (n := (0 : Int32)) (by decide) ?_
    refine own_iload X28 hx hby at_133 (pc' := 135) rfl rfl ?_
    refine own_iconst X28 hx hby at_135 (pc' := 136) rfl (n := (-1 : Int32)) (by decide) ?_
    refine own_ixor X28 hx hby at_136 (pc' := 137) rfl ?_
    refine own_i2b X28 hx hby at_137 (pc' := 138) rfl ?_
    obtain ⟨cl32, Ar32, q32, S32, M32, H32, G32⟩ := id f_V_b22
    have hin32 : ¬ ((0 : Int32) < 0 ∨ cl32.slots.size ≤ ((0 : Int32)).toNatClampNeg) := inb_of S32 ⟨by decide, by decide⟩
    refine own_bastore X28 hx hZ hby rfl Ar32 hin32 at_138 (pc' := 139) rfl (fun T33 h33 X33 e33 W33 => ?_)
    have f_V_b22 := Arv.set Ar32 q32 S32 M32 H32 G32 (fits_nar_byte _) W33 0 rfl (Nat.le_of_ble_eq_true rfl)
    have f_V_b22 : Arv Z h33 b22 k22 .byte (2 : Int32) [(.int ((((p1.toInt8.toInt32) ^^^ (-1 : Int32)).toInt8.toInt32).toInt8.toInt32)), (.int (p2.toInt8.toInt32))] (.int (0 : Int32)) := f_V_b22
    rw [own_b8 ((p1.toInt8.toInt32) ^^^ (-1 : Int32))] at f_V_b22
    have Ex22 := Ex22.wr W33
    have O28 := O28.other W33 (Ne.symm ne_b22_oa27)
    have V28 := V28.other W33 (Ne.symm ne_b22_ow27)
    have Zn := Nat.le_trans Zn (Keep.of_wr W33).1
    have N33 := Fr.snoc X33 N28 ge_b22
    refine own_iload X33 hx hby at_139 (pc' := 141) rfl rfl ?_
    refine own_iconst X33 hx hby at_141 (pc' := 142) rfl (n := (1 : Int32)) (by decide) ?_
    refine own_icN X33 hx hby at_142 (pc' := 145) rfl (show (1 : Int32) < (2 : Int32) by decide) ?_
    refine own_aload X33 hx hby at_145 (pc' := 147) rfl rfl rfl ?_
    refine own_iconst X33 hx hby at_147 (pc' := 148) rfl (n := (1 : Int32)) (by decide) ?_
    refine own_iload X33 hx hby at_148 (pc' := 150) rfl rfl ?_
    refine own_iconst X33 hx hby at_150 (pc' := 151) rfl (n := (-1 : Int32)) (by decide) ?_
    refine own_ixor X33 hx hby at_151 (pc' := 152) rfl ?_
    refine own_i2b X33 hx hby at_152 (pc' := 153) rfl ?_
    obtain ⟨cl34, Ar34, q34, S34, M34, H34, G34⟩ := id f_V_b22
    have hin34 : ¬ ((1 : Int32) < 0 ∨ cl34.slots.size ≤ ((1 : Int32)).toNatClampNeg) := inb_of S34 ⟨by decide, by decide⟩
    refine own_bastore X33 hx hZ hby e33 Ar34 hin34 at_153 (pc' := 154) rfl (fun T35 h35 X35 e35 W35 => ?_)
    have f_V_b22 := Arv.set Ar34 q34 S34 M34 H34 G34 (fits_nar_byte _) W35 1 rfl (Nat.le_of_ble_eq_true rfl)
    have f_V_b22 : Arv Z h35 b22 k22 .byte (2 : Int32) [(.int (((p1.toInt8.toInt32) ^^^ (-1 : Int32)).toInt8.toInt32)), (.int ((((p2.toInt8.toInt32) ^^^ (-1 : Int32)).toInt8.toInt32).toInt8.toInt32))] (.int (0 : Int32)) := f_V_b22
    rw [own_b8 ((p2.toInt8.toInt32) ^^^ (-1 : Int32))] at f_V_b22
    have Ex22 := Ex22.wr W35
    have O28 := O28.other W35 (Ne.symm ne_b22_oa27)
    have V28 := V28.other W35 (Ne.symm ne_b22_ow27)
    have Zn := Nat.le_trans Zn (Keep.of_wr W35).1
    have N35 := Fr.snoc X35 N33 ge_b22
    refine own_iload X35 hx hby at_154 (pc' := 156) rfl rfl ?_
    refine own_iconst X35 hx hby at_156 (pc' := 157) rfl (n := (2 : Int32)) (by decide) ?_
    refine own_icY X35 hx hby at_157 (pc' := 169) (by decide) (by decide) (show ¬ (2 : Int32) < (2 : Int32) by decide) ?_
    refine own_aload X35 hx hby at_169 (pc' := 171) rfl rfl rfl ?_
    refine own_lk2 hw X35 hx hZ hby (by rw [hml]; rfl) hown at_171 (pc' := 174) rfl e35 O28.1 (W := 0) (Nat.le_of_eq rfl) (rm4 l Z a0 hw [] oa27 ow27 k22 (2 : Int32) [(.int (p1.toInt8.toInt32)), (.int (p2.toInt8.toInt32))] h35 n0 Zn O28 V28) (by decide) (by decide) (by decide) (by decide) (fun v36 T36 L36 X36 hQ36 => ?_)
    obtain ⟨rfl, Nq36, e36⟩ := hQ36
    have N36 := Fr.app N35 Nq36
    show own_End p e below _ (T36.setTop (mkF m 174 _ [(.int (2 : Int32))]))
    refine own_iload X36 hx hby at_174 (pc' := 176) rfl rfl ?_
    refine own_icY X36 hx hby at_176 (pc' := 181) (by decide) (by decide) (show (2 : Int32) = (2 : Int32) by decide) ?_
    refine own_aload X36 hx hby at_181 (pc' := 183) rfl rfl rfl ?_
    refine own_lk3 hw X36 hx hZ hby (by rw [hml]; rfl) hown at_183 (pc' := 186) rfl e36 O28.1 (W := 0) (Nat.le_of_eq rfl) (rm5 l Z a0 hw [] oa27 ow27 h35 n0 Zn O28) (by decide) (by decide) (by decide) (by decide) (fun v37 T37 L37 X37 hQ37 => ?_)
    obtain ⟨rfl, Nq37, e37⟩ := hQ37
    have N37 := Fr.app N36 Nq37
    show own_End p e below _ (T37.setTop (mkF m 186 _ [(.ref ow27)]))
    refine own_astore X37 hx hby at_186 (pc' := 188) rfl rfl (l' := #[.val (.int p0), .val (.int p1), .val (.int p2), .val (.int p3), .val (.int (2 : Int32)), .val (.int (p1.toInt8.toInt32)), .val (.int (p2.toInt8.toInt32)), .val (.int (p3.toInt8.toInt32)), .val (.ref b22), .val (.ref oa27), .val (.ref ow27)]) rfl ?_
    refine own_aload X37 hx hby at_188 (pc' := 190) rfl rfl rfl ?_
    obtain ⟨cl38, Ar38, q38, S38, M38, H38, G38⟩ := id V28
    refine own_alen X37 hx hZ hby e37 Ar38 S38 M38 at_190 (pc' := 191) rfl ?_
    refine own_iload X37 hx hby at_191 (pc' := 193) rfl rfl ?_
    refine own_icY X37 hx hby at_193 (pc' := 198) (by decide) (by decide) (show (2 : Int32) = (2 : Int32) by decide) ?_
    refine own_iload X37 hx hby at_198 (pc' := 200) rfl rfl ?_
    refine own_ifN X37 hx hby at_200 (pc' := 203) rfl (show (0 : Int32) < (2 : Int32) by decide) ?_
    refine own_aload X37 hx hby at_203 (pc' := 205) rfl rfl rfl ?_
    refine own_iconst X37 hx hby at_205 (pc' := 206) rfl (n := (0 : Int32)) (by decide) ?_
    obtain ⟨cl39, Ar39, q39, S39, M39, H39, G39⟩ := id V28
    have hin39 : ¬ ((0 : Int32) < 0 ∨ cl39.slots.size ≤ ((0 : Int32)).toNatClampNeg) := inb_of S39 ⟨by decide, by decide⟩
    have hat39 : cl39.slots[((0 : Int32)).toNatClampNeg]? = some (.int (p1.toInt8.toInt32)) := H39.at hin39 rfl
    refine own_baload X37 hx hZ hby e37 Ar39 hin39 hat39 at_206 (pc' := 207) rfl ?_
    refine own_iload X37 hx hby at_207 (pc' := 209) rfl rfl ?_
    refine own_icY X37 hx hby at_209 (pc' := 214) (by decide) (by decide) (show (p1.toInt8.toInt32) = (p1.toInt8.toInt32) from rfl) ?_
    refine own_iload X37 hx hby at_214 (pc' := 216) rfl rfl ?_
    refine own_iconst X37 hx hby at_216 (pc' := 217) rfl (n := (1 : Int32)) (by decide) ?_
    refine own_icN X37 hx hby at_217 (pc' := 220) rfl (show (1 : Int32) < (2 : Int32) by decide) ?_
    refine own_aload X37 hx hby at_220 (pc' := 222) rfl rfl rfl ?_
    refine own_iconst X37 hx hby at_222 (pc' := 223) rfl (n := (1 : Int32)) (by decide) ?_
    obtain ⟨cl40, Ar40, q40, S40, M40, H40, G40⟩ := id V28
    have hin40 : ¬ ((1 : Int32) < 0 ∨ cl40.slots.size ≤ ((1 : Int32)).toNatClampNeg) := inb_of S40 ⟨by decide, by decide⟩
    have hat40 : cl40.slots[((1 : Int32)).toNatClampNeg]? = some (.int (p2.toInt8.toInt32)) := H40.at hin40 rfl
    refine own_baload X37 hx hZ hby e37 Ar40 hin40 hat40 at_223 (pc' := 224) rfl ?_
    refine own_iload X37 hx hby at_224 (pc' := 226) rfl rfl ?_
    refine own_icY X37 hx hby at_226 (pc' := 231) (by decide) (by decide) (show (p2.toInt8.toInt32) = (p2.toInt8.toInt32) from rfl) ?_
    refine own_iload X37 hx hby at_231 (pc' := 233) rfl rfl ?_
    refine own_iconst X37 hx hby at_233 (pc' := 234) rfl (n := (2 : Int32)) (by decide) ?_
    refine own_icY X37 hx hby at_234 (pc' := 248) (by decide) (by decide) (show ¬ (2 : Int32) < (2 : Int32) by decide) ?_
    refine own_iconst X37 hx hby at_248 (pc' := 249) rfl (n := (1 : Int32)) (by decide) ?_
    refine own_zreturn X37 hx hlk hby hret (Or.inr rfl) at_249 (own_lv ?_ (by decide) (by decide))
    show Q0 Z p0 p1 p2 p3  h0 n0 (some (.int (1 : Int32))) T37.heap _
    rw [e37]
    exact ⟨rfl, N37⟩
  · rw [hs1]
    show own_End p e below _ (s₁.setTop (mkF m 3 #[.val (.int p0), .val (.int p1), .val (.int p2), .val (.int p3), .unset, .unset, .unset, .unset, .unset, .unset, .unset] [(.int (3 : Int32))]))
    refine own_istore X0 hx hby at_3 (pc' := 5) rfl (l' := #[.val (.int p0), .val (.int p1), .val (.int p2), .val (.int p3), .val (.int (3 : Int32)), .unset, .unset, .unset, .unset, .unset, .unset]) rfl ?_
    refine own_iloadN X0 hx hby at_5 (pc' := 6) rfl rfl ?_
    refine own_i2b X0 hx hby at_6 (pc' := 7) rfl ?_
    refine own_istore X0 hx hby at_7 (pc' := 9) rfl (l' := #[.val (.int p0), .val (.int p1), .val (.int p2), .val (.int p3), .val (.int (3 : Int32)), .val (.int (p1.toInt8.toInt32)), .unset, .unset, .unset, .unset, .unset]) rfl ?_
    refine own_iloadN X0 hx hby at_9 (pc' := 10) rfl rfl ?_
    refine own_i2b X0 hx hby at_10 (pc' := 11) rfl ?_
    refine own_istore X0 hx hby at_11 (pc' := 13) rfl (l' := #[.val (.int p0), .val (.int p1), .val (.int p2), .val (.int p3), .val (.int (3 : Int32)), .val (.int (p1.toInt8.toInt32)), .val (.int (p2.toInt8.toInt32)), .unset, .unset, .unset, .unset]) rfl ?_
    refine own_iloadN X0 hx hby at_13 (pc' := 14) rfl rfl ?_
    refine own_i2b X0 hx hby at_14 (pc' := 15) rfl ?_
    refine own_istore X0 hx hby at_15 (pc' := 17) rfl (l' := #[.val (.int p0), .val (.int p1), .val (.int p2), .val (.int p3), .val (.int (3 : Int32)), .val (.int (p1.toInt8.toInt32)), .val (.int (p2.toInt8.toInt32)), .val (.int (p3.toInt8.toInt32)), .unset, .unset, .unset]) rfl ?_
    refine own_iload X0 hx hby at_17 (pc' := 19) rfl rfl ?_
    refine own_newPE (aty := .byte) X0 hx hZ hby (ad := "[B") (by decide) (wd_0 hw) e0 at_19 (pc' := 21) rfl (by decide) (cap := 3) (by decide) (by decide) (by decide) (by decide) (fun T41 h41 k41 b41 g41 X41 e41 E41 A41 Ex41 => ?_)
    have ge_b41 : n0 ≤ b41 := by rw [g41]; exact Z0
    have Zn := Nat.le_trans Z0 E41.1
    have f_V_b41 : Arv Z h41 b41 k41 .byte (3 : Int32) [(.int (0 : Int32)), (.int (0 : Int32)), (.int (0 : Int32))] (.int (0 : Int32)) := (Arv.new A41 (by decide)).pad (pad_rep [] (.int (0 : Int32)) 3)
    refine own_astore X41 hx hby at_21 (pc' := 23) rfl rfl (l' := #[.val (.int p0), .val (.int p1), .val (.int p2), .val (.int p3), .val (.int (3 : Int32)), .val (.int (p1.toInt8.toInt32)), .val (.int (p2.toInt8.toInt32)), .val (.int (p3.toInt8.toInt32)), .val (.ref b41), .unset, .unset]) rfl ?_
    refine own_iload X41 hx hby at_23 (pc' := 25) rfl rfl ?_
    refine own_ifN X41 hx hby at_25 (pc' := 28) rfl (show (0 : Int32) < (3 : Int32) by decide) ?_
    refine own_aload X41 hx hby at_28 (pc' := 30) rfl rfl rfl ?_
    refine own_iconst X41 hx hby at_30 (pc' := 31) rfl (n := (0 : Int32)) (by decide) ?_
    refine own_iload X41 hx hby at_31 (pc' := 33) rfl rfl ?_
    obtain ⟨cl42, Ar42, q42, S42, M42, H42, G42⟩ := id f_V_b41
    have hin42 : ¬ ((0 : Int32) < 0 ∨ cl42.slots.size ≤ ((0 : Int32)).toNatClampNeg) := inb_of S42 ⟨by decide, by decide⟩
    refine own_bastore X41 hx hZ hby e41 Ar42 hin42 at_33 (pc' := 34) rfl (fun T43 h43 X43 e43 W43 => ?_)
    have f_V_b41 := Arv.set Ar42 q42 S42 M42 H42 G42 (fits_nar_byte _) W43 0 rfl (Nat.le_of_ble_eq_true rfl)
    have f_V_b41 : Arv Z h43 b41 k41 .byte (3 : Int32) [(.int ((p1.toInt8.toInt32).toInt8.toInt32)), (.int (0 : Int32)), (.int (0 : Int32))] (.int (0 : Int32)) := f_V_b41
    rw [own_b8 p1] at f_V_b41
    have Ex41 := Ex41.wr W43
    have Zn := Nat.le_trans Zn (Keep.of_wr W43).1
    have N43 := Fr.snoc X43 N0 ge_b41
    refine own_iload X43 hx hby at_34 (pc' := 36) rfl rfl ?_
    refine own_iconst X43 hx hby at_36 (pc' := 37) rfl (n := (1 : Int32)) (by decide) ?_
    refine own_icN X43 hx hby at_37 (pc' := 40) rfl (show (1 : Int32) < (3 : Int32) by decide) ?_
    refine own_aload X43 hx hby at_40 (pc' := 42) rfl rfl rfl ?_
    refine own_iconst X43 hx hby at_42 (pc' := 43) rfl (n := (1 : Int32)) (by decide) ?_
    refine own_iload X43 hx hby at_43 (pc' := 45) rfl rfl ?_
    obtain ⟨cl44, Ar44, q44, S44, M44, H44, G44⟩ := id f_V_b41
    have hin44 : ¬ ((1 : Int32) < 0 ∨ cl44.slots.size ≤ ((1 : Int32)).toNatClampNeg) := inb_of S44 ⟨by decide, by decide⟩
    refine own_bastore X43 hx hZ hby e43 Ar44 hin44 at_45 (pc' := 46) rfl (fun T45 h45 X45 e45 W45 => ?_)
    have f_V_b41 := Arv.set Ar44 q44 S44 M44 H44 G44 (fits_nar_byte _) W45 1 rfl (Nat.le_of_ble_eq_true rfl)
    have f_V_b41 : Arv Z h45 b41 k41 .byte (3 : Int32) [(.int (p1.toInt8.toInt32)), (.int ((p2.toInt8.toInt32).toInt8.toInt32)), (.int (0 : Int32))] (.int (0 : Int32)) := f_V_b41
    rw [own_b8 p2] at f_V_b41
    have Ex41 := Ex41.wr W45
    have Zn := Nat.le_trans Zn (Keep.of_wr W45).1
    have N45 := Fr.snoc X45 N43 ge_b41
    refine own_iload X45 hx hby at_46 (pc' := 48) rfl rfl ?_
    refine own_iconst X45 hx hby at_48 (pc' := 49) rfl (n := (2 : Int32)) (by decide) ?_
    refine own_icN X45 hx hby at_49 (pc' := 52) rfl (show (2 : Int32) < (3 : Int32) by decide) ?_
    refine own_aload X45 hx hby at_52 (pc' := 54) rfl rfl rfl ?_
    refine own_iconst X45 hx hby at_54 (pc' := 55) rfl (n := (2 : Int32)) (by decide) ?_
    refine own_iload X45 hx hby at_55 (pc' := 57) rfl rfl ?_
    obtain ⟨cl46, Ar46, q46, S46, M46, H46, G46⟩ := id f_V_b41
    have hin46 : ¬ ((2 : Int32) < 0 ∨ cl46.slots.size ≤ ((2 : Int32)).toNatClampNeg) := inb_of S46 ⟨by decide, by decide⟩
    refine own_bastore X45 hx hZ hby e45 Ar46 hin46 at_57 (pc' := 58) rfl (fun T47 h47 X47 e47 W47 => ?_)
    have f_V_b41 := Arv.set Ar46 q46 S46 M46 H46 G46 (fits_nar_byte _) W47 2 rfl (Nat.le_of_ble_eq_true rfl)
    have f_V_b41 : Arv Z h47 b41 k41 .byte (3 : Int32) [(.int (p1.toInt8.toInt32)), (.int (p2.toInt8.toInt32)), (.int ((p3.toInt8.toInt32).toInt8.toInt32))] (.int (0 : Int32)) := f_V_b41
    rw [own_b8 p3] at f_V_b41
    have Ex41 := Ex41.wr W47
    have Zn := Nat.le_trans Zn (Keep.of_wr W47).1
    have N47 := Fr.snoc X47 N45 ge_b41
    refine own_aload X47 hx hby at_58 (pc' := 60) rfl rfl rfl ?_
    have lt_b41 := Ex41.lt
    have Zold := Zn
    refine own_lk1 hw X47 hx hZ hby (by rw [hml]; rfl) hown at_60 (pc' := 63) rfl e47 (W := 0) (Nat.le_of_eq rfl) (rm1 l Z a0 hw [] b41 k41 (3 : Int32) [(.int (p1.toInt8.toInt32)), (.int (p2.toInt8.toInt32)), (.int (p3.toInt8.toInt32))] h47 n0 Zn f_V_b41 Ex41 (by decide)) (by decide) (by decide) (by decide) (by decide) (fun v49 T49 L49 X49 hQ49 => ?_)
    obtain ⟨oa48, ow48, rfl, Nq49, K49, ga49, gw49, naw49, O49, V49⟩ := hQ49
    have N49 := Fr.app N47 Nq49
    have Ex41 := Ex41.keep K49
    have f_V_b41 := f_V_b41.keep K49 nin0
    have Zn := Nat.le_trans Zn K49.1
    have ne_b41_oa48 : b41 ≠ oa48 := Nat.ne_of_lt (Nat.lt_of_lt_of_le lt_b41 ga49)
    have ne_b41_ow48 : b41 ≠ ow48 := Nat.ne_of_lt (Nat.lt_of_lt_of_le lt_b41 gw49)
    have ge_oa48 : n0 ≤ oa48 := Nat.le_trans Zold ga49
    show own_End p e below _ (T49.setTop (mkF m 63 _ [(.ref oa48)]))
    refine own_astore X49 hx hby at_63 (pc' := 65) rfl rfl (l' := #[.val (.int p0), .val (.int p1), .val (.int p2), .val (.int p3), .val (.int (3 : Int32)), .val (.int (p1.toInt8.toInt32)), .val (.int (p2.toInt8.toInt32)), .val (.int (p3.toInt8.toInt32)), .val (.ref b41), .val (.ref oa48), .unset]) rfl ?_
    refine own_aload X49 hx hby at_65 (pc' := 67) rfl rfl rfl ?_
    obtain ⟨cl50, Ar50, q50, S50, M50, H50, G50⟩ := id f_V_b41
    refine own_alen X49 hx hZ hby rfl Ar50 S50 M50 at_67 (pc' := 68) rfl ?_
    refine own_iload X49 hx hby at_68 (pc' := 70) rfl rfl ?_
    refine own_icY X49 hx hby at_70 (pc' := 75) (by decide) (by decide) (show (3 : Int32) = (3 : Int32) by decide) ?_
    refine own_iload X49 hx hby at_75 (pc' := 77) rfl rfl ?_
    refine own_ifN X49 hx hby at_77 (pc' := 80) rfl (show (0 : Int32) < (3 : Int32) by decide) ?_
    refine own_aload X49 hx hby at_80 (pc' := 82) rfl rfl rfl ?_
    refine own_iconst X49 hx hby at_82 (pc' := 83) rfl (n := (0 : Int32)) (by decide) ?_
    obtain ⟨cl51, Ar51, q51, S51, M51, H51, G51⟩ := id f_V_b41
    have hin51 : ¬ ((0 : Int32) < 0 ∨ cl51.slots.size ≤ ((0 : Int32)).toNatClampNeg) := inb_of S51 ⟨by decide, by decide⟩
    have hat51 : cl51.slots[((0 : Int32)).toNatClampNeg]? = some (.int (p1.toInt8.toInt32)) := H51.at hin51 rfl
    refine own_baload X49 hx hZ hby rfl Ar51 hin51 hat51 at_83 (pc' := 84) rfl ?_
    refine own_iload X49 hx hby at_84 (pc' := 86) rfl rfl ?_
    refine own_icY X49 hx hby at_86 (pc' := 91) (by decide) (by decide) (show (p1.toInt8.toInt32) = (p1.toInt8.toInt32) from rfl) ?_
    refine own_iload X49 hx hby at_91 (pc' := 93) rfl rfl ?_
    refine own_iconst X49 hx hby at_93 (pc' := 94) rfl (n := (1 : Int32)) (by decide) ?_
    refine own_icN X49 hx hby at_94 (pc' := 97) rfl (show (1 : Int32) < (3 : Int32) by decide) ?_
    refine own_aload X49 hx hby at_97 (pc' := 99) rfl rfl rfl ?_
    refine own_iconst X49 hx hby at_99 (pc' := 100) rfl (n := (1 : Int32)) (by decide) ?_
    obtain ⟨cl52, Ar52, q52, S52, M52, H52, G52⟩ := id f_V_b41
    have hin52 : ¬ ((1 : Int32) < 0 ∨ cl52.slots.size ≤ ((1 : Int32)).toNatClampNeg) := inb_of S52 ⟨by decide, by decide⟩
    have hat52 : cl52.slots[((1 : Int32)).toNatClampNeg]? = some (.int (p2.toInt8.toInt32)) := H52.at hin52 rfl
    refine own_baload X49 hx hZ hby rfl Ar52 hin52 hat52 at_100 (pc' := 101) rfl ?_
    refine own_iload X49 hx hby at_101 (pc' := 103) rfl rfl ?_
    refine own_icY X49 hx hby at_103 (pc' := 108) (by decide) (by decide) (show (p2.toInt8.toInt32) = (p2.toInt8.toInt32) from rfl) ?_
    refine own_iload X49 hx hby at_108 (pc' := 110) rfl rfl ?_
    refine own_iconst X49 hx hby at_110 (pc' := 111) rfl (n := (2 : Int32)) (by decide) ?_
    refine own_icN X49 hx hby at_111 (pc' := 114) rfl (show (2 : Int32) < (3 : Int32) by decide) ?_
    refine own_aload X49 hx hby at_114 (pc' := 116) rfl rfl rfl ?_
    refine own_iconst X49 hx hby at_116 (pc' := 117) rfl (n := (2 : Int32)) (by decide) ?_
    obtain ⟨cl53, Ar53, q53, S53, M53, H53, G53⟩ := id f_V_b41
    have hin53 : ¬ ((2 : Int32) < 0 ∨ cl53.slots.size ≤ ((2 : Int32)).toNatClampNeg) := inb_of S53 ⟨by decide, by decide⟩
    have hat53 : cl53.slots[((2 : Int32)).toNatClampNeg]? = some (.int (p3.toInt8.toInt32)) := H53.at hin53 rfl
    refine own_baload X49 hx hZ hby rfl Ar53 hin53 hat53 at_117 (pc' := 118) rfl ?_
    refine own_iload X49 hx hby at_118 (pc' := 120) rfl rfl ?_
    refine own_icY X49 hx hby at_120 (pc' := 125) (by decide) (by decide) (show (p3.toInt8.toInt32) = (p3.toInt8.toInt32) from rfl) ?_
    refine own_iload X49 hx hby at_125 (pc' := 127) rfl rfl ?_
    refine own_ifN X49 hx hby at_127 (pc' := 130) rfl (show (0 : Int32) < (3 : Int32) by decide) ?_
    refine own_aload X49 hx hby at_130 (pc' := 132) rfl rfl rfl ?_
    refine own_iconst X49 hx hby at_132 (pc' := 133) rfl (n := (0 : Int32)) (by decide) ?_
    refine own_iload X49 hx hby at_133 (pc' := 135) rfl rfl ?_
    refine own_iconst X49 hx hby at_135 (pc' := 136) rfl (n := (-1 : Int32)) (by decide) ?_
    refine own_ixor X49 hx hby at_136 (pc' := 137) rfl ?_
    refine own_i2b X49 hx hby at_137 (pc' := 138) rfl ?_
    obtain ⟨cl54, Ar54, q54, S54, M54, H54, G54⟩ := id f_V_b41
    have hin54 : ¬ ((0 : Int32) < 0 ∨ cl54.slots.size ≤ ((0 : Int32)).toNatClampNeg) := inb_of S54 ⟨by decide, by decide⟩
    refine own_bastore X49 hx hZ hby rfl Ar54 hin54 at_138 (pc' := 139) rfl (fun T55 h55 X55 e55 W55 => ?_)
    have f_V_b41 := Arv.set Ar54 q54 S54 M54 H54 G54 (fits_nar_byte _) W55 0 rfl (Nat.le_of_ble_eq_true rfl)
    have f_V_b41 : Arv Z h55 b41 k41 .byte (3 : Int32) [(.int ((((p1.toInt8.toInt32) ^^^ (-1 : Int32)).toInt8.toInt32).toInt8.toInt32)), (.int (p2.toInt8.toInt32)), (.int (p3.toInt8.toInt32))] (.int (0 : Int32)) := f_V_b41
    rw [own_b8 ((p1.toInt8.toInt32) ^^^ (-1 : Int32))] at f_V_b41
    have Ex41 := Ex41.wr W55
    have O49 := O49.other W55 (Ne.symm ne_b41_oa48)
    have V49 := V49.other W55 (Ne.symm ne_b41_ow48)
    have Zn := Nat.le_trans Zn (Keep.of_wr W55).1
    have N55 := Fr.snoc X55 N49 ge_b41
    refine own_iload X55 hx hby at_139 (pc' := 141) rfl rfl ?_
    refine own_iconst X55 hx hby at_141 (pc' := 142) rfl (n := (1 : Int32)) (by decide) ?_
    refine own_icN X55 hx hby at_142 (pc' := 145) rfl (show (1 : Int32) < (3 : Int32) by decide) ?_
    refine own_aload X55 hx hby at_145 (pc' := 147) rfl rfl rfl ?_
    refine own_iconst X55 hx hby at_147 (pc' := 148) rfl (n := (1 : Int32)) (by decide) ?_
    refine own_iload X55 hx hby at_148 (pc' := 150) rfl rfl ?_
    refine own_iconst X55 hx hby at_150 (pc' := 151) rfl (n := (-1 : Int32)) (by decide) ?_
    refine own_ixor X55 hx hby at_151 (pc' := 152) rfl ?_
    refine own_i2b X55 hx hby at_152 (pc' := 153) rfl ?_
    obtain ⟨cl56, Ar56, q56, S56, M56, H56, G56⟩ := id f_V_b41
    have hin56 : ¬ ((1 : Int32) < 0 ∨ cl56.slots.size ≤ ((1 : Int32)).toNatClampNeg) := inb_of S56 ⟨by decide, by decide⟩
    refine own_bastore X55 hx hZ hby e55 Ar56 hin56 at_153 (pc' := 154) rfl (fun T57 h57 X57 e57 W57 => ?_)
    have f_V_b41 := Arv.set Ar56 q56 S56 M56 H56 G56 (fits_nar_byte _) W57 1 rfl (Nat.le_of_ble_eq_true rfl)
    have f_V_b41 : Arv Z h57 b41 k41 .byte (3 : Int32) [(.int (((p1.toInt8.toInt32) ^^^ (-1 : Int32)).toInt8.toInt32)), (.int ((((p2.toInt8.toInt32) ^^^ (-1 : Int32)).toInt8.toInt32).toInt8.toInt32)), (.int (p3.toInt8.toInt32))] (.int (0 : Int32)) := f_V_b41
    rw [own_b8 ((p2.toInt8.toInt32) ^^^ (-1 : Int32))] at f_V_b41
    have Ex41 := Ex41.wr W57
    have O49 := O49.other W57 (Ne.symm ne_b41_oa48)
    have V49 := V49.other W57 (Ne.symm ne_b41_ow48)
    have Zn := Nat.le_trans Zn (Keep.of_wr W57).1
    have N57 := Fr.snoc X57 N55 ge_b41
    refine own_iload X57 hx hby at_154 (pc' := 156) rfl rfl ?_
    refine own_iconst X57 hx hby at_156 (pc' := 157) rfl (n := (2 : Int32)) (by decide) ?_
    refine own_icN X57 hx hby at_157 (pc' := 160) rfl (show (2 : Int32) < (3 : Int32) by decide) ?_
    refine own_aload X57 hx hby at_160 (pc' := 162) rfl rfl rfl ?_
    refine own_iconst X57 hx hby at_162 (pc' := 163) rfl (n := (2 : Int32)) (by decide) ?_
    refine own_iload X57 hx hby at_163 (pc' := 165) rfl rfl ?_
    refine own_iconst X57 hx hby at_165 (pc' := 166) rfl (n := (-1 : Int32)) (by decide) ?_
    refine own_ixor X57 hx hby at_166 (pc' := 167) rfl ?_
    refine own_i2b X57 hx hby at_167 (pc' := 168) rfl ?_
    obtain ⟨cl58, Ar58, q58, S58, M58, H58, G58⟩ := id f_V_b41
    have hin58 : ¬ ((2 : Int32) < 0 ∨ cl58.slots.size ≤ ((2 : Int32)).toNatClampNeg) := inb_of S58 ⟨by decide, by decide⟩
    refine own_bastore X57 hx hZ hby e57 Ar58 hin58 at_168 (pc' := 169) rfl (fun T59 h59 X59 e59 W59 => ?_)
    have f_V_b41 := Arv.set Ar58 q58 S58 M58 H58 G58 (fits_nar_byte _) W59 2 rfl (Nat.le_of_ble_eq_true rfl)
    have f_V_b41 : Arv Z h59 b41 k41 .byte (3 : Int32) [(.int (((p1.toInt8.toInt32) ^^^ (-1 : Int32)).toInt8.toInt32)), (.int (((p2.toInt8.toInt32) ^^^ (-1 : Int32)).toInt8.toInt32)), (.int ((((p3.toInt8.toInt32) ^^^ (-1 : Int32)).toInt8.toInt32).toInt8.toInt32))] (.int (0 : Int32)) := f_V_b41
    rw [own_b8 ((p3.toInt8.toInt32) ^^^ (-1 : Int32))] at f_V_b41
    have Ex41 := Ex41.wr W59
    have O49 := O49.other W59 (Ne.symm ne_b41_oa48)
    have V49 := V49.other W59 (Ne.symm ne_b41_ow48)
    have Zn := Nat.le_trans Zn (Keep.of_wr W59).1
    have N59 := Fr.snoc X59 N57 ge_b41
    refine own_aload X59 hx hby at_169 (pc' := 171) rfl rfl rfl ?_
    refine own_lk2 hw X59 hx hZ hby (by rw [hml]; rfl) hown at_171 (pc' := 174) rfl e59 O49.1 (W := 0) (Nat.le_of_eq rfl) (rm4 l Z a0 hw [] oa48 ow48 k41 (3 : Int32) [(.int (p1.toInt8.toInt32)), (.int (p2.toInt8.toInt32)), (.int (p3.toInt8.toInt32))] h59 n0 Zn O49 V49) (by decide) (by decide) (by decide) (by decide) (fun v60 T60 L60 X60 hQ60 => ?_)
    obtain ⟨rfl, Nq60, e60⟩ := hQ60
    have N60 := Fr.app N59 Nq60
    show own_End p e below _ (T60.setTop (mkF m 174 _ [(.int (3 : Int32))]))
    refine own_iload X60 hx hby at_174 (pc' := 176) rfl rfl ?_
    refine own_icY X60 hx hby at_176 (pc' := 181) (by decide) (by decide) (show (3 : Int32) = (3 : Int32) by decide) ?_
    refine own_aload X60 hx hby at_181 (pc' := 183) rfl rfl rfl ?_
    refine own_lk3 hw X60 hx hZ hby (by rw [hml]; rfl) hown at_183 (pc' := 186) rfl e60 O49.1 (W := 0) (Nat.le_of_eq rfl) (rm5 l Z a0 hw [] oa48 ow48 h59 n0 Zn O49) (by decide) (by decide) (by decide) (by decide) (fun v61 T61 L61 X61 hQ61 => ?_)
    obtain ⟨rfl, Nq61, e61⟩ := hQ61
    have N61 := Fr.app N60 Nq61
    show own_End p e below _ (T61.setTop (mkF m 186 _ [(.ref ow48)]))
    refine own_astore X61 hx hby at_186 (pc' := 188) rfl rfl (l' := #[.val (.int p0), .val (.int p1), .val (.int p2), .val (.int p3), .val (.int (3 : Int32)), .val (.int (p1.toInt8.toInt32)), .val (.int (p2.toInt8.toInt32)), .val (.int (p3.toInt8.toInt32)), .val (.ref b41), .val (.ref oa48), .val (.ref ow48)]) rfl ?_
    refine own_aload X61 hx hby at_188 (pc' := 190) rfl rfl rfl ?_
    obtain ⟨cl62, Ar62, q62, S62, M62, H62, G62⟩ := id V49
    refine own_alen X61 hx hZ hby e61 Ar62 S62 M62 at_190 (pc' := 191) rfl ?_
    refine own_iload X61 hx hby at_191 (pc' := 193) rfl rfl ?_
    refine own_icY X61 hx hby at_193 (pc' := 198) (by decide) (by decide) (show (3 : Int32) = (3 : Int32) by decide) ?_
    refine own_iload X61 hx hby at_198 (pc' := 200) rfl rfl ?_
    refine own_ifN X61 hx hby at_200 (pc' := 203) rfl (show (0 : Int32) < (3 : Int32) by decide) ?_
    refine own_aload X61 hx hby at_203 (pc' := 205) rfl rfl rfl ?_
    refine own_iconst X61 hx hby at_205 (pc' := 206) rfl (n := (0 : Int32)) (by decide) ?_
    obtain ⟨cl63, Ar63, q63, S63, M63, H63, G63⟩ := id V49
    have hin63 : ¬ ((0 : Int32) < 0 ∨ cl63.slots.size ≤ ((0 : Int32)).toNatClampNeg) := inb_of S63 ⟨by decide, by decide⟩
    have hat63 : cl63.slots[((0 : Int32)).toNatClampNeg]? = some (.int (p1.toInt8.toInt32)) := H63.at hin63 rfl
    refine own_baload X61 hx hZ hby e61 Ar63 hin63 hat63 at_206 (pc' := 207) rfl ?_
    refine own_iload X61 hx hby at_207 (pc' := 209) rfl rfl ?_
    refine own_icY X61 hx hby at_209 (pc' := 214) (by decide) (by decide) (show (p1.toInt8.toInt32) = (p1.toInt8.toInt32) from rfl) ?_
    refine own_iload X61 hx hby at_214 (pc' := 216) rfl rfl ?_
    refine own_iconst X61 hx hby at_216 (pc' := 217) rfl (n := (1 : Int32)) (by decide) ?_
    refine own_icN X61 hx hby at_217 (pc' := 220) rfl (show (1 : Int32) < (3 : Int32) by decide) ?_
    refine own_aload X61 hx hby at_220 (pc' := 222) rfl rfl rfl ?_
    refine own_iconst X61 hx hby at_222 (pc' := 223) rfl (n := (1 : Int32)) (by decide) ?_
    obtain ⟨cl64, Ar64, q64, S64, M64, H64, G64⟩ := id V49
    have hin64 : ¬ ((1 : Int32) < 0 ∨ cl64.slots.size ≤ ((1 : Int32)).toNatClampNeg) := inb_of S64 ⟨by decide, by decide⟩
    have hat64 : cl64.slots[((1 : Int32)).toNatClampNeg]? = some (.int (p2.toInt8.toInt32)) := H64.at hin64 rfl
    refine own_baload X61 hx hZ hby e61 Ar64 hin64 hat64 at_223 (pc' := 224) rfl ?_
    refine own_iload X61 hx hby at_224 (pc' := 226) rfl rfl ?_
    refine own_icY X61 hx hby at_226 (pc' := 231) (by decide) (by decide) (show (p2.toInt8.toInt32) = (p2.toInt8.toInt32) from rfl) ?_
    refine own_iload X61 hx hby at_231 (pc' := 233) rfl rfl ?_
    refine own_iconst X61 hx hby at_233 (pc' := 234) rfl (n := (2 : Int32)) (by decide) ?_
    refine own_icN X61 hx hby at_234 (pc' := 237) rfl (show (2 : Int32) < (3 : Int32) by decide) ?_
    refine own_aload X61 hx hby at_237 (pc' := 239) rfl rfl rfl ?_
    refine own_iconst X61 hx hby at_239 (pc' := 240) rfl (n := (2 : Int32)) (by decide) ?_
    obtain ⟨cl65, Ar65, q65, S65, M65, H65, G65⟩ := id V49
    have hin65 : ¬ ((2 : Int32) < 0 ∨ cl65.slots.size ≤ ((2 : Int32)).toNatClampNeg) := inb_of S65 ⟨by decide, by decide⟩
    have hat65 : cl65.slots[((2 : Int32)).toNatClampNeg]? = some (.int (p3.toInt8.toInt32)) := H65.at hin65 rfl
    refine own_baload X61 hx hZ hby e61 Ar65 hin65 hat65 at_240 (pc' := 241) rfl ?_
    refine own_iload X61 hx hby at_241 (pc' := 243) rfl rfl ?_
    refine own_icY X61 hx hby at_243 (pc' := 248) (by decide) (by decide) (show (p3.toInt8.toInt32) = (p3.toInt8.toInt32) from rfl) ?_
    refine own_iconst X61 hx hby at_248 (pc' := 249) rfl (n := (1 : Int32)) (by decide) ?_
    refine own_zreturn X61 hx hlk hby hret (Or.inr rfl) at_249 (own_lv ?_ (by decide) (by decide))
    show Q0 Z p0 p1 p2 p3  h0 n0 (some (.int (1 : Int32))) T61.heap _
    rw [e61]
    exact ⟨rfl, N61⟩
set_option maxRecDepth 65536 in
set_option maxHeartbeats 40000000 in
theorem comes_1 {Post : Tables → Env → Array Value → State → Outcome → State → Prop} (hpost : ∀ tb e args s v u, (limb_1_1.after args s (.returned v) u = true ∧ limb_1_2.after args s (.returned v) u = true ∧ True) → FrameEnd s (.returned v) u (Jvm.fieldLocs frame_1_writes args s ++ Jvm.arrayLocs frame_1_arrays args s ++ Jvm.staticLocs frame_1_statics s) 16 128 → Post tb e args s (.returned v) u) :
    ArmFor flags0 classFile x code maxLocals ret World_1 tables_1 room_1 Calls_1 rest_1 Pre_1 Post := by
  intro l hfl _ _ p e ha hc hk s m args below hf hA hF happ hP
  obtain ⟨hcalls, hrest, hpre⟩ := hP
  obtain ⟨-, -, -, hnamed, -, -, -, hat⟩ := (Spec.applies_iff hf).mp happ
  obtain ⟨hg, hn⟩ := and_e (Cond.before_iff.mp (show (Jvm.Cond.and given_1 narrow_1).before args s = true from hpre))
  obtain ⟨g1, g2⟩ := and_e hg
  obtain ⟨g3, g4⟩ := and_e g2
  obtain ⟨g5, g6⟩ := and_e g4
  obtain ⟨g7, g8⟩ := and_e g6
  obtain ⟨w0, w1, w2, w3, rfl⟩ : ∃ w0 w1 w2 w3 : Value, args = #[w0, w1, w2, w3] := by
    have hs : args.size = 4 := by simpa [Cond.value, given_1] using g1
    obtain ⟨L⟩ := args
    match L, hs with
    | [w0, w1, w2, w3], _ => exact ⟨w0, w1, w2, w3, rfl⟩
  have hw := fun d (hd : d ∈ tables_1) => atoms_spec (ws := Jvm.Cond.code x code maxLocals ret :: tables_1) hat d (List.mem_cons_of_mem _ hd)
  have hfit : Fit s := fun {y c} hc i hi => by
    obtain ⟨ha, rfl⟩ := Array.getElem?_eq_some_iff.mp hc
    have q := List.all_eq_true.mp ((Array.all_eq_true_iff_forall_mem.mp hF) _ (Array.getElem_mem ha)) i (List.mem_range.mpr hi)
    simpa [Array.getElem?_eq_getElem hi] using q
  obtain ⟨i0, ei0⟩ := is_v g3
  obtain rfl : w0 = (.int i0) := Option.some.inj ei0
  obtain ⟨i1, ei1⟩ := is_v g5
  obtain rfl : w1 = (.int i1) := Option.some.inj ei1
  obtain ⟨i2, ei2⟩ := is_v g7
  obtain rfl : w2 = (.int i2) := Option.some.inj ei2
  obtain ⟨i3, ei3⟩ := is_v g8
  obtain rfl : w3 = (.int i3) := Option.some.inj ei3
  obtain ⟨n, o, h1, h2, h3, _, L, rfl, ⟨rfl, N⟩, hq⟩ := rm0 l s _ hw tables_1 i0 i1 i2 i3 s.heap s.heap.size (Nat.le_refl _)  p e ha hc hk s m _ below hf ((Spec.applies_iff_loose hf).mp happ).1 ⟨rfl, State.Warmed39.refl s, rfl⟩ trivial
  refine ⟨n, _, h1, h2, h3, hpost _ _ _ _ _ _ ⟨Cond.after_iff.mpr rfl, Cond.after_iff.mpr (eq_i res_at (Term.int_eval (1)) rfl), trivial⟩ ⟨hq.1, hq.2.1, (hq.2.2.sift fun y hy => Or.inr (N y hy)).mono (by decide) (by decide)⟩⟩
theorem main_1_1 : Claimed_1_1 := comes_1 fun _ _ _ _ _ _ h hF => ⟨h.1, hF⟩
theorem main_1_2 : Claimed_1_2 := comes_1 fun _ _ _ _ _ _ h hF => ⟨h.2.1, hF⟩
end Jvm.Pilot.@@N@@
namespace Jvm.Pilot.@@N@@
open Jvm Jvm.ClassFile Sem Op Lib Jvm.Free Jvm.Stand Jvm.Pilot.@@N@@.Jvm.D
/-! MADE BY PROGRAM (witnessworld.py) out of the Statement's table words and the real class files: 9 classes; the members and pool entries that the words name. The judged class is class 1, her method 1. -/
namespace start1
open Jvm.ClassFile
def u (s : String) : CpInfo := .utf8 (stringToUtf16 s)
/-- a pool by its gaps: so many unusable entries, then the entry; so many at the end -/
def gap : Nat → List CpInfo → List CpInfo
  | 0, r => r
  | n + 1, r => .unusable :: gap n r
def poolList (es : List (Nat × CpInfo)) (last : Nat) : List CpInfo := es.foldr (fun e r => gap e.1 (e.2 :: r)) (gap last [])
def pool (es : List (Nat × CpInfo)) (last : Nat) : Array CpInfo := ⟨poolList es last⟩
def fileOf (pool : Array CpInfo) (this : Nat) (attrs : Array Attribute := #[]) (ms : Array MethodInfo := #[]) (fl : Nat := 33) (sup : Nat := 0) (ifs : Array Nat := #[]) (fds : Array FieldInfo := #[]) : ClassFile where
  minorVersion := 0
  majorVersion := 65
  constantPool := pool
  accessFlags := fl
  thisClass := this
  superClass := sup
  interfaces := ifs
  fields := fds
  methods := ms
  attributes := attrs
def plain (name : String) (sup : Option ClassId) : Class where
  name := name
  kind := .ordinary
  loader := none
  accessFlags := 33
  super := sup
  interfaces := #[]
  cf := none
  fields := #[]
  methods := #[]
  instanceTypes := #[]
  staticTypes := #[]
  resolved := #[]
  callSites := []
  init := .initialized
  statics := none
  mirror := none

def pool0 : Array CpInfo := pool [(5, u "<init>"), (0, u "()V"), (1, .class_ 10), (1, u "java/lang/Object"), (85, u "clone"), (0, u "()Ljava/lang/Object;")] 26

def k0c0 : Code := { maxStack := 0, maxLocals := 1, code := object_method_1_code, exceptionTable := #[], attributes := #[] }
def k0m0 : Method := { name := "<init>", desc := "()V", sig := { parameters := [], returnType := none }, accessFlags := 1, code := some k0c0 }
def k0m1 : Method := { name := "clone", desc := "()Ljava/lang/Object;", sig := { parameters := [], returnType := some (.object "java/lang/Object") }, accessFlags := 260, code := none }
/-- java/lang/Object -/
def k0 : Class := { plain "java/lang/Object" none with
  accessFlags := 33
  interfaces := #[]
  cf := some (fileOf pool0 8 #[] #[{ accessFlags := 1, nameIndex := 5, descriptorIndex := 6, attributes := #[] }, { accessFlags := 260, nameIndex := 96, descriptorIndex := 97, attributes := #[] }] 33 0 #[] #[])
  fields := #[]
  methods := #[k0m0, k0m1]
  instanceTypes := #[]
  staticTypes := #[]
  resolved := Array.replicate 124 none
  statics := none }

def pool1 : Array CpInfo := pool [(2, .class_ 4), (1, u "java/lang/Object"), (0, u "<init>"), (0, u "()V"), (0, .methodref 8 9), (0, .class_ 10), (0, .nameAndType 11 12), (0, u "com/example/hermod/hermod/xrap/ContentBody"), (0, u "of"), (0, u "([B)Lcom/example/hermod/hermod/xrap/ContentBody;"), (0, .methodref 8 14), (0, .nameAndType 15 16), (0, u "length"), (0, u "()I"), (0, .methodref 8 18), (0, .nameAndType 19 20), (0, u "octets"), (0, u "()[B"), (0, .class_ 22), (0, u "com/example/hermod/hermod/xrap/ContentBodyOfPinLaw"), (2, u "law"), (0, u "(IIII)Z")] 5

def k1m0 : Method := { name := "<init>", desc := "()V", sig := { parameters := [], returnType := none }, accessFlags := 1, code := none }
def k1c1 : Code := { maxStack := 4, maxLocals := 11, code := code, exceptionTable := #[], attributes := #[] }
def k1m1 : Method := { name := "law", desc := "(IIII)Z", sig := { parameters := [.int, .int, .int, .int], returnType := some .boolean }, accessFlags := 9, code := some k1c1 }
/-- com/example/hermod/hermod/xrap/ContentBodyOfPinLaw -/
def k1 : Class := { plain "com/example/hermod/hermod/xrap/ContentBodyOfPinLaw" (some 0) with
  accessFlags := 49
  interfaces := #[]
  cf := some (fileOf pool1 21 #[] #[{ accessFlags := 1, nameIndex := 5, descriptorIndex := 6, attributes := #[] }, { accessFlags := 9, nameIndex := 25, descriptorIndex := 26, attributes := #[] }] 49 2 #[] #[])
  fields := #[]
  methods := #[k1m0, k1m1]
  instanceTypes := #[]
  staticTypes := #[]
  resolved := Array.replicate 32 none
  statics := none }

def pool2 : Array CpInfo := pool [(1, .methodref 2 3), (0, .class_ 4), (0, .nameAndType 5 6), (0, u "java/lang/Object"), (0, u "<init>"), (0, u "()V"), (0, .fieldref 8 9), (0, .class_ 10), (0, .nameAndType 11 12), (0, u "com/example/hermod/hermod/xrap/ContentBody"), (0, u "octets"), (0, u "[B"), (0, .methodref 14 15), (0, .class_ 12), (0, .nameAndType 16 17), (0, u "clone"), (0, u "()Ljava/lang/Object;"), (0, .methodref 8 19), (0, .nameAndType 5 20), (0, u "([B)V"), (19, u "of"), (0, u "([B)Lcom/example/hermod/hermod/xrap/ContentBody;"), (1, u "length"), (0, u "()I"), (1, u "()[B")] 23

def k2c0 : Code := { maxStack := 2, maxLocals := 2, code := prog_10_method_1_code, exceptionTable := #[], attributes := #[] }
def k2m0 : Method := { name := "<init>", desc := "([B)V", sig := { parameters := [(.array .byte)], returnType := none }, accessFlags := 2, code := some k2c0 }
def k2c1 : Code := { maxStack := 3, maxLocals := 1, code := prog_10_method_2_code, exceptionTable := #[], attributes := #[] }
def k2m1 : Method := { name := "of", desc := "([B)Lcom/example/hermod/hermod/xrap/ContentBody;", sig := { parameters := [(.array .byte)], returnType := some (.object "com/example/hermod/hermod/xrap/ContentBody") }, accessFlags := 9, code := some k2c1 }
def k2c2 : Code := { maxStack := 1, maxLocals := 1, code := prog_10_method_4_code, exceptionTable := #[], attributes := #[] }
def k2m2 : Method := { name := "length", desc := "()I", sig := { parameters := [], returnType := some .int }, accessFlags := 1, code := some k2c2 }
def k2c3 : Code := { maxStack := 1, maxLocals := 1, code := prog_10_method_7_code, exceptionTable := #[], attributes := #[] }
def k2m3 : Method := { name := "octets", desc := "()[B", sig := { parameters := [], returnType := some (.array .byte) }, accessFlags := 0, code := some k2c3 }
/-- com/example/hermod/hermod/xrap/ContentBody -/
def k2 : Class := { plain "com/example/hermod/hermod/xrap/ContentBody" (some 0) with
  accessFlags := 49
  interfaces := #[]
  cf := some (fileOf pool2 8 #[] #[{ accessFlags := 2, nameIndex := 5, descriptorIndex := 20, attributes := #[] }, { accessFlags := 9, nameIndex := 40, descriptorIndex := 41, attributes := #[] }, { accessFlags := 1, nameIndex := 43, descriptorIndex := 44, attributes := #[] }, { accessFlags := 0, nameIndex := 11, descriptorIndex := 46, attributes := #[] }] 49 2 #[] #[{ accessFlags := 18, nameIndex := 11, descriptorIndex := 12, attributes := #[] }])
  fields := #[{ name := "octets", type := (.array .byte), accessFlags := 18, slot := 0, constantValue := 0 }]
  methods := #[k2m0, k2m1, k2m2, k2m3]
  instanceTypes := #[(.array .byte)]
  staticTypes := #[]
  resolved := Array.replicate 70 none
  statics := none }

def pool3 : Array CpInfo := pool [(1, .class_ 2), (0, u "java/lang/Cloneable"), (0, .class_ 4), (0, u "java/lang/Object")] 2

/-- java/lang/Cloneable -/
def k3 : Class := { plain "java/lang/Cloneable" (some 0) with
  accessFlags := 1537
  interfaces := #[]
  cf := some (fileOf pool3 1 #[] #[] 1537 3 #[] #[])
  fields := #[]
  methods := #[]
  instanceTypes := #[]
  staticTypes := #[]
  resolved := Array.replicate 7 none
  statics := none }

def pool4 : Array CpInfo := pool [(1, u "java/io/Serializable"), (0, .class_ 1), (0, u "java/lang/Object"), (0, .class_ 3)] 3

/-- java/io/Serializable -/
def k4 : Class := { plain "java/io/Serializable" (some 0) with
  accessFlags := 1537
  interfaces := #[]
  cf := some (fileOf pool4 2 #[] #[] 1537 4 #[] #[])
  fields := #[]
  methods := #[]
  instanceTypes := #[]
  staticTypes := #[]
  resolved := Array.replicate 8 none
  statics := none }

/-- the primitive byte -/
def k5 : Class := { plain "byte" none with kind := .primitive 'B', accessFlags := 0x411 }
/-- [B -/
def k6 : Class := { plain "[B" (some 0) with kind := .array 5 .byte, interfaces := #[3, 4], accessFlags := 1041 }

/-- the primitive int -/
def k7 : Class := { plain "int" none with kind := .primitive 'I', accessFlags := 0x411 }
/-- [I -/
def k8 : Class := { plain "[I" (some 0) with kind := .array 7 .int, interfaces := #[3, 4], accessFlags := 1041 }

def heap : Heap := #[]
def classes : Array Class := #[k0, k1, k2, k3, k4, k5, k6, k7, k8]
def interned : List (Array UInt16 × Addr) := []
def slotsUsed : Nat := 0
def theMethod : MethodId := ⟨1, 1⟩
def args0 : Array Value := #[.int 5, .int 5, .int 5, .int 5]
def aboutOver (below : List Frame) : State where
  vm := { classes := classes, interned := interned.toArray }
  heap := heap
  slotsUsed := slotsUsed
  threads := #[{ frames := .invoking theMethod args0 :: below }]
def below0 : List Frame := [.native { method := ⟨0, 0⟩, args := #[] }]
def about1 : State := aboutOver below0
def p0 : Program := .bare "" "" ""
def e0 : Env := launch0.env 0 0 0
theorem w_frames : about1.frames = Frame.invoking theMethod args0 :: below0 := rfl
set_option maxRecDepth 65536 in
theorem w_args : argsFit about1.vm theMethod args0 = true := by decide +kernel
set_option maxRecDepth 65536 in
theorem w_heap : heapFits about1 = true := by decide +kernel
set_option maxRecDepth 65536 in
theorem w_runnable : about1.curStatus? = some .runnable := by decide +kernel
set_option maxRecDepth 65536 in
theorem w_alone : about1.alone = true := by decide +kernel
set_option maxRecDepth 65536 in
theorem w_named : about1.methodNamed? x = some theMethod := by decide +kernel
set_option maxRecDepth 65536 in
theorem w_hears : about1.hears theMethod below0 = true := by decide +kernel
set_option maxRecDepth 65536 in
theorem w_ripe : about1.ripe theMethod args0 below0 = true := by decide +kernel
theorem w_running : about1.status = .running := rfl
set_option maxRecDepth 65536 in
theorem w_room : about1.hasRoom e0.platform room_1 = true :=
  launch0.hasRoom_least _ room_1 (by decide +kernel) (by decide +kernel) (by decide +kernel) (by decide +kernel) (by decide +kernel) (by decide +kernel)
theorem allAtoms_all (ts : List Jvm.Cond) (a : Array Jvm.Value) (st : Jvm.State) : (allAtoms ts).before a st = ts.all (fun c => c.before a st) := by
  induction ts with
  | nil => rfl
  | cons c t ih =>
    show (Jvm.Cond.and c (allAtoms t)).before a st = _
    rw [Jvm.Cond.before_and, ih, List.all_cons]
def words1 : List Jvm.Cond := Jvm.Cond.code x code maxLocals ret :: tables_1
/-- a 'code' word, met by the world's own term for the bytes: nothing is compared byte by byte -/
theorem code_word {y : MethodName} {bytes : ByteArray} {mx : Nat} {rt : Option FieldType} {a : Array Value} {s : State} {m : MethodId} {meth : Method} {c : Code} (h1 : s.methodNamed? y = some m) (h2 : s.vm.method? m = some meth) (h3 : meth.code = some c) (h4 : c.code = bytes)
    (h5 : (c.maxLocals == mx && c.exceptionTable.isEmpty && decide (c.maxStack ≤ mostOperands) && decide (meth.sig.returnType = rt) && !meth.locks && decide (parseMethodDescriptor y.desc = some meth.sig)) = true) : (Jvm.Cond.code y bytes mx rt).before a s = true := by
  simp only [Bool.and_eq_true, beq_iff_eq, Bool.not_eq_true', decide_eq_true_eq] at h5
  obtain ⟨⟨⟨⟨⟨g1, g2⟩, g3⟩, g4⟩, g5⟩, g6⟩ := h5
  simp [Cond.before, Cond.holds, Cond.value, h1, h2, h3, h4, g1, g2, g3, g4, g5, g6]
def isCode : Jvm.Cond → Bool
  | .code _ _ _ _ => true
  | _ => false
theorem all_split {L : List Jvm.Cond} {P : Jvm.Cond → Bool} (h1 : L.all (fun c => isCode c || P c) = true) (h2 : ∀ c ∈ L.filter isCode, P c = true) : L.all P = true := by
  refine List.all_eq_true.mpr fun c hc => ?_
  have h := List.all_eq_true.mp h1 c hc
  rcases Bool.eq_false_or_eq_true (isCode c) with hi | hi
  · exact h2 c (List.mem_filter.mpr ⟨hc, hi⟩)
  · simpa [hi] using h
set_option maxRecDepth 65536 in
theorem w_c0 : (Jvm.Cond.code x code maxLocals ret).before args0 about1 = true := code_word (m := ⟨1, 1⟩) (meth := k1m1) (c := k1c1) (by decide +kernel) rfl rfl rfl (by decide +kernel)
set_option maxRecDepth 65536 in
theorem w_c1 : (Jvm.Cond.code ({ cls := "com/example/hermod/hermod/xrap/ContentBody", name := "of", desc := "([B)Lcom/example/hermod/hermod/xrap/ContentBody;" } : Jvm.MethodName) prog_10_method_2_code (1 : Nat) (Option.some (Jvm.ClassFile.FieldType.object "com/example/hermod/hermod/xrap/ContentBody"))).before args0 about1 = true := code_word (m := ⟨2, 1⟩) (meth := k2m1) (c := k2c1) (by decide +kernel) rfl rfl rfl (by decide +kernel)
set_option maxRecDepth 65536 in
theorem w_c2 : (Jvm.Cond.code ({ cls := "com/example/hermod/hermod/xrap/ContentBody", name := "<init>", desc := "([B)V" } : Jvm.MethodName) prog_10_method_1_code (2 : Nat) (Option.none : Option Jvm.ClassFile.FieldType)).before args0 about1 = true := code_word (m := ⟨2, 0⟩) (meth := k2m0) (c := k2c0) (by decide +kernel) rfl rfl rfl (by decide +kernel)
set_option maxRecDepth 65536 in
theorem w_c3 : (Jvm.Cond.code ({ cls := "java/lang/Object", name := "<init>", desc := "()V" } : Jvm.MethodName) object_method_1_code (1 : Nat) (Option.none : Option Jvm.ClassFile.FieldType)).before args0 about1 = true := code_word (m := ⟨0, 0⟩) (meth := k0m0) (c := k0c0) (by decide +kernel) rfl rfl rfl (by decide +kernel)
set_option maxRecDepth 65536 in
theorem w_c4 : (Jvm.Cond.code ({ cls := "com/example/hermod/hermod/xrap/ContentBody", name := "length", desc := "()I" } : Jvm.MethodName) prog_10_method_4_code (1 : Nat) (Option.some Jvm.ClassFile.FieldType.int)).before args0 about1 = true := code_word (m := ⟨2, 2⟩) (meth := k2m2) (c := k2c2) (by decide +kernel) rfl rfl rfl (by decide +kernel)
set_option maxRecDepth 65536 in
theorem w_c5 : (Jvm.Cond.code ({ cls := "com/example/hermod/hermod/xrap/ContentBody", name := "octets", desc := "()[B" } : Jvm.MethodName) prog_10_method_7_code (1 : Nat) (Option.some (Jvm.ClassFile.FieldType.array Jvm.ClassFile.FieldType.byte))).before args0 about1 = true := code_word (m := ⟨2, 3⟩) (meth := k2m3) (c := k2c3) (by decide +kernel) rfl rfl rfl (by decide +kernel)
def codes1 : List Jvm.Cond := [Jvm.Cond.code x code maxLocals ret, Jvm.Cond.code ({ cls := "com/example/hermod/hermod/xrap/ContentBody", name := "of", desc := "([B)Lcom/example/hermod/hermod/xrap/ContentBody;" } : Jvm.MethodName) prog_10_method_2_code (1 : Nat) (Option.some (Jvm.ClassFile.FieldType.object "com/example/hermod/hermod/xrap/ContentBody")), Jvm.Cond.code ({ cls := "com/example/hermod/hermod/xrap/ContentBody", name := "<init>", desc := "([B)V" } : Jvm.MethodName) prog_10_method_1_code (2 : Nat) (Option.none : Option Jvm.ClassFile.FieldType), Jvm.Cond.code ({ cls := "java/lang/Object", name := "<init>", desc := "()V" } : Jvm.MethodName) object_method_1_code (1 : Nat) (Option.none : Option Jvm.ClassFile.FieldType), Jvm.Cond.code ({ cls := "com/example/hermod/hermod/xrap/ContentBody", name := "length", desc := "()I" } : Jvm.MethodName) prog_10_method_4_code (1 : Nat) (Option.some Jvm.ClassFile.FieldType.int), Jvm.Cond.code ({ cls := "com/example/hermod/hermod/xrap/ContentBody", name := "octets", desc := "()[B" } : Jvm.MethodName) prog_10_method_7_code (1 : Nat) (Option.some (Jvm.ClassFile.FieldType.array Jvm.ClassFile.FieldType.byte))]
set_option maxRecDepth 65536 in
theorem codes_eq : words1.filter isCode = codes1 := rfl
theorem w_codes : ∀ c ∈ words1.filter isCode, c.before args0 about1 = true := by
  rw [codes_eq]
  intro c hc
  simp only [codes1, List.mem_cons, List.not_mem_nil, or_false] at hc
  rcases hc with rfl | rfl | rfl | rfl | rfl | rfl
  · exact w_c0
  · exact w_c1
  · exact w_c2
  · exact w_c3
  · exact w_c4
  · exact w_c5
set_option maxRecDepth 65536 in
theorem w_t1 : (words1.take 24).all (fun c => isCode c || c.before args0 about1) = true := by decide +kernel
set_option maxRecDepth 65536 in
theorem w_t2 : (words1.drop 24).all (fun c => isCode c || c.before args0 about1) = true := by decide +kernel
theorem w_tables : (allAtoms (Jvm.Cond.code x code maxLocals ret :: tables_1)).before args0 about1 = true := by
  rw [allAtoms_all]
  show words1.all (fun c => c.before args0 about1) = true
  refine all_split ?_ w_codes
  rw [← List.take_append_drop 24 words1, List.all_append, w_t1, w_t2]
  rfl
set_option maxRecDepth 65536 in
theorem w_case : (Jvm.Cond.and given_1 narrow_1).before args0 about1 = true := by decide +kernel
theorem w_applies : (headSpec (Jvm.Cond.code x code maxLocals ret :: tables_1) room_1).applies x e0.platform about1 = true :=
  (Spec.applies_iff w_frames).mpr ⟨w_running, w_runnable, w_alone, w_named, w_hears, w_ripe, w_room, w_tables⟩
theorem atStart : AtStart classFile x code maxLocals ret World_1 tables_1 room_1 Calls_1 rest_1 Pre_1 launch0 p0 e0 about1 theMethod args0 below0 :=
  ⟨lists_1, trivial, launch0.admits_env _ _ _, launch0.least_env, fairChoices_fair.cas, fairChoices_fair.clock, w_frames, w_args, w_heap, w_applies, trivial, trivial, w_case⟩
end start1
theorem witness_1 : WitnessClaimed_1 := ⟨start1.p0, start1.e0, start1.about1, start1.theMethod, start1.args0, start1.below0, start1.atStart⟩
end Jvm.Pilot.@@N@@
