import JvmDerived
import JvmDerived.Pilot.@@N@@Statement
import JvmDerived.Pilot.@@N@@Code
set_option linter.unusedVariables false
set_option linter.unusedSimpArgs false
namespace Jvm.OwnW
open Sem ClassFile Op Lib Jvm.Stand Jvm.Free Jvm.LawKit Jvm.RoadKit
theorem adr_ne {a b : Nat} (h : a < b ∨ b < a) : @Ne Addr a b := fun z => by
  have z : @Eq Nat a b := z
  omega
/-- what was written lies in one of 'ws' or is new -/
def Fw (ws : List Addr) (N : Nat) (L : List Loc) : Prop := ∀ y ∈ L, y.base ∈ ws ∨ N ≤ y.base
theorem Fw.nil (ws : List Addr) (N : Nat) : Fw ws N [] := fun _ q => nomatch q
theorem Fw.app {ws : List Addr} {N : Nat} {L L' : List Loc} (A : Fw ws N L) (B : Fw ws N L') : Fw ws N (L ++ L') := fun y q => (List.mem_append.mp q).elim (A y) (B y)
theorem Fw.snoc {ws : List Addr} {N : Nat} {L : List Loc} {a : Addr} {sl : Nat} (A : Fw ws N L) (q : a ∈ ws ∨ N ≤ a) : Fw ws N (L ++ [⟨a, sl⟩]) := A.app fun y hy => by cases List.mem_singleton.mp hy; exact q
/-- where a walk stands: what was written is new, the heap, the figures within the room -/
def Pos (p : Program) (l : Launch) (e : Env) (R : Room) (s : State) (m : MethodId) (args : Array Value) (below : List Frame) (meth : Method) (c : Code) (Z : State) (own : String) (ws : List Addr) (bd : Nat) (T : State) (h : Heap) (k n : Nat) : Prop :=
  (∃ locs, Stand p l e R s m args below meth c T locs k n ∧ Fw ws bd locs) ∧ T.heap = h ∧ bd ≤ h.size ∧ Z.Warmed39 s.vm ∧ p.tables.exec = Jvm.exec ∧ s.vm.findClass own = some m.cls ∧ meth.locks = false ∧ k ≤ R.cells ∧ n ≤ R.slots
/-- the walk that stands at the frame g in T comes to its return, and Q holds of what it returns and of the heap it leaves -/
def Done (p : Program) (l : Launch) (e : Env) (R : Room) (s : State) (m : MethodId) (args : Array Value) (below : List Frame) (meth : Method) (c : Code) (Z : State) (own : String) (ws : List Addr) (bd : Nat) (Q : Option Value → Heap → Prop) (T : State) (g : JFrame) : Prop :=
  ∃ v T' h' k n, Pos p l e R s m args below meth c Z own ws bd T' h' k n ∧ (meth.sig.returnType = none → v = none) ∧ Q v h' ∧
    ∀ fs, (∀ (f : JFrame) (acts : List Action), f.method = m → f.locked = none → f.entered = [] → (doReturn e (T'.setTop f) acts v).1 = T'.setFrames fs) → Steps p.tables e below (T.setTop g) (T'.setFrames fs)
/-- a method's contract, asked at one heap and one row of arguments; it writes what lies in 'ws' and what it makes, alone -/
def OMet (l : Launch) (y : MethodName) (bytes : ByteArray) (maxL : Nat) (ret : Option FieldType) (wd : List Cond) (rm : Room) (Z : State) (h : Heap) (ws : List Addr) (as' : Array Value) (Q : Option Value → Heap → Prop) : Prop :=
  MetFree l y (head1 (Cond.code y bytes maxL ret :: wd) rm) (fun a U => a = as' ∧ Z.Warmed39 U.vm ∧ U.heap = h) (fun _ _ _ _ _ => True) (fun _ U o U' => ∃ v L, o = .returned v ∧ (Q v U'.heap ∧ Fw ws h.size L ∧ Keep h U'.heap ws) ∧ FrameEnd U o U' L rm.cells rm.slots)
section A
variable {p : Program} {l : Launch} {e : Env} {R : Room} {s : State} {m : MethodId} {args : Array Value} {below : List Frame} {meth : Method} {c : Code} {Z : State} {own : String} {ws : List Addr} {bd : Nat} {T : State} {h h' : Heap} {k n : Nat} {a0 : Array Value} {Q : Option Value → Heap → Prop} {pc pc' : Nat} {Ls : Array Slot} {st : List Value} {T₁ : State} {g₁ : JFrame}
theorem Pos.here (P : Pos p l e R s m args below meth c Z own ws bd T h k n) : At T m c below := by obtain ⟨⟨_, X, _⟩, _⟩ := P; exact X.here
theorem Pos.x (P : Pos p l e R s m args below meth c Z own ws bd T h k n) : p.tables.exec = Jvm.exec := P.2.2.2.2.1
theorem Pos.ge (P : Pos p l e R s m args below meth c Z own ws bd T h k n) : bd ≤ h.size := P.2.2.1
theorem Pos.wa (P : Pos p l e R s m args below meth c Z own ws bd T h k n) : Z.Warmed39 s.vm := P.2.2.2.1
theorem Pos.more (P : Pos p l e R s m args below meth c Z own ws bd T h k n) {k' n' : Nat} (hk : k ≤ k') (hn : n ≤ n') (hk' : k' ≤ R.cells) (hn' : n' ≤ R.slots) : Pos p l e R s m args below meth c Z own ws bd T h k' n' := by
  obtain ⟨⟨L, X, N'⟩, a, b, c, d, f, g, _, _⟩ := P
  exact ⟨⟨L, X.more hk hn, N'⟩, a, b, c, d, f, g, hk', hn'⟩
theorem Pos.cast {k' n' : Nat} (P : Pos p l e R s m args below meth c Z own ws bd T h k n) (hk : k = k') (hn : n = n') : Pos p l e R s m args below meth c Z own ws bd T h k' n' := by subst hk hn; exact P
theorem Done.step {T' : State} {g g' : JFrame} (hs : ∀ t, Steps p.tables e below (T'.setTop g') t → Steps p.tables e below (T.setTop g) t) (D : Done p l e R s m args below meth c Z own ws bd Q T' g') : Done p l e R s m args below meth c Z own ws bd Q T g := by
  obtain ⟨v, T1, h1, k1, n1, P, hv, hq, st⟩ := D
  exact ⟨v, T1, h1, k1, n1, P, hv, hq, fun fs hl => hs _ (st fs hl)⟩
theorem Done.stepL {st' : List Value} (hs : ∀ t, Steps p.tables e below (T.setTop (mkF m pc' Ls st')) t → Steps p.tables e below (T.setTop (mkF m pc Ls st)) t) (D : Done p l e R s m args below meth c Z own ws bd Q T (mkF m pc' Ls st')) : Done p l e R s m args below meth c Z own ws bd Q T (mkF m pc Ls st) := Done.step hs D
theorem Done.imp {Q' : Option Value → Heap → Prop} {g : JFrame} (D : Done p l e R s m args below meth c Z own ws bd Q T g) (q : ∀ v h, Q v h → Q' v h) : Done p l e R s m args below meth c Z own ws bd Q' T g := by
  obtain ⟨v, T1, h1, k1, n1, P, hv, hq, st⟩ := D
  exact ⟨v, T1, h1, k1, n1, P, hv, q _ _ hq, st⟩
theorem keepOf {u : State} {L : List Loc} (q : s.sameButNew u L k n) (F : Fw ws s.heap.size L) : Keep s.heap u.heap ws := by
  obtain ⟨-, h1, -, -, -, H⟩ := q
  refine ⟨h1, fun x cl hx hn => ?_, fun x cl hx => ?_⟩
  · obtain ⟨c', e1, e2, e3, e4⟩ := H x cl hx
    have hlt := (Array.getElem?_eq_some_iff.mp hx).1
    have es : c'.slots = cl.slots := by
      apply Array.ext_getElem?
      intro i
      exact e4 i fun hm => (F _ hm).elim (fun z => hn z) (fun z => absurd z (Nat.not_le.mpr hlt))
    rw [e1, e2, es]
  · obtain ⟨c', e1, e2, e3, e4⟩ := H x cl hx
    exact ⟨c', e1, by rw [e2], by rw [e2], e3⟩
/-- a contract out of a walk -/
theorem OMet.of {y : MethodName} {bytes : ByteArray} {maxL : Nat} {ret : Option FieldType} {wd : List Cond} {rm : Room} {as' : Array Value} {nm : String} (hy : plainFor y = true) (hyc : y.cls = own) (hyn : y.name = nm)
    (H : ∀ p e s m below meth c s₁, Pos p l e rm s m as' below meth c Z own ws h.size s₁ h 0 0 → c.code = bytes → c.maxLocals = maxL → meth.sig.returnType = ret → meth.name = nm → Done p l e rm s m as' below meth c Z own ws h.size Q s₁ (entryFrame m as' maxL)) :
    OMet l y bytes maxL ret wd rm Z h ws as' Q := by
  subst hyc hyn
  refine MetFree.of_bodySF hy hisR ?_
  intro p e s m args below meth c s₁ Bd hml hP hK
  obtain ⟨rfl, hZ, hh⟩ := hP
  have hown : s.vm.findClass y.cls = some m.cls := findClass_of_methodNamed Bd.named
  have hnm := (name_of_methodNamed Bd.named Bd.method).1
  have X0 : Stand p l e rm s m args below meth c s₁ [] 0 0 := Stand.of_body Bd
  have e0 : s₁.heap = h := by rw [← hh, Bd.state]; rfl
  obtain ⟨v, T', h', k, n, ⟨⟨L, X, N⟩, eT, _, _, _, _, hlk, hk, hnn⟩, hv, hq, st⟩ := H p e s m below meth c s₁ ⟨⟨[], X0, Fw.nil _ _⟩, e0, Nat.le_refl _, hZ, Bd.exec, hown, Bd.notSynchronized, Nat.zero_le _, Nat.zero_le _⟩ Bd.bytes hml Bd.returns hnm
  obtain ⟨fs, hr, hrun, hended, hW, hsame⟩ := X.leave (v := v) hv hlk
  refine ⟨_, _, st fs hr, hrun, hended, v, L, rfl, ⟨?_, N, ?_⟩, ⟨_, rfl⟩, hW, hsame.mono hk hnn⟩
  · rw [show (T'.setFrames fs).heap = T'.heap from rfl, eT]
    exact hq
  · subst hh
    have q := keepOf hsame N
    exact q
/-! returns -/
theorem wRet {w : Value} {t : FieldType} {i : Instr} (P : Pos p l e R s m args below meth c Z own ws bd T h k n) (hret : meth.sig.returnType = some t) (hn : narrow t w = w)
    (hi : (i = .ireturn ∧ (t = .int ∨ t = .boolean ∨ t = .byte ∨ t = .char ∨ t = .short) ∧ ∃ z, w = .int z) ∨ (i = .lreturn ∧ t = .long ∧ ∃ z, w = .long z) ∨ (i = .dreturn ∧ t = .double ∧ ∃ z, w = .double z) ∨ (i = .freturn ∧ t = .float ∧ ∃ z, w = .float z) ∨ (i = .areturn ∧ t.isReference = true ∧ w.isRef = true))
    (hd : decode c.code pc = .ok (i, 1)) (hq : Q (some w) h) : Done p l e R s m args below meth c Z own ws bd Q T (mkF m pc Ls (w :: st)) := by
  obtain ⟨⟨L, X, N'⟩, r⟩ := id P
  exact ⟨some w, T, h, k, n, P, (fun q => by rw [hret] at q; cases q), hq, fun fs hl => retOut X P.x hret hn hi hd hl⟩
theorem wRetI {z : Int32} (P : Pos p l e R s m args below meth c Z own ws bd T h k n) (hret : meth.sig.returnType = some .int) (hd : decode c.code pc = .ok (.ireturn, 1)) (hq : Q (some (.int z)) h) : Done p l e R s m args below meth c Z own ws bd Q T (mkF m pc Ls (.int z :: st)) :=
  wRet P hret rfl (Or.inl ⟨rfl, Or.inl rfl, z, rfl⟩) hd hq
theorem wRetJ {z : Int64} (P : Pos p l e R s m args below meth c Z own ws bd T h k n) (hret : meth.sig.returnType = some .long) (hd : decode c.code pc = .ok (.lreturn, 1)) (hq : Q (some (.long z)) h) : Done p l e R s m args below meth c Z own ws bd Q T (mkF m pc Ls (.long z :: st)) :=
  wRet P hret rfl (Or.inr (Or.inl ⟨rfl, rfl, z, rfl⟩)) hd hq
theorem wRetD {z : UInt64} (P : Pos p l e R s m args below meth c Z own ws bd T h k n) (hret : meth.sig.returnType = some .double) (hd : decode c.code pc = .ok (.dreturn, 1)) (hq : Q (some (.double z)) h) : Done p l e R s m args below meth c Z own ws bd Q T (mkF m pc Ls (.double z :: st)) :=
  wRet P hret rfl (Or.inr (Or.inr (Or.inl ⟨rfl, rfl, z, rfl⟩))) hd hq
theorem wRetA {w : Value} {t : FieldType} (P : Pos p l e R s m args below meth c Z own ws bd T h k n) (hret : meth.sig.returnType = some t) (ht : t.isReference = true) (hw : w.isRef = true) (hd : decode c.code pc = .ok (.areturn, 1)) (hq : Q (some w) h) : Done p l e R s m args below meth c Z own ws bd Q T (mkF m pc Ls (w :: st)) :=
  wRet P hret (by cases w <;> first | rfl | (simp [Value.isRef] at hw; done) | (cases t <;> first | rfl | (simp [FieldType.isReference] at ht))) (Or.inr (Or.inr (Or.inr (Or.inr ⟨rfl, ht, hw⟩)))) hd hq
theorem wRetN {z : Int32} {t : FieldType} (P : Pos p l e R s m args below meth c Z own ws bd T h k n) (hret : meth.sig.returnType = some t) (ht : t = .boolean ∨ t = .byte ∨ t = .char ∨ t = .short) (hd : decode c.code pc = .ok (.ireturn, 1)) (hq : Q (some (.int (nar t z))) h) : Done p l e R s m args below meth c Z own ws bd Q T (mkF m pc Ls (.int z :: st)) := by
  obtain ⟨⟨L, X, N'⟩, r⟩ := id P
  exact ⟨_, T, h, k, n, P, (fun q => by rw [hret] at q; cases q), hq, fun fs hl => retN X P.x hret ht hd hl⟩
theorem wRetV (P : Pos p l e R s m args below meth c Z own ws bd T h k n) (hret : meth.sig.returnType = none) (hd : decode c.code pc = .ok (.return_, 1)) (hq : Q none h) : Done p l e R s m args below meth c Z own ws bd Q T (mkF m pc Ls []) := by
  obtain ⟨⟨L, X, N'⟩, r⟩ := id P
  exact ⟨none, T, h, k, n, P, fun _ => rfl, hq, fun fs hl => X.returnOut P.x hret hd hl⟩
/-! fields -/
theorem wGet {R0 O nm d host : String} {index : Nat} {a : Addr} {v : Value} (P : Pos p l e R s m args below meth c Z own ws bd T h k n) (w : (Cond.fieldLink own index R0 nm d).before a0 Z = true ∨ (Cond.fieldLinkNest own index R0 nm d host).before a0 Z = true) (via : Via Z R0 O nm d) (F : Fld Z h a O nm d v)
    (hd : decode c.code pc = .ok (.getfield index, 3)) (hp : pc + 3 = pc') (K : ∀ T', Pos p l e R s m args below meth c Z own ws bd T' h k n → Done p l e R s m args below meth c Z own ws bd Q T' (mkF m pc' Ls (v :: st))) : Done p l e R s m args below meth c Z own ws bd Q T (mkF m pc Ls (.ref a :: st)) := by
  obtain ⟨⟨L, X, N'⟩, eT, b, hZ, hx, ho, r⟩ := id P
  obtain ⟨T', X', e', stp⟩ := getF X hx hZ ho w via eT F (g := mkF m pc Ls (.ref a :: st)) rfl rfl hd
  subst hp
  exact Done.step stp (K T' ⟨⟨L, X', N'⟩, e', b, hZ, hx, ho, r⟩)
theorem wGetS {R0 O nm d host : String} {index : Nat} {v : Value} (P : Pos p l e R s m args below meth c Z own ws bd T h k n) (w : (Cond.fieldLink own index R0 nm d).before a0 Z = true ∨ (Cond.fieldLinkNest own index R0 nm d host).before a0 Z = true) (via : Via Z R0 O nm d) (F : Sta Z h O nm d v)
    (hd : decode c.code pc = .ok (.getstatic index, 3)) (hp : pc + 3 = pc') (K : ∀ T', Pos p l e R s m args below meth c Z own ws bd T' h k n → Done p l e R s m args below meth c Z own ws bd Q T' (mkF m pc' Ls (v :: st))) : Done p l e R s m args below meth c Z own ws bd Q T (mkF m pc Ls st) := by
  obtain ⟨⟨L, X, N'⟩, eT, b, hZ, hx, ho, r⟩ := id P
  obtain ⟨T', X', e', stp⟩ := getS2 X hx hZ ho w via eT F (g := mkF m pc Ls st) rfl hd
  subst hp
  exact Done.step stp (K T' ⟨⟨L, X', N'⟩, e', b, hZ, hx, ho, r⟩)
theorem wPut {R0 O nm d host C : String} {index kk : Nat} {ty : FieldType} {a : Addr} {v old : Value} (P : Pos p l e R s m args below meth c Z own ws bd T h k n) (w : (Cond.fieldLink own index R0 nm d).before a0 Z = true ∨ (Cond.fieldLinkNest own index R0 nm d host).before a0 Z = true) (via : Via Z R0 O nm d) (F : Fld Z h a O nm d old) (E : Exa Z h a C)
    (La : (Cond.lays C O nm d).before a0 Z = true ∨ ((Cond.laysFinal C O nm d).before a0 Z = true ∧ own = O ∧ meth.name = "<init>")) (wi : (Cond.instantiable C kk).before a0 Z = true) (hty : parseFieldDescriptor d = some ty) (hn : narrow ty v = v) (hf : fits ty v = true) (hge : a ∈ ws ∨ bd ≤ a)
    (hd : decode c.code pc = .ok (.putfield index, 3)) (hp : pc + 3 = pc') (K : ∀ T' h', Pos p l e R s m args below meth c Z own ws bd T' h' k n → Wr h h' a (Jvm.RoadKit.slotOf Z O nm d) v → Fld Z h' a O nm d v → Done p l e R s m args below meth c Z own ws bd Q T' (mkF m pc' Ls st)) : Done p l e R s m args below meth c Z own ws bd Q T (mkF m pc Ls (v :: .ref a :: st)) := by
  obtain ⟨⟨L, X, N'⟩, eT, b, hZ, hx, ho, r⟩ := id P
  obtain ⟨T', h', X', e', W, stp⟩ := putF X hx hZ ho w via eT F E La wi hty hn hf (g := mkF m pc Ls (v :: .ref a :: st)) rfl rfl hd
  subst hp
  exact Done.step stp (K T' h' ⟨⟨_, X', Fw.snoc N' hge⟩, e', by rw [W.size]; exact b, hZ, hx, ho, r⟩ W (F.same W))
theorem wPutN {R0 O nm d C : String} {index kk : Nat} {ty : FieldType} {a : Addr} {x x' : Int32} {old : Value} (P : Pos p l e R s m args below meth c Z own ws bd T h k n) (w : (Cond.fieldLink own index R0 nm d).before a0 Z = true) (via : Via Z R0 O nm d) (F : Fld Z h a O nm d old) (E : Exa Z h a C)
    (La : (Cond.lays C O nm d).before a0 Z = true ∨ ((Cond.laysFinal C O nm d).before a0 Z = true ∧ own = O ∧ meth.name = "<init>")) (wi : (Cond.instantiable C kk).before a0 Z = true) (hty : parseFieldDescriptor d = some ty) (hn : narrow ty (.int x) = .int x') (hf : fits ty (.int x') = true) (hge : a ∈ ws ∨ bd ≤ a)
    (hd : decode c.code pc = .ok (.putfield index, 3)) (hp : pc + 3 = pc') (K : ∀ T' h', Pos p l e R s m args below meth c Z own ws bd T' h' k n → Wr h h' a (Jvm.RoadKit.slotOf Z O nm d) (.int x') → Fld Z h' a O nm d (.int x') → Done p l e R s m args below meth c Z own ws bd Q T' (mkF m pc' Ls st)) : Done p l e R s m args below meth c Z own ws bd Q T (mkF m pc Ls (.int x :: .ref a :: st)) := by
  obtain ⟨⟨L, X, N'⟩, eT, b, hZ, hx, ho, r⟩ := id P
  obtain ⟨T', h', X', e', W, stp⟩ := putFN X hx hZ ho w via eT F E La wi (v' := .int x') hty hn hf (g := mkF m pc Ls (.int x :: .ref a :: st)) rfl rfl hd
  subst hp
  exact Done.step stp (K T' h' ⟨⟨_, X', Fw.snoc N' hge⟩, e', by rw [W.size]; exact b, hZ, hx, ho, r⟩ W (F.same W))
/-! objects and arrays -/
theorem wNew {C : String} {index nn : Nat} (P : Pos p l e R s m args below meth c Z own ws bd T h k n) (w : (Cond.classLink own index C).before a0 Z = true) (wi : (Cond.instantiable C nn).before a0 Z = true) (wz : (Cond.initialized C).before a0 Z = true)
    (hd : decode c.code pc = .ok (.new index, 3)) (hp : pc + 3 = pc') (hc : k + 1 ≤ R.cells) (hl : n + nn ≤ R.slots) {k' n' : Nat} (hk' : k + 1 = k') (hn' : n + nn = n')
    (K : ∀ T' h' a, a = h.size → h.size < h'.size → Pos p l e R s m args below meth c Z own ws bd T' h' k' n' → Ext h h' → Exa Z h' a C → (∀ {O nm d : String} {ty : FieldType}, Laid Z a0 C O nm d → parseFieldDescriptor d = some ty → Fld Z h' a O nm d (defaultValue ty)) → Done p l e R s m args below meth c Z own ws bd Q T' (mkF m pc' Ls (.ref a :: st))) : Done p l e R s m args below meth c Z own ws bd Q T (mkF m pc Ls st) := by
  obtain ⟨⟨L, X, N'⟩, eT, b, hZ, hx, ho, hlk, _, _⟩ := id P
  obtain ⟨T', h', X', e', E, A, D, -, stp⟩ := newO X hx hZ ho w wi wz eT (g := mkF m pc Ls st) rfl hd hc hl
  subst hp hk' hn'
  exact Done.step stp (K T' h' h.size rfl A.lt ⟨⟨L, X', N'⟩, e', Nat.le_trans b E.1, hZ, hx, ho, hlk, hc, hl⟩ E A D)
/-- an array by its places' values -/
def Ar (Z : State) (h : Heap) (a : Addr) (ty : FieldType) (n : Nat) (f : Nat → Value) : Prop := ∃ cl : Cell, Arr Z h a cl ty ∧ cl.slots.size = n ∧ n < 2147483648 ∧ ∀ i, i < n → cl.slots[i]? = some (f i)
def oupd {α : Type} (f : Nat → α) (i : Nat) (v : α) : Nat → α := fun j => if j = i then v else f j
theorem oupd_same {α : Type} (f : Nat → α) (i : Nat) (v : α) : oupd f i v i = v := if_pos rfl
theorem oupd_ne {α : Type} {f : Nat → α} {i j : Nat} {v : α} (q : j ≠ i) : oupd f i v j = f j := if_neg q
theorem Ar.lt {a : Addr} {ty : FieldType} {N : Nat} {f : Nat → Value} (A : Ar Z h a ty N f) : a < h.size := by obtain ⟨c, A, -⟩ := A; exact A.lt
theorem Ar.ltN {a : Addr} {ty : FieldType} {N : Nat} {f : Nat → Value} (A : Ar Z h a ty N f) : @LT.lt Nat instLTNat a h.size := A.lt
theorem exaN {a : Addr} {C : String} (E : Exa Z h a C) : @LT.lt Nat instLTNat a h.size := E.lt
theorem Ar.ext {a : Addr} {ty : FieldType} {N : Nat} {f : Nat → Value} (A : Ar Z h a ty N f) (E : Ext h h') : Ar Z h' a ty N f := by obtain ⟨c, A, r⟩ := A; exact ⟨c, A.ext E, r⟩
theorem Ar.other {a b : Addr} {sl : Nat} {v : Value} {ty : FieldType} {N : Nat} {f : Nat → Value} (A : Ar Z h b ty N f) (W : Wr h h' a sl v) (q : b ≠ a) : Ar Z h' b ty N f := by obtain ⟨c, A, r⟩ := A; exact ⟨c, A.other W q, r⟩
theorem Ar.keep {a : Addr} {ws : List Addr} {ty : FieldType} {N : Nat} {f : Nat → Value} (A : Ar Z h a ty N f) (K : Keep h h' ws) (q : a ∉ ws) : Ar Z h' a ty N f := by obtain ⟨c, A, r⟩ := A; exact ⟨c, ⟨K.2.1 a c A.1 q, A.2⟩, r⟩
theorem Ar.len {a : Addr} {ty : FieldType} {N : Nat} {f : Nat → Value} (A : Ar Z h a ty N f) : N < 2147483648 := by obtain ⟨c, A, r1, r2, -⟩ := A; exact r2
theorem Ar.congr {a : Addr} {ty : FieldType} {N : Nat} {f g : Nat → Value} (A : Ar Z h a ty N f) (q : ∀ i, i < N → f i = g i) : Ar Z h a ty N g := by obtain ⟨c, A, r1, r2, r3⟩ := A; exact ⟨c, A, r1, r2, fun i hi => by rw [← q i hi]; exact r3 i hi⟩
theorem in_of {cl : Cell} {N i : Nat} {j : Int32} (S : cl.slots.size = N) (hj : j.toInt = (i : Int)) (hi : i < N) : ¬ (j < 0 ∨ cl.slots.size ≤ j.toNatClampNeg) ∧ j.toNatClampNeg = i := by
  have e : j.toNatClampNeg = i := by rw [Int32.toNatClampNeg, hj]; omega
  refine ⟨?_, e⟩
  rw [S, e, Int32.lt_iff_toInt_lt, hj, show (0 : Int32).toInt = 0 from rfl]
  omega
theorem toI32 {N : Nat} (h : N < 2147483648) : (N.toInt32).toInt = (N : Int) := by
  rw [show N.toInt32 = Int32.ofNat N from rfl, Int32.toInt_ofNat_of_lt (by omega)]
theorem wNewA {aty : ArrayType} {z : Int32} {N cap : Nat} (P : Pos p l e R s m args below meth c Z own ws bd T h k n) (w : (Cond.arrayClass (newarray.typeOf aty)).before a0 Z = true) (hd : decode c.code pc = .ok (.newarray aty, 2)) (hp : pc + 2 = pc') (hz : z.toInt = (N : Int)) (hcap : N ≤ cap) (hb : cap * 8 ≤ 536870912) (hc : k + 1 ≤ R.cells) (hl : n + cap ≤ R.slots)
    {ad : String} (had : "[" ++ (newarray.typeOf aty).toString = ad) {ty : FieldType} {dv : Value} (hty : newarray.typeOf aty = ty) (hdv : defaultValue ty = dv) {k' n' : Nat} (hk' : k + 1 = k') (hn' : n + cap = n')
    (K : ∀ T' h' a, a = h.size → h.size < h'.size → Pos p l e R s m args below meth c Z own ws bd T' h' k' n' → Ext h h' → Ar Z h' a ty N (fun _ => dv) → Exa Z h' a ad → Done p l e R s m args below meth c Z own ws bd Q T' (mkF m pc' Ls (.ref a :: st))) : Done p l e R s m args below meth c Z own ws bd Q T (mkF m pc Ls (.int z :: st)) := by
  obtain ⟨⟨L, X, N'⟩, eT, b, hZ, hx, ho, hlk, _, _⟩ := id P
  have hz0 : ¬ z < 0 := by rw [Int32.lt_iff_toInt_lt, hz, show (0 : Int32).toInt = 0 from rfl]; omega
  have hzn : z.toNatClampNeg = N := by rw [Int32.toNatClampNeg, hz]; omega
  have hN := z.toInt_lt
  obtain ⟨T', h', kA, X', e', E, A, Ex, stp⟩ := newPE X hx hZ w eT (g := mkF m pc Ls (.int z :: st)) rfl hd rfl hz0 (by rw [hzn]; exact hcap) hb hc hl had
  subst hp hk' hn' hty hdv
  refine Done.step stp (K T' h' h.size rfl A.lt ⟨⟨L, X', N'⟩, e', Nat.le_trans b E.1, hZ, hx, ho, hlk, hc, hl⟩ E ⟨_, A, by rw [sz_new, hzn], by omega, fun i hi => ?_⟩ Ex)
  simp [newA, hzn, hi]
theorem wLen {ty : FieldType} {N : Nat} {f : Nat → Value} {a : Addr} (P : Pos p l e R s m args below meth c Z own ws bd T h k n) (A : Ar Z h a ty N f) {z : Int32} (hz : z.toInt = (N : Int)) (hd : decode c.code pc = .ok (.arraylength, 1)) (hp : pc + 1 = pc')
    (K : Done p l e R s m args below meth c Z own ws bd Q T (mkF m pc' Ls (.int z :: st))) : Done p l e R s m args below meth c Z own ws bd Q T (mkF m pc Ls (.ref a :: st)) := by
  obtain ⟨⟨L, X, N'⟩, eT, b, hZ, hx, ho, hlk, _, _⟩ := id P
  obtain ⟨cl, Ar, S, hN, H⟩ := A
  subst hp
  refine Done.step (fun t kk => X.arraylength hx (by rw [eT]; exact Ar.1) (State.isArrayOf_alike hZ.alike Ar.2.1) (g := mkF m pc Ls (.ref a :: st)) rfl rfl hd t ?_) K
  rw [S, show N.toInt32 = z from Int32.toInt_inj.mp (by rw [toI32 hN, hz])]
  exact kk
theorem wDaload {N i : Nat} {f : Nat → Value} {a : Addr} {j : Int32} (P : Pos p l e R s m args below meth c Z own ws bd T h k n) (A : Ar Z h a .double N f) (hj : j.toInt = (i : Int)) (hi : i < N) {v : Value} (hv : f i = v) (hd : decode c.code pc = .ok (.daload, 1)) (hp : pc + 1 = pc')
    (K : Done p l e R s m args below meth c Z own ws bd Q T (mkF m pc' Ls (v :: st))) : Done p l e R s m args below meth c Z own ws bd Q T (mkF m pc Ls (.int j :: .ref a :: st)) := by
  obtain ⟨⟨L, X, N'⟩, eT, b, hZ, hx, ho, hlk, _, _⟩ := id P
  obtain ⟨cl, Ar, S, hN, H⟩ := A
  obtain ⟨q1, q2⟩ := in_of S hj hi
  subst hp hv
  exact Done.step (fun t kk => X.daload hx (by rw [eT]; exact Ar.1) (State.isArrayOf_alike hZ.alike Ar.2.1) Ar.2.2 q1 (by rw [q2]; exact H i hi) (g := mkF m pc Ls (.int j :: .ref a :: st)) rfl rfl hd t kk) K
theorem wIaload {N i : Nat} {f : Nat → Value} {a : Addr} {j : Int32} (P : Pos p l e R s m args below meth c Z own ws bd T h k n) (A : Ar Z h a .int N f) (hj : j.toInt = (i : Int)) (hi : i < N) {v : Value} (hv : f i = v) (hd : decode c.code pc = .ok (.iaload, 1)) (hp : pc + 1 = pc')
    (K : Done p l e R s m args below meth c Z own ws bd Q T (mkF m pc' Ls (v :: st))) : Done p l e R s m args below meth c Z own ws bd Q T (mkF m pc Ls (.int j :: .ref a :: st)) := by
  obtain ⟨⟨L, X, N'⟩, eT, b, hZ, hx, ho, hlk, _, _⟩ := id P
  obtain ⟨cl, Ar, S, hN, H⟩ := A
  obtain ⟨q1, q2⟩ := in_of S hj hi
  subst hp hv
  exact Done.step (fun t kk => X.iaload hx (by rw [eT]; exact Ar.1) (State.isArrayOf_alike hZ.alike Ar.2.1) Ar.2.2 q1 (by rw [q2]; exact H i hi) (g := mkF m pc Ls (.int j :: .ref a :: st)) rfl rfl hd t kk) K
theorem wCaload {N i : Nat} {f : Nat → Value} {a : Addr} {j : Int32} (P : Pos p l e R s m args below meth c Z own ws bd T h k n) (A : Ar Z h a .char N f) (hj : j.toInt = (i : Int)) (hi : i < N) {v : Value} (hv : f i = v) (hd : decode c.code pc = .ok (.caload, 1)) (hp : pc + 1 = pc')
    (K : Done p l e R s m args below meth c Z own ws bd Q T (mkF m pc' Ls (v :: st))) : Done p l e R s m args below meth c Z own ws bd Q T (mkF m pc Ls (.int j :: .ref a :: st)) := by
  obtain ⟨⟨L, X, N'⟩, eT, b, hZ, hx, ho, hlk, _, _⟩ := id P
  obtain ⟨cl, Ar, S, hN, H⟩ := A
  obtain ⟨q1, q2⟩ := in_of S hj hi
  subst hp hv
  exact Done.step (fun t kk => X.caload hx (by rw [eT]; exact Ar.1) (State.isArrayOf_alike hZ.alike Ar.2.1) Ar.2.2 q1 (by rw [q2]; exact H i hi) (g := mkF m pc Ls (.int j :: .ref a :: st)) rfl rfl hd t kk) K
theorem wAaload {N i : Nat} {f : Nat → Value} {a : Addr} {j : Int32} {ty : FieldType} (P : Pos p l e R s m args below meth c Z own ws bd T h k n) (A : Ar Z h a ty N f) (hty : ty.isReference = true) (hj : j.toInt = (i : Int)) (hi : i < N) {v : Value} (hv : f i = v) (hd : decode c.code pc = .ok (.aaload, 1)) (hp : pc + 1 = pc')
    (K : Done p l e R s m args below meth c Z own ws bd Q T (mkF m pc' Ls (v :: st))) : Done p l e R s m args below meth c Z own ws bd Q T (mkF m pc Ls (.int j :: .ref a :: st)) := by
  obtain ⟨⟨L, X, N'⟩, eT, b, hZ, hx, ho, hlk, _, _⟩ := id P
  obtain ⟨cl, Ar, S, hN, H⟩ := A
  obtain ⟨q1, q2⟩ := in_of S hj hi
  subst hp hv
  exact Done.step (fun t kk => X.aaload hx (by rw [eT]; exact Ar.1) (State.isArrayOf_alike hZ.alike Ar.2.1) hty Ar.2.2 q1 (by rw [q2]; exact H i hi) (g := mkF m pc Ls (.int j :: .ref a :: st)) rfl rfl hd t kk) K
theorem Ar.set {cl : Cell} {a : Addr} {ty : FieldType} {N i : Nat} {f : Nat → Value} {v : Value} (A : Arr Z h a cl ty) (S : cl.slots.size = N) (hN : N < 2147483648) (H : ∀ i, i < N → cl.slots[i]? = some (f i)) (hi : i < N) (W : Wr h h' a i v) : Ar Z h' a ty N (oupd f i v) := by
  refine ⟨cl.setSlot i v, A.same W, by rw [sz_set]; exact S, hN, fun j hj => ?_⟩
  by_cases q : j = i
  · subst q; rw [oupd_same]; exact Cell.slots_setSlot_self v (by omega)
  · rw [oupd_ne q, Cell.slots_setSlot_ne v (Ne.symm q)]; exact H j hj
theorem wDastore {N i : Nat} {f : Nat → UInt64} {a : Addr} {j : Int32} {x : UInt64} (P : Pos p l e R s m args below meth c Z own ws bd T h k n) (A : Ar Z h a .double N (fun i => .double (f i))) (hj : j.toInt = (i : Int)) (hi : i < N) (hge : a ∈ ws ∨ bd ≤ a) (hd : decode c.code pc = .ok (.dastore, 1)) (hp : pc + 1 = pc')
    (K : ∀ T' h', Pos p l e R s m args below meth c Z own ws bd T' h' k n → Wr h h' a i (.double x) → Ar Z h' a .double N (fun j => .double (oupd f i x j)) → Done p l e R s m args below meth c Z own ws bd Q T' (mkF m pc' Ls st)) : Done p l e R s m args below meth c Z own ws bd Q T (mkF m pc Ls (.double x :: .int j :: .ref a :: st)) := by
  obtain ⟨⟨L, X, N'⟩, eT, b, hZ, hx, ho, r⟩ := id P
  obtain ⟨cl, Ar', S, hN, H⟩ := A
  obtain ⟨q1, q2⟩ := in_of S hj hi
  obtain ⟨T', h', X', e', W, stp⟩ := stD X hx hZ eT Ar' q1 (g := mkF m pc Ls (.double x :: .int j :: .ref a :: st)) rfl rfl hd
  subst hp
  rw [q2] at W
  refine Done.step stp (K T' h' ⟨⟨_, X', Fw.snoc N' hge⟩, e', by rw [W.size]; exact b, hZ, hx, ho, r⟩ W ((Ar.set Ar' S hN H hi W).congr fun j _ => ?_))
  unfold oupd; split <;> rfl
theorem wIastore {N i : Nat} {f : Nat → Int32} {a : Addr} {j : Int32} {x : Int32} (P : Pos p l e R s m args below meth c Z own ws bd T h k n) (A : Ar Z h a .int N (fun i => .int (f i))) (hj : j.toInt = (i : Int)) (hi : i < N) (hge : a ∈ ws ∨ bd ≤ a) (hd : decode c.code pc = .ok (.iastore, 1)) (hp : pc + 1 = pc')
    (K : ∀ T' h', Pos p l e R s m args below meth c Z own ws bd T' h' k n → Wr h h' a i (.int x) → Ar Z h' a .int N (fun j => .int (oupd f i x j)) → Done p l e R s m args below meth c Z own ws bd Q T' (mkF m pc' Ls st)) : Done p l e R s m args below meth c Z own ws bd Q T (mkF m pc Ls (.int x :: .int j :: .ref a :: st)) := by
  obtain ⟨⟨L, X, N'⟩, eT, b, hZ, hx, ho, r⟩ := id P
  obtain ⟨cl, Ar', S, hN, H⟩ := A
  obtain ⟨q1, q2⟩ := in_of S hj hi
  obtain ⟨T', h', X', e', W, stp⟩ := stI X hx hZ eT Ar' q1 (g := mkF m pc Ls (.int x :: .int j :: .ref a :: st)) rfl rfl hd
  subst hp
  rw [q2] at W
  refine Done.step stp (K T' h' ⟨⟨_, X', Fw.snoc N' hge⟩, e', by rw [W.size]; exact b, hZ, hx, ho, r⟩ W ((Ar.set Ar' S hN H hi W).congr fun j _ => ?_))
  unfold oupd; split <;> rfl
theorem wCastore {N i : Nat} {f : Nat → Int32} {a : Addr} {j : Int32} {x : Int32} (P : Pos p l e R s m args below meth c Z own ws bd T h k n) (A : Ar Z h a .char N (fun i => .int (f i))) (hj : j.toInt = (i : Int)) (hi : i < N) (hge : a ∈ ws ∨ bd ≤ a) (hd : decode c.code pc = .ok (.castore, 1)) (hp : pc + 1 = pc')
    (K : ∀ T' h', Pos p l e R s m args below meth c Z own ws bd T' h' k n → Wr h h' a i (.int (nar .char x)) → Ar Z h' a .char N (fun j => .int (oupd f i (nar .char x) j)) → Done p l e R s m args below meth c Z own ws bd Q T' (mkF m pc' Ls st)) : Done p l e R s m args below meth c Z own ws bd Q T (mkF m pc Ls (.int x :: .int j :: .ref a :: st)) := by
  obtain ⟨⟨L, X, N'⟩, eT, b, hZ, hx, ho, r⟩ := id P
  obtain ⟨cl, Ar', S, hN, H⟩ := A
  obtain ⟨q1, q2⟩ := in_of S hj hi
  obtain ⟨T', h', X', e', W, stp⟩ := stC X hx hZ eT Ar' q1 (g := mkF m pc Ls (.int x :: .int j :: .ref a :: st)) rfl rfl hd
  subst hp
  rw [q2] at W
  refine Done.step stp (K T' h' ⟨⟨_, X', Fw.snoc N' hge⟩, e', by rw [W.size]; exact b, hZ, hx, ho, r⟩ W ((Ar.set Ar' S hN H hi W).congr fun j _ => ?_))
  unfold oupd; split <;> rfl
theorem wBastore {N i : Nat} {f : Nat → Int32} {a : Addr} {j : Int32} {x : Int32} (P : Pos p l e R s m args below meth c Z own ws bd T h k n) (A : Ar Z h a .byte N (fun i => .int (f i))) (hj : j.toInt = (i : Int)) (hi : i < N) (hge : a ∈ ws ∨ bd ≤ a) (hd : decode c.code pc = .ok (.bastore, 1)) (hp : pc + 1 = pc')
    (K : ∀ T' h', Pos p l e R s m args below meth c Z own ws bd T' h' k n → Wr h h' a i (.int (nar .byte x)) → Ar Z h' a .byte N (fun j => .int (oupd f i (nar .byte x) j)) → Done p l e R s m args below meth c Z own ws bd Q T' (mkF m pc' Ls st)) : Done p l e R s m args below meth c Z own ws bd Q T (mkF m pc Ls (.int x :: .int j :: .ref a :: st)) := by
  obtain ⟨⟨L, X, N'⟩, eT, b, hZ, hx, ho, r⟩ := id P
  obtain ⟨cl, Ar', S, hN, H⟩ := A
  obtain ⟨q1, q2⟩ := in_of S hj hi
  obtain ⟨T', h', X', e', W, stp⟩ := stB X hx hZ eT Ar' q1 (g := mkF m pc Ls (.int x :: .int j :: .ref a :: st)) rfl rfl hd
  subst hp
  rw [q2] at W
  refine Done.step stp (K T' h' ⟨⟨_, X', Fw.snoc N' hge⟩, e', by rw [W.size]; exact b, hZ, hx, ho, r⟩ W ((Ar.set Ar' S hN H hi W).congr fun j _ => ?_))
  unfold oupd; split <;> rfl
theorem wZastore {N i : Nat} {f : Nat → Int32} {a : Addr} {j : Int32} {x : Int32} (P : Pos p l e R s m args below meth c Z own ws bd T h k n) (A : Ar Z h a .boolean N (fun i => .int (f i))) (hj : j.toInt = (i : Int)) (hi : i < N) (hge : a ∈ ws ∨ bd ≤ a) (hd : decode c.code pc = .ok (.bastore, 1)) (hp : pc + 1 = pc')
    (K : ∀ T' h', Pos p l e R s m args below meth c Z own ws bd T' h' k n → Wr h h' a i (.int (nar .boolean x)) → Ar Z h' a .boolean N (fun j => .int (oupd f i (nar .boolean x) j)) → Done p l e R s m args below meth c Z own ws bd Q T' (mkF m pc' Ls st)) : Done p l e R s m args below meth c Z own ws bd Q T (mkF m pc Ls (.int x :: .int j :: .ref a :: st)) := by
  obtain ⟨⟨L, X, N'⟩, eT, b, hZ, hx, ho, r⟩ := id P
  obtain ⟨cl, Ar', S, hN, H⟩ := A
  obtain ⟨q1, q2⟩ := in_of S hj hi
  obtain ⟨T', h', X', e', W, stp⟩ := stZ X hx hZ eT Ar' q1 (g := mkF m pc Ls (.int x :: .int j :: .ref a :: st)) rfl rfl hd
  subst hp
  rw [q2] at W
  refine Done.step stp (K T' h' ⟨⟨_, X', Fw.snoc N' hge⟩, e', by rw [W.size]; exact b, hZ, hx, ho, r⟩ W ((Ar.set Ar' S hN H hi W).congr fun j _ => ?_))
  unfold oupd; split <;> rfl
theorem wBaload {N i : Nat} {f : Nat → Value} {a : Addr} {j : Int32} (P : Pos p l e R s m args below meth c Z own ws bd T h k n) (A : Ar Z h a .byte N f) (hj : j.toInt = (i : Int)) (hi : i < N) {v : Value} (hv : f i = v) (hd : decode c.code pc = .ok (.baload, 1)) (hp : pc + 1 = pc')
    (K : Done p l e R s m args below meth c Z own ws bd Q T (mkF m pc' Ls (v :: st))) : Done p l e R s m args below meth c Z own ws bd Q T (mkF m pc Ls (.int j :: .ref a :: st)) := by
  obtain ⟨⟨L, X, N'⟩, eT, b, hZ, hx, ho, hlk, _, _⟩ := id P
  obtain ⟨cl, Ar, S, hN, H⟩ := A
  obtain ⟨q1, q2⟩ := in_of S hj hi
  subst hp hv
  exact Done.step (fun t kk => X.baloadBytes hx (by rw [eT]; exact Ar.1) (State.isArrayOf_alike hZ.alike Ar.2.1) Ar.2.2 q1 (by rw [q2]; exact H i hi) (g := mkF m pc Ls (.int j :: .ref a :: st)) rfl rfl hd t kk) K
theorem staKeep {C nm d : String} {v : Value} {ws' : List Addr} (F : Sta Z h C nm d v) (K : Keep h h' ws') (hw : ∀ x ∈ ws', ∀ cell : Cell, h[x]? = some cell → cell.vm.isStatics = false) : Sta Z h' C nm d v := by
  obtain ⟨cf, i, k, f, st, cell, h1, h2, h3, h4, h5, h6, r⟩ := F
  exact ⟨cf, i, k, f, st, cell, h1, h2, h3, h4, K.2.1 _ _ h5 (fun q => by rw [hw _ q _ h5] at h6; cases h6), h6, r⟩
theorem wCast {K : String} {index : Nat} {a : Addr} (P : Pos p l e R s m args below meth c Z own ws bd T h k n) (w : (Cond.classLink own index K).before a0 Z = true) (F : Ins Z h a K true) (hd : decode c.code pc = .ok (.checkcast index, 3)) (hp : pc + 3 = pc')
    (K' : ∀ T', Pos p l e R s m args below meth c Z own ws bd T' h k n → Done p l e R s m args below meth c Z own ws bd Q T' (mkF m pc' Ls (.ref a :: st))) : Done p l e R s m args below meth c Z own ws bd Q T (mkF m pc Ls (.ref a :: st)) := by
  obtain ⟨⟨L, X, N'⟩, eT, b, hZ, hx, ho, r⟩ := id P
  obtain ⟨T', X', e', stp⟩ := castY X hx hZ ho w eT F (g := mkF m pc Ls (.ref a :: st)) rfl rfl hd
  subst hp
  exact Done.step stp (K' T' ⟨⟨L, X', N'⟩, e', b, hZ, hx, ho, r⟩)
theorem wInstY {K : String} {index : Nat} {a : Addr} (P : Pos p l e R s m args below meth c Z own ws bd T h k n) (w : (Cond.classLink own index K).before a0 Z = true) (F : Ins Z h a K true) (hd : decode c.code pc = .ok (.instanceof index, 3)) (hp : pc + 3 = pc')
    (K' : ∀ T', Pos p l e R s m args below meth c Z own ws bd T' h k n → Done p l e R s m args below meth c Z own ws bd Q T' (mkF m pc' Ls (.int 1 :: st))) : Done p l e R s m args below meth c Z own ws bd Q T (mkF m pc Ls (.ref a :: st)) := by
  obtain ⟨⟨L, X, N'⟩, eT, b, hZ, hx, ho, r⟩ := id P
  obtain ⟨T', X', e', stp⟩ := instY X hx hZ ho w eT F (g := mkF m pc Ls (.ref a :: st)) rfl rfl hd
  subst hp
  exact Done.step stp (K' T' ⟨⟨L, X', N'⟩, e', b, hZ, hx, ho, r⟩)
theorem wInstN {K C : String} {index : Nat} {a : Addr} (P : Pos p l e R s m args below meth c Z own ws bd T h k n) (w : (Cond.classLink own index K).before a0 Z = true) (E : Exa Z h a C) (F : ∃ c t, Z.vm.findClass C = some c ∧ Z.vm.findClass K = some t ∧ Z.vm.assignable c t = false) (hd : decode c.code pc = .ok (.instanceof index, 3)) (hp : pc + 3 = pc')
    (K' : ∀ T', Pos p l e R s m args below meth c Z own ws bd T' h k n → Done p l e R s m args below meth c Z own ws bd Q T' (mkF m pc' Ls (.int 0 :: st))) : Done p l e R s m args below meth c Z own ws bd Q T (mkF m pc Ls (.ref a :: st)) := by
  obtain ⟨⟨L, X, N'⟩, eT, b, hZ, hx, ho, r⟩ := id P
  obtain ⟨T', X', e', stp⟩ := instNo X hx hZ ho w eT E F (g := mkF m pc Ls (.ref a :: st)) rfl rfl hd
  subst hp
  exact Done.step stp (K' T' ⟨⟨L, X', N'⟩, e', b, hZ, hx, ho, r⟩)
theorem wInst0 {index : Nat} (P : Pos p l e R s m args below meth c Z own ws bd T h k n) (hd : decode c.code pc = .ok (.instanceof index, 3)) (hp : pc + 3 = pc') (D : Done p l e R s m args below meth c Z own ws bd Q T (mkF m pc' Ls (.int 0 :: st))) : Done p l e R s m args below meth c Z own ws bd Q T (mkF m pc Ls (.null :: st)) := by
  obtain ⟨⟨L, X, N'⟩, eT, b, hZ, hx, ho, r⟩ := id P
  subst hp
  exact Done.step (Jvm.Stand.instanceofNull X hx (g := mkF m pc Ls (.null :: st)) rfl rfl hd) D
/-! calls -/
theorem wInit {index : Nat} {a : Addr} {W : Nat} (P : Pos p l e R s m args below meth c Z own ws bd T h k n) (w1 : (Cond.methodLink own index Lib.objectInit).before a0 Z = true) (w2 : (Cond.instanceMethod Lib.objectInit).before a0 Z = true) (w3 : (Cond.code Lib.objectInit ⟨#[0xb1]⟩ 1 none).before a0 Z = true) (hml : Ls.size = c.maxLocals)
    (hd : decode c.code pc = .ok (.invokespecial index, 3)) (hf : 1 ≤ R.frames) (hW : (st.map fun v => v.category).sum ≤ W) (hl : W + 12 ≤ R.locals) (hp : pc + 3 = pc')
    (K : ∀ T', Pos p l e R s m args below meth c Z own ws bd T' h k n → Done p l e R s m args below meth c Z own ws bd Q T' (mkF m pc' Ls st)) : Done p l e R s m args below meth c Z own ws bd Q T (mkF m pc Ls (.ref a :: st)) := by
  obtain ⟨⟨L, X, N'⟩, eT, b, hZ, hx, ho, r⟩ := id P
  obtain ⟨T', X', e', stp⟩ := initO X hx hZ ho w1 w2 w3 eT (g := mkF m pc Ls (.ref a :: st)) rfl hml rfl hd hf (W := W) (by show 2 * 0 + _ ≤ _; omega) hl
  subst hp
  exact Done.step stp (K T' ⟨⟨L, X', N'⟩, e', b, hZ, hx, ho, r⟩)
theorem wCallS {y : MethodName} {bytes : ByteArray} {maxL : Nat} {ret : Option FieldType} {rm : Room} {as' : Array Value} {ws' : List Addr} {Q' : Option Value → Heap → Prop} {index W : Nat} {argsL rest stk : List Value} (P : Pos p l e R s m args below meth c Z own ws bd T h k n) (M : OMet l y bytes maxL ret [] rm Z h ws' as' Q')
    (w1 : (Cond.methodLink own index y).before a0 Z = true) (w2 : (Cond.static y).before a0 Z = true) (w3 : (Cond.initialized y.cls).before a0 Z = true) (w4 : (Cond.code y bytes maxL ret).before a0 Z = true) (hy : y.cls ≠ "java/lang/invoke/MethodHandle" ∧ y.cls ≠ "java/lang/invoke/VarHandle") (hml : Ls.size = c.maxLocals)
    (hlen : ∀ sig, parseMethodDescriptor y.desc = some sig → argsL.length = sig.parameters.length) (has : (argsL).toArray = as') (hst : stk = argsL.reverse ++ rest) (hW : (rest.map fun v => v.category).sum ≤ W) (hf : rm.frames + 1 ≤ R.frames) (hl : W + (maxL + 11) + rm.locals ≤ R.locals) (hc : k + rm.cells ≤ R.cells) (hs : n + rm.slots ≤ R.slots)
    (hws : ∀ x ∈ ws', x ∈ ws ∨ bd ≤ x) (hd : decode c.code pc = .ok (.invokestatic index, 3)) (hp : pc + 3 = pc') {k' n' : Nat} (hk' : k + rm.cells = k') (hn' : n + rm.slots = n')
    (K : ∀ T' h' v, Pos p l e R s m args below meth c Z own ws bd T' h' k' n' → Keep h h' ws' → Q' v h' → Done p l e R s m args below meth c Z own ws bd Q T' (mkF m pc' Ls (v.toList ++ rest))) : Done p l e R s m args below meth c Z own ws bd Q T (mkF m pc Ls stk) := by
  obtain ⟨⟨L, X, N'⟩, eT, b, hZ, hx, ho, hlk, _, _⟩ := id P
  subst hst has hp hk' hn'
  obtain ⟨v, _, ⟨T', L', k1, n1⟩, -, X', ⟨Lc, hq, l', y', z'⟩, stp⟩ := Jvm.LawKit.callS X hx (y := y) ho (mvT hZ w1) (mvT hZ w2) (mvT hZ w3) (mvT hZ w4) hy (backOf (W := W) (Q := fun v h' L => Q' v h' ∧ Fw ws' h.size L ∧ Keep h h' ws') M hZ w4 w3 hf hl) (g := mkF m pc Ls (argsL.reverse ++ rest)) rfl hml (argsL := argsL) (rest := rest) hlen rfl (by show 2 * 0 + _ ≤ _; omega) hd (fun _ _ => ⟨rfl, eT, hc, hs⟩)
  dsimp only [Pt.U, Pt.locs, Pt.cells, Pt.slots] at X' l' y' z' stp hq
  subst l' y' z'
  exact Done.step (stp) (K T' T'.heap v ⟨⟨_, X', N'.app fun y hy => (hq.2.1 y hy).elim (fun q => hws _ q) (fun q => Or.inr (Nat.le_trans b q))⟩, rfl, Nat.le_trans b hq.2.2.1, hZ, hx, ho, hlk, hc, hs⟩ hq.2.2 hq.1)
theorem wCallI {y : MethodName} {bytes : ByteArray} {maxL : Nat} {rm : Room} {as' : Array Value} {ws' : List Addr} {Q' : Option Value → Heap → Prop} {index W : Nat} {argsL rest stk : List Value} {a : Addr} (P : Pos p l e R s m args below meth c Z own ws bd T h k n) (M : OMet l y bytes maxL none [] rm Z h ws' as' Q')
    (hyn : y.name = "<init>") (w1 : (Cond.methodLink own index y).before a0 Z = true) (w2 : (Cond.instanceMethod y).before a0 Z = true) (w3 : (Cond.initialized y.cls).before a0 Z = true) (w4 : (Cond.code y bytes maxL none).before a0 Z = true) (hy : y.cls ≠ "java/lang/invoke/MethodHandle" ∧ y.cls ≠ "java/lang/invoke/VarHandle") (hml : Ls.size = c.maxLocals)
    (hlen : ∀ sig, parseMethodDescriptor y.desc = some sig → argsL.length = sig.parameters.length) (has : (.ref a :: argsL).toArray = as') (hst : stk = argsL.reverse ++ .ref a :: rest) (hW : (rest.map fun v => v.category).sum ≤ W) (hf : rm.frames + 1 ≤ R.frames) (hl : W + (maxL + 11) + rm.locals ≤ R.locals) (hc : k + rm.cells ≤ R.cells) (hs : n + rm.slots ≤ R.slots)
    (hws : ∀ x ∈ ws', x ∈ ws ∨ bd ≤ x) (hd : decode c.code pc = .ok (.invokespecial index, 3)) (hp : pc + 3 = pc') {k' n' : Nat} (hk' : k + rm.cells = k') (hn' : n + rm.slots = n')
    (K : ∀ T' h' v, Pos p l e R s m args below meth c Z own ws bd T' h' k' n' → Keep h h' ws' → Q' v h' → Done p l e R s m args below meth c Z own ws bd Q T' (mkF m pc' Ls (v.toList ++ rest))) : Done p l e R s m args below meth c Z own ws bd Q T (mkF m pc Ls stk) := by
  obtain ⟨⟨L, X, N'⟩, eT, b, hZ, hx, ho, hlk, _, _⟩ := id P
  subst hst has hp hk' hn'
  obtain ⟨v, _, ⟨T', L', k1, n1⟩, -, X', ⟨Lc, hq, l', y', z'⟩, stp⟩ := X.specialBack hx (y := y) hyn ho (mvT hZ w1) (mvT hZ w2) (mvT hZ w4) hy (backOf (W := W) (Q := fun v h' L => Q' v h' ∧ Fw ws' h.size L ∧ Keep h h' ws') M hZ w4 w3 hf hl) (g := mkF m pc Ls (argsL.reverse ++ .ref a :: rest)) rfl hml (Steps.refl _) (a := a) (argsL := argsL) (rest := rest) hlen rfl (by show 2 * 0 + _ ≤ _; omega) hd (fun _ _ => ⟨rfl, eT, hc, hs⟩)
  dsimp only [Pt.U, Pt.locs, Pt.cells, Pt.slots] at X' l' y' z' stp hq
  subst l' y' z'
  exact Done.step (fun t kk => stp.trans kk) (K T' T'.heap v ⟨⟨_, X', N'.app fun y hy => (hq.2.1 y hy).elim (fun q => hws _ q) (fun q => Or.inr (Nat.le_trans b q))⟩, rfl, Nat.le_trans b hq.2.2.1, hZ, hx, ho, hlk, hc, hs⟩ hq.2.2 hq.1)
theorem wCallV {y : MethodName} {bytes : ByteArray} {maxL : Nat} {ret : Option FieldType} {rm : Room} {as' : Array Value} {ws' : List Addr} {Q' : Option Value → Heap → Prop} {index W : Nat} {argsL rest stk : List Value} {z : MethodName} {C : String} {a : Addr} (P : Pos p l e R s m args below meth c Z own ws bd T h k n) (M : OMet l z bytes maxL ret [] rm Z h ws' as' Q')
    (w1 : (Cond.methodLink own index y).before a0 Z = true) (w2 : (Cond.declares y).before a0 Z = true) (w5 : (Cond.selects C y z).before a0 Z = true) {D : String} (w7 : (Cond.selects D y y).before a0 Z = true) (w6 : (Cond.instanceMethod z).before a0 Z = true) (w3 : (Cond.initialized z.cls).before a0 Z = true) (w4 : (Cond.code z bytes maxL ret).before a0 Z = true) (hy : y.cls ≠ "java/lang/invoke/MethodHandle" ∧ y.cls ≠ "java/lang/invoke/VarHandle") (E : Exa Z h a C) (hml : Ls.size = c.maxLocals)
    (hlen : ∀ sig, parseMethodDescriptor y.desc = some sig → argsL.length = sig.parameters.length) (has : (.ref a :: argsL).toArray = as') (hst : stk = argsL.reverse ++ .ref a :: rest) (hW : (rest.map fun v => v.category).sum ≤ W) (hf : rm.frames + 1 ≤ R.frames) (hl : W + (maxL + 11) + rm.locals ≤ R.locals) (hc : k + rm.cells ≤ R.cells) (hs : n + rm.slots ≤ R.slots)
    (hws : ∀ x ∈ ws', x ∈ ws ∨ bd ≤ x) (hd : decode c.code pc = .ok (.invokevirtual index, 3)) (hp : pc + 3 = pc') {k' n' : Nat} (hk' : k + rm.cells = k') (hn' : n + rm.slots = n')
    (K : ∀ T' h' v, Pos p l e R s m args below meth c Z own ws bd T' h' k' n' → Keep h h' ws' → Q' v h' → Done p l e R s m args below meth c Z own ws bd Q T' (mkF m pc' Ls (v.toList ++ rest))) : Done p l e R s m args below meth c Z own ws bd Q T (mkF m pc Ls stk) := by
  obtain ⟨⟨L, X, N'⟩, eT, b, hZ, hx, ho, hlk, _, _⟩ := id P
  subst hst has hp hk' hn'
  obtain ⟨cq, kq, qa, qb, qc⟩ := isOf hZ eT E
  obtain ⟨v, _, ⟨T', L', k1, n1⟩, -, X', ⟨Lc, hq, l', y', z'⟩, stp⟩ := X.virtualBack hx (y := y) (z := z) ho (mvT hZ w1) (mvT hZ w2) (notFace_of_selects (args := #[]) (mvT hZ w7)) (mvT hZ w5) (mvT hZ w6) hy (backOf (W := W) (Q := fun v h' L => Q' v h' ∧ Fw ws' h.size L ∧ Keep h h' ws') M hZ w4 w3 hf hl) qa qc (g := mkF m pc Ls (argsL.reverse ++ .ref a :: rest)) rfl hml (Steps.refl _) (argsL := argsL) (rest := rest) hlen rfl (by show 2 * 0 + _ ≤ _; omega) hd (fun _ _ => ⟨rfl, eT, hc, hs⟩)
  dsimp only [Pt.U, Pt.locs, Pt.cells, Pt.slots] at X' l' y' z' stp hq
  subst l' y' z'
  exact Done.step (fun t kk => stp.trans kk) (K T' T'.heap v ⟨⟨_, X', N'.app fun y hy => (hq.2.1 y hy).elim (fun q => hws _ q) (fun q => Or.inr (Nat.le_trans b q))⟩, rfl, Nat.le_trans b hq.2.2.1, hZ, hx, ho, hlk, hc, hs⟩ hq.2.2 hq.1)
theorem wCallP {y : MethodName} {bytes : ByteArray} {maxL : Nat} {ret : Option FieldType} {rm : Room} {as' : Array Value} {ws' : List Addr} {Q' : Option Value → Heap → Prop} {index W kk : Nat} {argsL rest stk : List Value} {a : Addr} {C : String} (P : Pos p l e R s m args below meth c Z own ws bd T h k n) (M : OMet l y bytes maxL ret [] rm Z h ws' as' Q')
    (w1 : (Cond.methodLink own index y).before a0 Z = true) (w2 : (Cond.instanceMethod y).before a0 Z = true) (w5 : (Cond.privateMethod y).before a0 Z = true) (wi : (Cond.instantiable y.cls kk).before a0 Z = true) (w3 : (Cond.initialized y.cls).before a0 Z = true) (w4 : (Cond.code y bytes maxL ret).before a0 Z = true) (hy : y.cls ≠ "java/lang/invoke/MethodHandle" ∧ y.cls ≠ "java/lang/invoke/VarHandle") (E : Exa Z h a C) (hml : Ls.size = c.maxLocals)
    (hlen : ∀ sig, parseMethodDescriptor y.desc = some sig → argsL.length = sig.parameters.length) (has : (.ref a :: argsL).toArray = as') (hst : stk = argsL.reverse ++ .ref a :: rest) (hW : (rest.map fun v => v.category).sum ≤ W) (hf : rm.frames + 1 ≤ R.frames) (hl : W + (maxL + 11) + rm.locals ≤ R.locals) (hc : k + rm.cells ≤ R.cells) (hs : n + rm.slots ≤ R.slots)
    (hws : ∀ x ∈ ws', x ∈ ws ∨ bd ≤ x) (hd : decode c.code pc = .ok (.invokevirtual index, 3)) (hp : pc + 3 = pc') {k' n' : Nat} (hk' : k + rm.cells = k') (hn' : n + rm.slots = n')
    (K : ∀ T' h' v, Pos p l e R s m args below meth c Z own ws bd T' h' k' n' → Keep h h' ws' → Q' v h' → Done p l e R s m args below meth c Z own ws bd Q T' (mkF m pc' Ls (v.toList ++ rest))) : Done p l e R s m args below meth c Z own ws bd Q T (mkF m pc Ls stk) := by
  obtain ⟨⟨L, X, N'⟩, eT, b, hZ, hx, ho, hlk, _, _⟩ := id P
  subst hst has hp hk' hn'
  obtain ⟨cl, hcl, hst⟩ := E.cell
  have hpr : s.PrivateAt y := Cond.privateMethod_at (mvP hZ w5 (args := #[]))
  obtain ⟨ci, ki, hi1, hi2, -, hi3, -⟩ := Cond.instantiable_spec (mvT hZ wi : (Cond.instantiable y.cls kk).before args s = true)
  have hsel : (Cond.selects y.cls y y).before args s = true := selects_self_of_private hi1 hi2 (by simp only [Bool.or_eq_false_iff] at hi3; exact hi3.1) hpr (mvT hZ w2) hy
  obtain ⟨v, _, ⟨T', L', k1, n1⟩, -, X', ⟨Lc, hq, l', y', z'⟩, stp⟩ := X.privateBack hx (y := y) ho (mvT hZ w1) (mvT hZ w2) hsel hpr (mvT hZ w4) hy (backOf (W := W) (Q := fun v h' L => Q' v h' ∧ Fw ws' h.size L ∧ Keep h h' ws') M hZ w4 w3 hf hl) (g := mkF m pc Ls (argsL.reverse ++ .ref a :: rest)) rfl hml (Steps.refl _) (a := a) (by rw [eT]; exact hcl) hst (argsL := argsL) (rest := rest) hlen rfl (by show 2 * 0 + _ ≤ _; omega) hd (fun _ _ => ⟨rfl, eT, hc, hs⟩)
  dsimp only [Pt.U, Pt.locs, Pt.cells, Pt.slots] at X' l' y' z' stp hq
  subst l' y' z'
  exact Done.step (fun t kk => stp.trans kk) (K T' T'.heap v ⟨⟨_, X', N'.app fun y hy => (hq.2.1 y hy).elim (fun q => hws _ q) (fun q => Or.inr (Nat.le_trans b q))⟩, rfl, Nat.le_trans b hq.2.2.1, hZ, hx, ho, hlk, hc, hs⟩ hq.2.2 hq.1)
/-- a call that the machine answers itself -/
theorem wNat {y : MethodName} {by0 : ByteArray} {ml : Nat} {rt : Option FieldType} {index W : Nat} {F : Array Value → Prop} {val : Value} {argsL rest stk : List Value} (P : Pos p l e R s m args below meth c Z own ws bd T h k n)
    (w1 : (Cond.methodLink own index y).before a0 Z = true) (w2 : (Cond.static y).before a0 Z = true) (w3 : (Cond.initialized y.cls).before a0 Z = true) (w4 : (Cond.code y by0 ml rt).before a0 Z = true) (hy : y.cls ≠ "java/lang/invoke/MethodHandle" ∧ y.cls ≠ "java/lang/invoke/VarHandle")
    (hK : (Cond.code y by0 ml rt).before args s = true → Back l R p e below s args y 3 W (fun A a' => A.cells ≤ R.cells ∧ A.slots ≤ R.slots ∧ F a') (fun A _ v B => v = some val ∧ B = A)) (hml : Ls.size = c.maxLocals)
    (hlen : ∀ sig, parseMethodDescriptor y.desc = some sig → argsL.length = sig.parameters.length) (hst : stk = argsL.reverse ++ rest) (hW : (rest.map fun v => v.category).sum ≤ W) (hd : decode c.code pc = .ok (.invokestatic index, 3)) (hp : pc + 3 = pc') (hF : F argsL.toArray)
    (K : ∀ T', Pos p l e R s m args below meth c Z own ws bd T' h k n → Done p l e R s m args below meth c Z own ws bd Q T' (mkF m pc' Ls (val :: rest))) : Done p l e R s m args below meth c Z own ws bd Q T (mkF m pc Ls stk) := by
  obtain ⟨⟨L, X, N'⟩, eT, b, hZ, hx, ho, hlk, hc, hs⟩ := id P
  subst hst hp
  obtain ⟨T', X', e', stp⟩ := natS X hx hZ ho w1 w2 w3 w4 hy eT hK (g := mkF m pc Ls (argsL.reverse ++ rest)) rfl hml hlen rfl (by show 2 * 0 + _ ≤ _; omega) hd hc hs hF rfl
  exact Done.step stp (K T' ⟨⟨L, X', N'⟩, e', b, hZ, hx, ho, hlk, hc, hs⟩)
theorem Fw.toFr {bd : Nat} {L : List Loc} (N : Fw [] bd L) : Fr bd L := fun y hy => (N y hy).resolve_left (by simp)
theorem Fw.ofFr {ws : List Addr} {bd : Nat} {L : List Loc} (N : Fr bd L) : Fw ws bd L := fun y hy => Or.inr (N y hy)
theorem n32 {N : Nat} (h : N < 2147483648) : ¬ Int32.ofNat N < 0 ∧ (Int32.ofNat N).toNatClampNeg = N := by
  have e : (Int32.ofNat N).toInt = (N : Int) := Int32.toInt_ofNat_of_lt (by omega)
  refine ⟨?_, by rw [Int32.toNatClampNeg, e]; omega⟩
  rw [Int32.lt_iff_toInt_lt, e, show (0 : Int32).toInt = 0 from rfl]; omega
theorem Ar.toArv {a : Addr} {ty : FieldType} {N : Nat} {f : Nat → Value} (A : Ar Z h a ty N f) (dv : Value) (hf : ∀ i, fits ty (f i) = true) (hd : fits ty dv = true) : ∃ kA, Arv Z h a kA ty (Int32.ofNat N) ((List.range N).map f) dv := by
  obtain ⟨cl, Ar, S, hN, H⟩ := A
  have g : ∀ i, i < N → ((List.range N).map f).getD i dv = f i := fun i hi => by simp [List.getD_eq_getElem?_getD, hi]
  refine ⟨cl.cls, cl, Ar, rfl, by rw [(n32 hN).2, S], (n32 hN).1, fun i hi => ?_, fun i hi => ?_⟩
  · rw [g i (by omega)]; exact H i (by omega)
  · rw [g i (by omega)]; exact hf i
theorem Ar.ofArv {a : Addr} {ty : FieldType} {kA : ClassId} {N : Nat} {vs : List Value} {dv : Value} (hN : N < 2147483648) (A : Arv Z h a kA ty (Int32.ofNat N) vs dv) : Ar Z h a ty N (fun i => vs.getD i dv) := by
  obtain ⟨cl, Ar, -, S, -, H, -⟩ := A
  rw [(n32 hN).2] at S
  exact ⟨cl, Ar, S, hN, fun i hi => H i (by omega)⟩
/-- a copy of an array of doubles -/
theorem wClone {N cap index W : Nat} {f : Nat → UInt64} {a : Addr} (P : Pos p l e R s m args below meth c Z own ws bd T h k n) (A : Ar Z h a .double N (fun i => .double (f i))) (E : Exa Z h a "[D")
    (w1 : (Cond.methodLink own index ⟨"[D", "clone", "()Ljava/lang/Object;"⟩).before a0 Z = true) (w2 : (Cond.sameMethod "[D" "java/lang/Object" "clone" "()Ljava/lang/Object;").before a0 Z = true) (w3 : (Cond.native ⟨"java/lang/Object", "clone", "()Ljava/lang/Object;"⟩).before a0 Z = true)
    (w4 : (Cond.instanceMethod ⟨"java/lang/Object", "clone", "()Ljava/lang/Object;"⟩).before a0 Z = true) (w5 : (Cond.selects "[D" ⟨"[D", "clone", "()Ljava/lang/Object;"⟩ ⟨"java/lang/Object", "clone", "()Ljava/lang/Object;"⟩).before a0 Z = true) (w6 : (Cond.castable "[D" "java/lang/Cloneable").before a0 Z = true)
    (hml : Ls.size = c.maxLocals) (hd : decode c.code pc = .ok (.invokevirtual index, 3)) (hp : pc + 3 = pc') (hf : 1 ≤ R.frames) (hW : (st.map fun v => v.category).sum ≤ W) (hl : W + 14 ≤ R.locals) (hcap : N ≤ cap) (hc : k + 1 ≤ R.cells) (hsl : n + cap ≤ R.slots) {k' n' : Nat} (hk' : k + 1 = k') (hn' : n + cap = n')
    (K : ∀ T' h' b, b = h.size → h.size < h'.size → Pos p l e R s m args below meth c Z own ws bd T' h' k' n' → Ext h h' → Ar Z h' b .double N (fun i => .double (f i)) → Exa Z h' b "[D" → Done p l e R s m args below meth c Z own ws bd Q T' (mkF m pc' Ls (.ref b :: st))) : Done p l e R s m args below meth c Z own ws bd Q T (mkF m pc Ls (.ref a :: st)) := by
  obtain ⟨⟨L, X, N'⟩, eT, b, hZ, hx, ho, hlk, _, _⟩ := id P
  obtain ⟨cl, Ar, S, hN, H⟩ := A
  have FC : FitC Z cl := fitC_of Ar fun i hi v hv => by rw [H i (by omega)] at hv; cases hv; rfl
  obtain ⟨T', h', X', e', ex, A', E', stp⟩ := cloneA X hx hZ ho w1 w2 w3 w4 w5 w6 eT Ar E FC (g := mkF m pc Ls (.ref a :: st)) rfl hml rfl hd hf (W := W) (by show 2 * 0 + _ ≤ _; omega) hl (cap := cap) (by omega) hc hsl
  subst hp hk' hn'
  exact Done.step stp (K T' h' h.size rfl A'.lt ⟨⟨L, X', N'⟩, e', Nat.le_trans b ex.1, hZ, hx, ho, hlk, hc, hsl⟩ ex ⟨_, A', S, hN, H⟩ E')
/-- System.arraycopy of the first places of an array of doubles into a fresh one -/
theorem wCopyD {N M K0 index W : Nat} {f g : Nat → UInt64} {a b : Addr} {nn : Int32} (P : Pos p l e R s m args below meth c Z own [] bd T h k n) (A : Ar Z h a .double N (fun i => .double (f i))) (B : Ar Z h b .double M (fun i => .double (g i))) (hnn : nn.toInt = (K0 : Int)) (h1 : K0 ≤ N) (h2 : K0 ≤ M) (ge : bd ≤ b)
    (w1 : (Cond.methodLink own index Jvm.Stand.acN).before a0 Z = true) (w2 : (Cond.native Jvm.Stand.acN).before a0 Z = true) (w3 : (Cond.static Jvm.Stand.acN).before a0 Z = true) (w4 : (Cond.initialized "java/lang/System").before a0 Z = true)
    (hml : Ls.size = c.maxLocals) (hd : decode c.code pc = .ok (.invokestatic index, 3)) (hp : pc + 3 = pc') (hf : 1 ≤ R.frames) (hW : (st.map fun v => v.category).sum ≤ W) (hlo : W + (nativeFrameWords "java/lang/System" "arraycopy" 5 + 11) ≤ R.locals)
    (K : ∀ T' h', Pos p l e R s m args below meth c Z own [] bd T' h' k n → Keep h h' [b] → Ar Z h' b .double M (fun i => .double (if i < K0 then f i else g i)) → Done p l e R s m args below meth c Z own [] bd Q T' (mkF m pc' Ls st)) :
    Done p l e R s m args below meth c Z own [] bd Q T (mkF m pc Ls (.int nn :: .int 0 :: .ref b :: .int 0 :: .ref a :: st)) := by
  obtain ⟨⟨L, X, N'⟩, eT, hb', hZ, hx, ho, r⟩ := id P
  have hN := A.len
  have hM := B.len
  obtain ⟨kA, VA⟩ := A.toArv (.double 0) (fun _ => rfl) rfl
  obtain ⟨kB, VB⟩ := B.toArv (.double 0) (fun _ => rfl) rfl
  have z0 : ¬ (0 : Int32) < 0 := by decide
  have z1 : (0 : Int32).toNatClampNeg = 0 := by decide
  have q0 : ¬ nn < 0 := by rw [Int32.lt_iff_toInt_lt, hnn, show (0 : Int32).toInt = 0 from rfl]; omega
  have q1 : nn.toNatClampNeg = K0 := by rw [Int32.toNatClampNeg, hnn]; omega
  obtain ⟨T', h', L', X', e', F', Kp, V', stp⟩ := cpA X hx hZ ho w1 w2 w3 w4 eT VA VB (Or.inl ⟨rfl, rfl⟩) z0 z0 q0 (by rw [z1, q1, (n32 hN).2]; omega) (by rw [z1, q1, (n32 hM).2]; omega) rfl (by rw [z1, q1]; simp; omega) (n0 := bd) N'.toFr ge (g := mkF m pc Ls (.int nn :: .int 0 :: .ref b :: .int 0 :: .ref a :: st)) rfl hml rfl hd hf (W := W) (by show 2 * 0 + _ ≤ _; omega) hlo
  subst hp
  refine Done.step stp (K T' h' ⟨⟨L', X', Fw.ofFr F'⟩, e', Nat.le_trans hb' Kp.1, hZ, hx, ho, r⟩ Kp ((Ar.ofArv hM V').congr fun i hi => ?_))
  rw [z1, q1]
  by_cases q : i < K0
  · rw [if_pos q]
    simp [List.getD_eq_getElem?_getD, List.getElem?_append, q]
    rw [List.getElem?_range (by omega)]
    rfl
  · rw [if_neg q]
    simp [List.getD_eq_getElem?_getD, List.getElem?_append, q]
    have e2 : K0 + (i - K0) = i := by omega
    simp [e2, hi]
/-! constants and references -/
theorem pLdcI {index : Nat} {v : Int32} {t : State} (P : Pos p l e R s m args below meth c Z own ws bd T h k n) (w : (Cond.constant own index v).before a0 Z = true) (hd : decode c.code pc = .ok (.ldc index, 2)) (hp : pc + 2 = pc') (kk : Steps p.tables e below (T.setTop (mkF m pc' Ls (.int v :: st))) t) : Steps p.tables e below (T.setTop (mkF m pc Ls st)) t := by
  obtain ⟨⟨L, X, N'⟩, eT, b, hZ, hx, ho, hlk, _, _⟩ := id P
  subst hp
  exact X.ldcI hx ho (mvT hZ w) (g := mkF m pc Ls st) rfl hd kk
theorem pLdcIw {index : Nat} {v : Int32} {t : State} (P : Pos p l e R s m args below meth c Z own ws bd T h k n) (w : (Cond.constant own index v).before a0 Z = true) (hd : decode c.code pc = .ok (.ldc_w index, 3)) (hp : pc + 3 = pc') (kk : Steps p.tables e below (T.setTop (mkF m pc' Ls (.int v :: st))) t) : Steps p.tables e below (T.setTop (mkF m pc Ls st)) t := by
  obtain ⟨⟨L, X, N'⟩, eT, b, hZ, hx, ho, hlk, _, _⟩ := id P
  subst hp
  exact X.ldcWI hx ho (mvT hZ w) (g := mkF m pc Ls st) rfl hd kk
theorem pLdcJ {index : Nat} {v : Int64} {t : State} (P : Pos p l e R s m args below meth c Z own ws bd T h k n) (w : (Cond.constantLong own index v).before a0 Z = true) (hd : decode c.code pc = .ok (.ldc2_w index, 3)) (hp : pc + 3 = pc') (kk : Steps p.tables e below (T.setTop (mkF m pc' Ls (.long v :: st))) t) : Steps p.tables e below (T.setTop (mkF m pc Ls st)) t := by
  obtain ⟨⟨L, X, N'⟩, eT, b, hZ, hx, ho, hlk, _, _⟩ := id P
  subst hp
  exact X.ldc2J hx ho (mvT hZ w) (g := mkF m pc Ls st) rfl hd kk
theorem pLdcD {index : Nat} {v : UInt64} {t : State} (P : Pos p l e R s m args below meth c Z own ws bd T h k n) (w : (Cond.constantDouble own index v).before a0 Z = true) (hd : decode c.code pc = .ok (.ldc2_w index, 3)) (hp : pc + 3 = pc') (kk : Steps p.tables e below (T.setTop (mkF m pc' Ls (.double v :: st))) t) : Steps p.tables e below (T.setTop (mkF m pc Ls st)) t := by
  obtain ⟨⟨L, X, N'⟩, eT, b, hZ, hx, ho, hlk, _, _⟩ := id P
  subst hp
  exact X.ldc2DoubleC hx ho (mvT hZ w) (g := mkF m pc Ls st) rfl hd t kk
theorem pAcmp {cd : ACond} {x y : Value} {rest stk : List Value} {o : Int} {pc0 : Nat} {same : Bool} {t : State} (P : Pos p l e R s m args below meth c Z own ws bd T h k n) (h1 : x.isRef = true) (h2 : y.isRef = true) (hpc : pc = pc0) (hd : decode c.code pc = .ok (.if_acmp cd o, 3)) (hs : stk = y :: x :: rest) (hq : decide (x = y) = same) (ho : 0 ≤ (pc0 : Int) + o)
    (hp : pc' = if acV cd same = true then ((pc0 : Int) + o).toNat else pc0 + 3) (kk : Steps p.tables e below (T.setTop (mkF m pc' Ls rest)) t) : Steps p.tables e below (T.setTop (mkF m pc Ls stk)) t := by
  obtain ⟨⟨L, X, N'⟩, eT, b, hZ, hx, ho', hlk, _, _⟩ := id P
  exact Jvm.RoadKit.acmp (g := mkF m pc Ls stk) X hx rfl h1 h2 (pc0 := pc0) (pc' := pc') (same := same) hpc hd hs hq ho hp kk
end A
/-! conditions of branches -/
theorem iiW_lt_t {x y : Int32} (h : x < y) : if_icmp.holds .lt x y = true := (tlt h).1
theorem iiW_lt_f {x y : Int32} (h : ¬ (x < y)) : if_icmp.holds .lt x y = false := (flt h).1
theorem iiW_ge_t {x y : Int32} (h : ¬ (x < y)) : if_icmp.holds .ge x y = true := (flt h).2.1
theorem iiW_ge_f {x y : Int32} (h : ¬ ¬ (x < y)) : if_icmp.holds .ge x y = false := (tlt (Decidable.not_not.mp h)).2.1
theorem iiW_gt_t {x y : Int32} (h : y < x) : if_icmp.holds .gt x y = true := (tlt h).2.2.1
theorem iiW_gt_f {x y : Int32} (h : ¬ (y < x)) : if_icmp.holds .gt x y = false := (flt h).2.2.1
theorem iiW_le_t {x y : Int32} (h : ¬ (y < x)) : if_icmp.holds .le x y = true := (flt h).2.2.2
theorem iiW_le_f {x y : Int32} (h : ¬ ¬ (y < x)) : if_icmp.holds .le x y = false := (tlt (Decidable.not_not.mp h)).2.2.2
theorem iiW_eq_t {x y : Int32} (h : x = y) : if_icmp.holds .eq x y = true := (teq h).1
theorem iiW_eq_f {x y : Int32} (h : ¬ (x = y)) : if_icmp.holds .eq x y = false := (feq h).1
theorem iiW_ne_t {x y : Int32} (h : ¬ (x = y)) : if_icmp.holds .ne x y = true := (feq h).2
theorem iiW_ne_f {x y : Int32} (h : ¬ ¬ (x = y)) : if_icmp.holds .ne x y = false := (teq (Decidable.not_not.mp h)).2
theorem i0W_lt_t {x : Int32} (h : x < (0 : Int32)) : ifCond.holds .lt x = true := (if0 _ _).trans (iiW_lt_t h)
theorem i0W_lt_f {x : Int32} (h : ¬ (x < (0 : Int32))) : ifCond.holds .lt x = false := (if0 _ _).trans (iiW_lt_f h)
theorem i0W_ge_t {x : Int32} (h : ¬ (x < (0 : Int32))) : ifCond.holds .ge x = true := (if0 _ _).trans (iiW_ge_t h)
theorem i0W_ge_f {x : Int32} (h : ¬ ¬ (x < (0 : Int32))) : ifCond.holds .ge x = false := (if0 _ _).trans (iiW_ge_f h)
theorem i0W_gt_t {x : Int32} (h : (0 : Int32) < x) : ifCond.holds .gt x = true := (if0 _ _).trans (iiW_gt_t h)
theorem i0W_gt_f {x : Int32} (h : ¬ ((0 : Int32) < x)) : ifCond.holds .gt x = false := (if0 _ _).trans (iiW_gt_f h)
theorem i0W_le_t {x : Int32} (h : ¬ ((0 : Int32) < x)) : ifCond.holds .le x = true := (if0 _ _).trans (iiW_le_t h)
theorem i0W_le_f {x : Int32} (h : ¬ ¬ ((0 : Int32) < x)) : ifCond.holds .le x = false := (if0 _ _).trans (iiW_le_f h)
theorem i0W_eq_t {x : Int32} (h : x = (0 : Int32)) : ifCond.holds .eq x = true := (if0 _ _).trans (iiW_eq_t h)
theorem i0W_eq_f {x : Int32} (h : ¬ (x = (0 : Int32))) : ifCond.holds .eq x = false := (if0 _ _).trans (iiW_eq_f h)
theorem i0W_ne_t {x : Int32} (h : ¬ (x = (0 : Int32))) : ifCond.holds .ne x = true := (if0 _ _).trans (iiW_ne_t h)
theorem i0W_ne_f {x : Int32} (h : ¬ ¬ (x = (0 : Int32))) : ifCond.holds .ne x = false := (if0 _ _).trans (iiW_ne_f h)
theorem lcW_lt_t {x y : Int64} (h : x < y) : ifCond.holds .lt (lcmpW x y) = true := i0W_lt_t ((lw_lt x y).mpr h)
theorem lcW_lt_f {x y : Int64} (h : ¬ (x < y)) : ifCond.holds .lt (lcmpW x y) = false := i0W_lt_f fun q => h ((lw_lt x y).mp q)
theorem lcW_ge_t {x y : Int64} (h : ¬ (x < y)) : ifCond.holds .ge (lcmpW x y) = true := i0W_ge_t fun q => h ((lw_lt x y).mp q)
theorem lcW_ge_f {x y : Int64} (h : ¬ ¬ (x < y)) : ifCond.holds .ge (lcmpW x y) = false := i0W_ge_f fun q => h fun z => q ((lw_lt x y).mpr z)
theorem lcW_gt_t {x y : Int64} (h : y < x) : ifCond.holds .gt (lcmpW x y) = true := i0W_gt_t ((lw_gt x y).mpr h)
theorem lcW_gt_f {x y : Int64} (h : ¬ (y < x)) : ifCond.holds .gt (lcmpW x y) = false := i0W_gt_f fun q => h ((lw_gt x y).mp q)
theorem lcW_le_t {x y : Int64} (h : ¬ (y < x)) : ifCond.holds .le (lcmpW x y) = true := i0W_le_t fun q => h ((lw_gt x y).mp q)
theorem lcW_le_f {x y : Int64} (h : ¬ ¬ (y < x)) : ifCond.holds .le (lcmpW x y) = false := i0W_le_f fun q => h fun z => q ((lw_gt x y).mpr z)
theorem lcW_eq_t {x y : Int64} (h : x = y) : ifCond.holds .eq (lcmpW x y) = true := i0W_eq_t ((lw_eq x y).mpr h)
theorem lcW_eq_f {x y : Int64} (h : ¬ (x = y)) : ifCond.holds .eq (lcmpW x y) = false := i0W_eq_f fun q => h ((lw_eq x y).mp q)
theorem lcW_ne_t {x y : Int64} (h : ¬ (x = y)) : ifCond.holds .ne (lcmpW x y) = true := i0W_ne_t fun q => h ((lw_eq x y).mp q)
theorem lcW_ne_f {x y : Int64} (h : ¬ ¬ (x = y)) : ifCond.holds .ne (lcmpW x y) = false := i0W_ne_f fun q => h fun z => q ((lw_eq x y).mpr z)
/-- how two whole numbers compare, as dcmp pushes it -/
def cmpZ (i j : Int) : Int32 := if i < j then -1 else if i = j then 0 else 1
theorem cmpZ_lt (i j : Int) : cmpZ i j < (0 : Int32) ↔ i < j := by
  unfold cmpZ
  by_cases h1 : i < j
  · rw [if_pos h1]; exact ⟨fun _ => h1, fun _ => by decide⟩
  · rw [if_neg h1]
    by_cases h2 : i = j
    · rw [if_pos h2]; exact ⟨fun q => absurd q (by decide), fun q => absurd q h1⟩
    · rw [if_neg h2]; exact ⟨fun q => absurd q (by decide), fun q => absurd q h1⟩
theorem cmpZ_gt (i j : Int) : (0 : Int32) < cmpZ i j ↔ j < i := by
  unfold cmpZ
  by_cases h1 : i < j
  · rw [if_pos h1]; exact ⟨fun q => absurd q (by decide), fun q => by omega⟩
  · rw [if_neg h1]
    by_cases h2 : i = j
    · rw [if_pos h2]; exact ⟨fun q => absurd q (by decide), fun q => by omega⟩
    · rw [if_neg h2]; exact ⟨fun _ => by omega, fun _ => by decide⟩
theorem cmpZ_eq (i j : Int) : cmpZ i j = (0 : Int32) ↔ i = j := by
  unfold cmpZ
  by_cases h1 : i < j
  · rw [if_pos h1]; exact ⟨fun q => absurd q (by decide), fun q => by omega⟩
  · rw [if_neg h1]
    by_cases h2 : i = j
    · rw [if_pos h2]; exact ⟨fun _ => h2, fun _ => rfl⟩
    · rw [if_neg h2]; exact ⟨fun q => absurd q (by decide), fun q => absurd q h2⟩
theorem ciW_lt_t {x y : Int} (h : x < y) : ifCond.holds .lt (cmpZ x y) = true := i0W_lt_t ((cmpZ_lt x y).mpr h)
theorem ciW_lt_f {x y : Int} (h : ¬ (x < y)) : ifCond.holds .lt (cmpZ x y) = false := i0W_lt_f fun q => h ((cmpZ_lt x y).mp q)
theorem ciW_ge_t {x y : Int} (h : ¬ (x < y)) : ifCond.holds .ge (cmpZ x y) = true := i0W_ge_t fun q => h ((cmpZ_lt x y).mp q)
theorem ciW_ge_f {x y : Int} (h : ¬ ¬ (x < y)) : ifCond.holds .ge (cmpZ x y) = false := i0W_ge_f fun q => h fun z => q ((cmpZ_lt x y).mpr z)
theorem ciW_gt_t {x y : Int} (h : y < x) : ifCond.holds .gt (cmpZ x y) = true := i0W_gt_t ((cmpZ_gt x y).mpr h)
theorem ciW_gt_f {x y : Int} (h : ¬ (y < x)) : ifCond.holds .gt (cmpZ x y) = false := i0W_gt_f fun q => h ((cmpZ_gt x y).mp q)
theorem ciW_le_t {x y : Int} (h : ¬ (y < x)) : ifCond.holds .le (cmpZ x y) = true := i0W_le_t fun q => h ((cmpZ_gt x y).mp q)
theorem ciW_le_f {x y : Int} (h : ¬ ¬ (y < x)) : ifCond.holds .le (cmpZ x y) = false := i0W_le_f fun q => h fun z => q ((cmpZ_gt x y).mpr z)
theorem ciW_eq_t {x y : Int} (h : x = y) : ifCond.holds .eq (cmpZ x y) = true := i0W_eq_t ((cmpZ_eq x y).mpr h)
theorem ciW_eq_f {x y : Int} (h : ¬ (x = y)) : ifCond.holds .eq (cmpZ x y) = false := i0W_eq_f fun q => h ((cmpZ_eq x y).mp q)
theorem ciW_ne_t {x y : Int} (h : ¬ (x = y)) : ifCond.holds .ne (cmpZ x y) = true := i0W_ne_t fun q => h ((cmpZ_eq x y).mp q)
theorem ciW_ne_f {x y : Int} (h : ¬ ¬ (x = y)) : ifCond.holds .ne (cmpZ x y) = false := i0W_ne_f fun q => h fun z => q ((cmpZ_eq x y).mpr z)
section B
variable {C : Prop} [Decidable C]
theorem b01or (C : Prop) [Decidable C] : (if C then (1 : Int32) else (0 : Int32)) = 0 ∨ (if C then (1 : Int32) else (0 : Int32)) = 1 := by split <;> simp
theorem b01_eq_t (h : ¬ (C)) : ifCond.holds .eq (if C then (1 : Int32) else (0 : Int32)) = true := by rw [if_neg h]; rfl
theorem b01_eq_f (h : ¬ ¬ (C)) : ifCond.holds .eq (if C then (1 : Int32) else (0 : Int32)) = false := by rw [if_pos (Decidable.not_not.mp h)]; rfl
theorem b01_ne_t (h : C) : ifCond.holds .ne (if C then (1 : Int32) else (0 : Int32)) = true := by rw [if_pos h]; rfl
theorem b01_ne_f (h : ¬ (C)) : ifCond.holds .ne (if C then (1 : Int32) else (0 : Int32)) = false := by rw [if_neg h]; rfl
end B
theorem narrow_01 {x : Int32} (h : x = 0 ∨ x = 1) : narrow .boolean (.int x) = .int x := by rcases h with rfl | rfl <;> rfl
theorem fits_01 {x : Int32} (h : x = 0 ∨ x = 1) : fits .boolean (.int x) = true := by rcases h with rfl | rfl <;> rfl
theorem cat1 {v : Value} (h : v.isRef = true) : v.category = 1 := by cases v <;> first | rfl | (simp [Value.isRef] at h)
theorem narrow_refT {v : Value} {t : FieldType} (h : v.isRef = true) : narrow t v = v := by cases v <;> first | (simp [Value.isRef] at h; done) | (cases t <;> rfl)
theorem fits_refT {v : Value} {t : FieldType} (h : v.isRef = true) (ht : t.isReference = true) : fits t v = true := by cases v <;> first | (simp [Value.isRef] at h; done) | (cases t <;> first | rfl | (simp [FieldType.isReference] at ht; done))
theorem nab_mul {i j : Int} {A B : Nat} (h1 : i.natAbs ≤ A) (h2 : j.natAbs ≤ B) : (i * j).natAbs ≤ A * B := by rw [Int.natAbs_mul]; exact Nat.mul_le_mul h1 h2
theorem nab_add {i j : Int} {A B : Nat} (h1 : i.natAbs ≤ A) (h2 : j.natAbs ≤ B) : (i + j).natAbs ≤ A + B := by omega
theorem nab_sub {i j : Int} {A B : Nat} (h1 : i.natAbs ≤ A) (h2 : j.natAbs ≤ B) : (i - j).natAbs ≤ A + B := by omega
/-! whole numbers as doubles -/
section C
open Jvm.FP Jvm.FP.Core Jvm.Free.Fl
theorem dint_c0 : DInt 0 FP.dconst0 := by
  have h := i2d_int 0
  rwa [show Core.i2d 0 = FP.dconst0 from by decide +kernel] at h
theorem dint_c1 : DInt 1 FP.dconst1 := by
  have h := i2d_int 1
  rwa [show Core.i2d 1 = FP.dconst1 from by decide +kernel] at h
theorem dint_ite {C : Prop} [Decidable C] {i j : Int} {a b : UInt64} (h1 : C → DInt i a) (h0 : ¬ C → DInt j b) : DInt (if C then i else j) (if C then a else b) := by
  by_cases h : C
  · rw [if_pos h, if_pos h]; exact h1 h
  · rw [if_neg h, if_neg h]; exact h0 h
theorem nnD {i : Int} {a : UInt64} (h : DInt i a) : NoNaN64 a := val64_no.mpr (DInt_ne_nan h)
theorem dcmpZ {i j : Int} {a b : UInt64} (ha : DInt i a) (hb : DInt j b) {o : CmpOp} : cmpValue (FP.dcmp a b) o = cmpZ i j := by
  rw [show FP.dcmp a b = some (compare i j) from dcmp_int ha hb, compare_ite]
  unfold cmpZ
  split
  · rfl
  · split <;> rfl
end C
end Jvm.OwnW
namespace Jvm.OwnW
section Fp
open Jvm.FP Jvm.FP.Core Jvm.Free.Fl Jvm.ClassFile Jvm.Op
/-- the exponent moved by k -/
def sc (k : Int) : Datum → Datum
  | .fin s c q => .fin s c (q + k)
  | .inf s => .inf s
  | .nan => .nan
/-- the double a is i / 2^k, exactly -/
def DY (i : Int) (k : Int) (a : UInt64) : Prop := Whole i (sc k (val64 a))
theorem sc_zero (d : Datum) : sc 0 d = d := by cases d <;> simp [sc]
theorem DY.of_int {i : Int} {a : UInt64} (h : DInt i a) : DY i 0 a := by unfold DY; rw [sc_zero]; exact h
theorem DY.to_int {i : Int} {a : UInt64} (h : DY i 0 a) : DInt i a := by unfold DY at h; rw [sc_zero] at h; exact h
theorem units_sc (k : Int) (c : Nat) (q e : Int) : inUnits c (q + k) (e + k) = inUnits c q e := by
  unfold inUnits; rw [show q + k - (e + k) = q - e by omega]
theorem sc_sum (k : Int) (x y : Datum) : sc k (exactSum x y) = exactSum (sc k x) (sc k y) := by
  cases x with
  | nan => rfl
  | inf s => cases y with
    | nan => rfl
    | inf t => by_cases z : s = t <;> simp only [exactSum, sc, z, if_true, if_false]
    | fin t d r => rfl
  | fin s c q => cases y with
    | nan => rfl
    | inf t => rfl
    | fin t d r =>
      have e : min (q + k) (r + k) = min q r + k := by omega
      simp only [exactSum, sc, sumUnits]
      rw [e, units_sc, units_sc]
theorem sc_prod (k l : Int) (x y : Datum) : sc (k + l) (exactProduct x y) = exactProduct (sc k x) (sc l y) := by
  cases x with
  | nan => rfl
  | inf s => cases y with
    | nan => rfl
    | inf t => rfl
    | fin t d r => by_cases z : d = 0 <;> simp only [exactProduct, sc, z, if_true, if_false]
  | fin s c q => cases y with
    | nan => rfl
    | inf t => by_cases z : c = 0 <;> simp only [exactProduct, sc, z, if_true, if_false]
    | fin t d r =>
      simp only [exactProduct, sc]
      rw [show q + r + (k + l) = q + k + (r + l) by omega]
theorem sc_negate (k : Int) (x : Datum) : sc k (negate x) = negate (sc k x) := by cases x <;> rfl
theorem sc_order (k : Int) (x y : Datum) : order (sc k x) (sc k y) = order x y := by
  cases x with
  | nan => rfl
  | inf s => cases y <;> rfl
  | fin s c q => cases y with
    | nan => rfl
    | inf t => rfl
    | fin t d r =>
      have e : min (q + k) (r + k) = min q r + k := by omega
      simp only [order, sc]
      rw [e, units_sc, units_sc]
theorem pow_cancel {c n a b : Nat} (h : c * 2 ^ a = n * 2 ^ b) : c * 2 ^ (a - b) = n * 2 ^ (b - a) := by
  rcases Nat.le_total a b with q | q
  · obtain ⟨t, rfl⟩ := Nat.exists_eq_add_of_le q
    rw [Nat.pow_add, show n * (2 ^ a * 2 ^ t) = n * 2 ^ t * 2 ^ a by ac_rfl] at h
    have := Nat.eq_of_mul_eq_mul_right (Nat.two_pow_pos a) h
    rw [show a - (a + t) = 0 by omega, show a + t - a = t by omega, this]; simp
  · obtain ⟨t, rfl⟩ := Nat.exists_eq_add_of_le q
    rw [Nat.pow_add, show c * (2 ^ b * 2 ^ t) = c * 2 ^ t * 2 ^ b by ac_rfl] at h
    have := Nat.eq_of_mul_eq_mul_right (Nat.two_pow_pos b) h
    rw [show b - (b + t) = 0 by omega, show b + t - b = t by omega, this]; simp
theorem signed_of {i : Int} {s : Bool} {c : Nat} {q : Int} (h : Whole i (.fin s c q)) : signed s i.natAbs = i := by
  by_cases hi : i = 0
  · rw [hi]; exact signed_zero s
  · rw [whole_sign h hi]
    unfold signed
    by_cases h : i < 0 <;> simp [h] <;> omega
/-- a rounded datum of the value (-1)^s * n / 2^k is that number, where n has at most 53 digits -/
theorem whole_of_round {s : Bool} {i k : Int} (hs : signed s i.natAbs = i) (hi : i.natAbs < 2 ^ 53) (h1 : k ≤ 1074) (h2 : -971 ≤ k) : Whole i (sc k (round b64 (.fin s i.natAbs (-k)))) := by
  obtain ⟨c', q', e2, e3⟩ := round_exact good_b64 s (c := i.natAbs) (q := -k) hi (by rw [qmin_b64]; omega) (by rw [show b64.qmax = 971 by decide]; omega)
  have hf := round_fits good_b64 (.fin s i.natAbs (-k))
  rw [e2] at hf
  have hq : b64.qmin ≤ q' := hf.2.1
  rw [e2]
  rw [qmin_b64] at hq
  unfold inUnits at e3
  rw [qmin_b64] at e3
  have h3 := pow_cancel e3
  show signed s (c' * 2 ^ (q' + k).toNat) = i * ((2 ^ (-(q' + k)).toNat : Nat) : Int)
  rw [show (q' + k).toNat = (q' - -1074).toNat - (-k - -1074).toNat by omega, show (-(q' + k)).toNat = (-k - -1074).toNat - (q' - -1074).toNat by omega, h3, signed_mul, hs]
theorem sc_round {i k : Int} {d : Datum} (h : Whole i (sc k d)) (hi : i.natAbs < 2 ^ 53) (h1 : k ≤ 1074) (h2 : -971 ≤ k) : Whole i (sc k (round b64 d)) := by
  cases d with
  | nan => exact h.elim
  | inf => exact h.elim
  | fin s c q =>
    have h' : Whole i (.fin s c (q + k)) := h
    have h0 := whole_natAbs h'
    have e1 : round b64 (.fin s c q) = round b64 (.fin s i.natAbs (-k)) := by
      refine roundRatio_congr (by decide) (by decide) ?_
      rw [show (q - -k).toNat = (q + k).toNat by omega, show (-k - q).toNat = (-(q + k)).toNat by omega]
      simpa using h0
    rw [e1]
    exact whole_of_round (signed_of h') hi h1 h2
theorem dadd_dy {i j k : Int} {a b : UInt64} (ha : DY i k a) (hb : DY j k b) (h : (i + j).natAbs < 2 ^ 53) (h1 : k ≤ 1074) (h2 : -971 ≤ k) : DY (i + j) k (FP.dadd a b) := by
  unfold DY at *
  rw [show val64 (FP.dadd a b) = round b64 (exactSum (val64 a) (val64 b)) from val64_dadd a b]
  exact sc_round (by rw [sc_sum]; exact whole_sum ha hb) h h1 h2
theorem dsub_dy {i j k : Int} {a b : UInt64} (ha : DY i k a) (hb : DY j k b) (h : (i - j).natAbs < 2 ^ 53) (h1 : k ≤ 1074) (h2 : -971 ≤ k) : DY (i - j) k (FP.dsub a b) := by
  unfold DY at *
  rw [show val64 (FP.dsub a b) = round b64 (exactSum (val64 a) (negate (val64 b))) from val64_dsub a b]
  exact sc_round (by rw [sc_sum, sc_negate]; exact whole_sum ha (whole_negate hb)) h h1 h2
theorem dmul_dy {i j k l : Int} {a b : UInt64} (ha : DY i k a) (hb : DY j l b) (h : (i * j).natAbs < 2 ^ 53) (h1 : k + l ≤ 1074) (h2 : -971 ≤ k + l) : DY (i * j) (k + l) (FP.dmul a b) := by
  unfold DY at *
  rw [show val64 (FP.dmul a b) = round b64 (exactProduct (val64 a) (val64 b)) from val64_dmul a b]
  exact sc_round (by rw [sc_prod]; exact whole_product ha hb) h h1 h2
theorem dcmp_dy {i j k : Int} {a b : UInt64} (ha : DY i k a) (hb : DY j k b) : FP.dcmp a b = some (compare i j) := by
  show order (val64 a) (val64 b) = _
  rw [← sc_order k]
  exact order_whole ha hb
theorem DY.ne_nan {i k : Int} {a : UInt64} (h : DY i k a) : val64 a ≠ .nan := fun q => by unfold DY at h; rw [q] at h; exact h.elim
theorem DY.nn {i k : Int} {a : UInt64} (h : DY i k a) : NoNaN64 a := val64_no.mpr h.ne_nan
theorem DY.fin {i k : Int} {a : UInt64} (h : DY i k a) : ∃ s c q, val64 a = .fin s c q ∧ Whole i (.fin s c (q + k)) := by
  unfold DY at h
  cases hv : val64 a with
  | nan => rw [hv] at h; exact h.elim
  | inf s => rw [hv] at h; exact h.elim
  | fin s c q => rw [hv] at h; exact ⟨s, c, q, rfl, h⟩
theorem dcmpZ_dy {i j k : Int} {a b : UInt64} (ha : DY i k a) (hb : DY j k b) {o : CmpOp} : cmpValue (FP.dcmp a b) o = cmpZ i j := by
  rw [dcmp_dy ha hb, compare_ite]
  unfold cmpZ
  split
  · rfl
  · split <;> rfl
/-- the magnitude in units of 2^-1074 -/
theorem DY.units {i k : Int} {a : UInt64} (h : DY i k a) (hk : k ≤ 1074) : ∃ s c q, val64 a = .fin s c q ∧ -1074 ≤ q ∧ c * 2 ^ (q + 1074).toNat = i.natAbs * 2 ^ (1074 - k).toNat ∧ signed s i.natAbs = i ∧ (i ≠ 0 → s = decide (i < 0)) ∧ (c = 0 ↔ i = 0) := by
  obtain ⟨s, c, q, e, w⟩ := h.fin
  have hf := val64_fits a
  rw [e] at hf
  have hq := hf.2.1
  rw [qmin_b64] at hq
  refine ⟨s, c, q, e, hq, ?_, signed_of w, fun hi => whole_sign w hi, whole_zero w⟩
  have h1 := whole_units w (e := -1074 + k) (by omega)
  have h2 := congrArg Int.natAbs h1
  rw [Int.natAbs_mul, Int.natAbs_mul, natAbs_signed, Int.natAbs_natCast, Int.natAbs_natCast] at h2
  unfold inUnits at h2
  rw [show (-1074 + k).toNat = 0 by omega, show (-(-1074 + k)).toNat = (1074 - k).toNat by omega, show q + k - (-1074 + k) = q + 1074 by omega, Nat.pow_zero, Nat.mul_one] at h2
  exact h2
theorem DY.zval {i k : Int} {a : UInt64} (h : DY i k a) (hk : k ≤ 1074) : zval b64 (val64 a) = i * ((2 ^ (1074 - k).toNat : Nat) : Int) := by
  obtain ⟨s, c, q, e, hq, h1, h2, -, -⟩ := h.units hk
  rw [e]
  show signed s (inUnits c q b64.qmin) = _
  unfold inUnits
  rw [qmin_b64, show q - -1074 = q + 1074 by omega, h1, signed_mul, h2]
/-- an exact quotient -/
theorem ddiv_dy {i j m : Int} {k l n : Nat} {x y : UInt64} (hx : DY i k x) (hy : DY j l y) (hj : j ≠ 0) (hm : m.natAbs < 2 ^ 53) (hk : k ≤ 1074) (hl : l ≤ 1074) (hn : n ≤ 1074) (he : i * (2 ^ (n + l) : Nat) = m * j * (2 ^ k : Nat)) : DY m n (FP.ddiv x y) := by
  obtain ⟨s, c, q, ex, hq, hx1, hx2, hx3, hx4⟩ := hx.units (by omega)
  obtain ⟨t, d, r, ey, hr, hy1, hy2, hy3, hy4⟩ := hy.units (by omega)
  have hd : d ≠ 0 := fun z => hj (hy4.mp z)
  unfold DY
  rw [show val64 (FP.ddiv x y) = quotient b64 (val64 x) (val64 y) from val64_ddiv x y, ex, ey]
  have hd' : 0 < d := Nat.pos_of_ne_zero hd
  have eq1 : quotient b64 (.fin s c q) (.fin t d r) = roundRatio b64 (s != t) c d (q - r) := by simp only [quotient, if_neg hd]
  have hA := congrArg Int.natAbs he
  rw [Int.natAbs_mul, Int.natAbs_mul, Int.natAbs_mul, Int.natAbs_natCast, Int.natAbs_natCast] at hA
  have eq2 : roundRatio b64 (s != t) c d (q - r) = round b64 (.fin (s != t) m.natAbs (-(n : Int))) := by
    refine roundRatio_congr hd' (by decide) ?_
    have hB : c * 2 ^ ((q + 1074).toNat + n) = m.natAbs * d * 2 ^ (r + 1074).toNat := by
      refine Nat.eq_of_mul_eq_mul_right (Nat.two_pow_pos (k + l)) ?_
      have e1 : (1074 - (k : Int)).toNat + k = 1074 := by omega
      have e2 : (1074 - (l : Int)).toNat + l = 1074 := by omega
      calc c * 2 ^ ((q + 1074).toNat + n) * 2 ^ (k + l) = c * 2 ^ (q + 1074).toNat * 2 ^ n * 2 ^ (k + l) := by rw [Nat.pow_add 2 _ n]; ac_rfl
        _ = i.natAbs * 2 ^ (1074 - (k : Int)).toNat * 2 ^ n * 2 ^ (k + l) := by rw [hx1]
        _ = i.natAbs * 2 ^ (n + l) * 2 ^ ((1074 - (k : Int)).toNat + k) := by simp only [Nat.pow_add]; ac_rfl
        _ = m.natAbs * j.natAbs * 2 ^ k * 2 ^ ((1074 - (l : Int)).toNat + l) := by rw [hA, e1, e2]
        _ = m.natAbs * (j.natAbs * 2 ^ (1074 - (l : Int)).toNat) * 2 ^ (k + l) := by simp only [Nat.pow_add]; ac_rfl
        _ = m.natAbs * d * 2 ^ (r + 1074).toNat * 2 ^ (k + l) := by rw [← hy1]; ac_rfl
    have hC := pow_cancel hB
    rw [show (q - r - -(n : Int)).toNat = (q + 1074).toNat + n - (r + 1074).toNat by omega, show (-(n : Int) - (q - r)).toNat = (r + 1074).toNat - ((q + 1074).toNat + n) by omega, Nat.mul_one]
    exact hC
  rw [eq1, eq2]
  refine whole_of_round ?_ hm (by omega) (by omega)
  by_cases hm0 : m = 0
  · rw [hm0]; exact signed_zero _
  have hs := congrArg Int.sign he
  rw [Int.sign_mul, Int.sign_mul, Int.sign_mul, Int.sign_eq_one_of_pos (a := ((2 ^ (n + l) : Nat) : Int)) (by have := Nat.two_pow_pos (n + l); omega), Int.sign_eq_one_of_pos (a := ((2 ^ k : Nat) : Int)) (by have := Nat.two_pow_pos k; omega), Int.mul_one, Int.mul_one] at hs
  have hi0 : i ≠ 0 := fun z => by
    rw [z, Int.zero_mul] at he
    have h3 := Int.mul_eq_zero.mp he.symm
    have h4 := Nat.two_pow_pos k
    rcases h3 with h3 | h3
    · rcases Int.mul_eq_zero.mp h3 with h5 | h5
      · exact hm0 h5
      · exact hj h5
    · omega
  have e1 := hx3 hi0
  have e2 := hy3 hj
  subst e1 e2
  have si : ∀ z : Int, z ≠ 0 → z.sign = if z < 0 then -1 else 1 := fun z hz => by
    rcases Int.lt_or_gt_of_ne hz with h | h
    · rw [if_pos h, Int.sign_eq_neg_one_of_neg h]
    · rw [if_neg (by omega), Int.sign_eq_one_of_pos h]
  rw [si i hi0, si m hm0, si j hj] at hs
  unfold signed
  by_cases a1 : i < 0 <;> by_cases a2 : j < 0 <;> by_cases a3 : m < 0 <;> simp [a1, a2, a3] at hs ⊢ <;> omega
theorem ddiv_int {i j m : Int} {x y : UInt64} (hx : DInt i x) (hy : DInt j y) (hj : j ≠ 0) (hm : m.natAbs < 2 ^ 53) (he : i = m * j) : DInt m (FP.ddiv x y) :=
  (ddiv_dy (k := 0) (l := 0) (n := 0) (DY.of_int hx) (DY.of_int hy) hj hm (by omega) (by omega) (by omega) (by rw [he]; first | done | simp)).to_int
/-- the same number, over a greater power of two -/
theorem DY.up {i k : Int} {a : UInt64} (h : DY i k a) (t : Nat) : DY (i * (2 ^ t : Nat)) (k + t) a := by
  obtain ⟨s, c, q, e, w⟩ := h.fin
  unfold DY
  rw [e]
  show signed s (c * 2 ^ (q + (k + t)).toNat) = i * (2 ^ t : Nat) * ((2 ^ (-(q + (k + t))).toNat : Nat) : Int)
  have w' : signed s (c * 2 ^ (q + k).toNat) = i * ((2 ^ (-(q + k)).toNat : Nat) : Int) := w
  have p2 : ((2 ^ (-(q + k)).toNat : Nat) : Int) ≠ 0 := by have := Nat.two_pow_pos (-(q + k)).toNat; omega
  refine Int.eq_of_mul_eq_mul_right p2 ?_
  have hx : (q + (k + t)).toNat + (-(q + k)).toNat = (q + k).toNat + t + (-(q + (k + t))).toNat := by omega
  rw [← signed_mul, Nat.mul_assoc c, ← Nat.pow_add, hx, show c * 2 ^ ((q + k).toNat + t + (-(q + (k + t))).toNat) = c * 2 ^ (q + k).toNat * (2 ^ t * 2 ^ (-(q + (k + t))).toNat) by simp only [Nat.pow_add]; ac_rfl, signed_mul, w', Int.natCast_mul]
  ac_rfl

/-- a quotient of whole numbers, the dividend not below 0, the divisor above it: how it is rounded -/
theorem ddiv_shape {i j : Int} {x y : UInt64} (hx : DInt i x) (hy : DInt j y) (hi : 0 ≤ i) (hj : 0 < j) : ∃ s c d q r, val64 (FP.ddiv x y) = roundRatio b64 s c d (q - r) ∧ 0 < d ∧ -1074 ≤ q ∧ -1074 ≤ r ∧ c * 2 ^ (q + 1074).toNat = i.natAbs * 2 ^ 1074 ∧ d * 2 ^ (r + 1074).toNat = j.natAbs * 2 ^ 1074 ∧ (i ≠ 0 → s = false) ∧ (i = 0 → c = 0) := by
  obtain ⟨s, c, q, ex, hq, hx1, hx2, hx3, hx4⟩ := (DY.of_int hx).units (by omega)
  obtain ⟨t, d, r, ey, hr, hy1, hy2, hy3, hy4⟩ := (DY.of_int hy).units (by omega)
  have hd : d ≠ 0 := fun z => by have := hy4.mp z; omega
  refine ⟨s != t, c, d, q, r, ?_, Nat.pos_of_ne_zero hd, hq, hr, hx1, hy1, fun h => ?_, fun h => hx4.mpr h⟩
  · rw [show val64 (FP.ddiv x y) = quotient b64 (val64 x) (val64 y) from val64_ddiv x y, ex, ey]; simp only [quotient, if_neg hd]
  · rw [hx3 h, hy3 (by omega)]; simp; omega
theorem units_le {E c d m q r i j : Nat} {A B : Nat} {n g f : Nat} (h1 : c * 2 ^ A = i * 2 ^ E) (h2 : d * 2 ^ B = j * 2 ^ E) (hn : n ≤ E) (hf : f + B = A + g + E) (h : i * 2 ^ n ≤ m * j) : c * 2 ^ f ≤ m * 2 ^ (E - n) * 2 ^ g * d := by
  refine Nat.le_of_mul_le_mul_right ?_ (Nat.two_pow_pos B)
  calc c * 2 ^ f * 2 ^ B = c * 2 ^ (f + B) := by rw [Nat.pow_add]; ac_rfl
    _ = c * 2 ^ A * 2 ^ g * 2 ^ E := by rw [hf]; simp only [Nat.pow_add]; ac_rfl
    _ = i * 2 ^ (n + (E - n)) * 2 ^ g * 2 ^ E := by rw [h1, show n + (E - n) = E by omega]
    _ = i * 2 ^ n * (2 ^ (E - n) * 2 ^ g * 2 ^ E) := by simp only [Nat.pow_add]; ac_rfl
    _ ≤ m * j * (2 ^ (E - n) * 2 ^ g * 2 ^ E) := Nat.mul_le_mul_right _ h
    _ = m * 2 ^ (E - n) * 2 ^ g * (j * 2 ^ E) := by ac_rfl
    _ = m * 2 ^ (E - n) * 2 ^ g * d * 2 ^ B := by rw [← h2]; ac_rfl
theorem units_ge {E c d m i j : Nat} {A B : Nat} {n g f : Nat} (h1 : c * 2 ^ A = i * 2 ^ E) (h2 : d * 2 ^ B = j * 2 ^ E) (hn : n ≤ E) (hf : f + B = A + g + E) (h : m * j ≤ i * 2 ^ n) : m * 2 ^ (E - n) * 2 ^ g * d ≤ c * 2 ^ f := by
  refine Nat.le_of_mul_le_mul_right ?_ (Nat.two_pow_pos B)
  calc m * 2 ^ (E - n) * 2 ^ g * d * 2 ^ B = m * 2 ^ (E - n) * 2 ^ g * (d * 2 ^ B) := by ac_rfl
    _ = m * j * (2 ^ (E - n) * 2 ^ g * 2 ^ E) := by rw [h2]; ac_rfl
    _ ≤ i * 2 ^ n * (2 ^ (E - n) * 2 ^ g * 2 ^ E) := Nat.mul_le_mul_right _ h
    _ = i * 2 ^ (n + (E - n)) * 2 ^ g * 2 ^ E := by simp only [Nat.pow_add]; ac_rfl
    _ = c * 2 ^ A * 2 ^ g * 2 ^ E := by rw [h1, show n + (E - n) = E by omega]
    _ = c * 2 ^ (f + B) := by rw [hf]; simp only [Nat.pow_add]; ac_rfl
    _ = c * 2 ^ f * 2 ^ B := by rw [Nat.pow_add]; ac_rfl
theorem units_one {E c d A B F G : Nat} (h : d * 2 ^ B ≤ c * 2 ^ A) (hf : F + B = A + G + E) : 2 ^ E * 2 ^ G * d ≤ c * 2 ^ F := by
  refine Nat.le_of_mul_le_mul_right ?_ (Nat.two_pow_pos B)
  calc 2 ^ E * 2 ^ G * d * 2 ^ B = d * 2 ^ B * (2 ^ G * 2 ^ E) := by ac_rfl
    _ ≤ c * 2 ^ A * (2 ^ G * 2 ^ E) := Nat.mul_le_mul_right _ h
    _ = c * 2 ^ F * 2 ^ B := by rw [Nat.mul_assoc c, Nat.mul_assoc c, ← Nat.pow_add 2 F, hf]; simp only [Nat.pow_add]; ac_rfl
theorem ddiv_le {i j m : Int} {n : Nat} {x y V : UInt64} (hx : DInt i x) (hy : DInt j y) (hV : DY m n V) (hi : 0 ≤ i) (hj : 0 < j) (hm : 0 ≤ m) (hn : n ≤ 1074) (h : i * (2 ^ n : Nat) ≤ m * j) : zval b64 (val64 (FP.ddiv x y)) ≤ zval b64 (val64 V) := by
  have zV := hV.zval (by omega)
  obtain ⟨s, c, d, q, r, e, hd, hq, hr, h1, h2, h3, h4⟩ := ddiv_shape hx hy hi hj
  rw [e, zV]
  by_cases h0 : i = 0
  · have : roundRatio b64 s c d (q - r) = .fin s 0 b64.qmin := by rw [h4 h0]; rfl
    rw [this]
    have z : zval b64 (.fin s 0 b64.qmin) = 0 := by show signed s (inUnits 0 _ _) = 0; unfold inUnits; rw [Nat.zero_mul]; exact signed_zero s
    rw [z]
    exact Int.mul_nonneg hm (Int.natCast_nonneg _)
  · rw [h3 h0]
    have hle : zmag b64 (roundRatio b64 false c d (q - r)) ≤ zmag b64 (val64 V) := by
      refine zmag_roundRatio_le good_b64 (e0 := min b64.qmin (q - r)) hd (val64_fits V) hV.ne_nan (by omega) (by omega) ?_
      have zm : zmag b64 (val64 V) = m.natAbs * 2 ^ (1074 - n) := by
        have := congrArg Int.natAbs zV
        rw [show zval b64 (val64 V) = signed (sgn (val64 V)) (zmag b64 (val64 V)) from rfl, natAbs_signed, Int.natAbs_mul, Int.natAbs_natCast, show (1074 - (n : Int)).toNat = 1074 - n by omega] at this
        exact this
      rw [zm]
      unfold inUnits
      refine units_le (q := 0) (r := 0) h1 h2 hn ?_ ?_
      · rw [qmin_b64]; omega
      · have := congrArg Int.toNat (show ((i.natAbs * 2 ^ n : Nat) : Int) = i * (2 ^ n : Nat) by rw [Int.natCast_mul]; congr 1; omega)
        have hh : ((i.natAbs * 2 ^ n : Nat) : Int) ≤ ((m.natAbs * j.natAbs : Nat) : Int) := by
          rw [Int.natCast_mul, Int.natCast_mul, show (i.natAbs : Int) = i by omega, show (m.natAbs : Int) = m by omega, show (j.natAbs : Int) = j by omega]; exact h
        omega
    have zs : ∀ D : Datum, zval b64 D = signed (sgn D) (zmag b64 D) := fun _ => rfl
    rw [zs, sgn_roundRatio]
    rw [zs] at zV
    show ((zmag b64 (roundRatio b64 false c d (q - r)) : Nat) : Int) ≤ _
    have : ((zmag b64 (val64 V) : Nat) : Int) = m * ((2 ^ (1074 - (n : Int)).toNat : Nat) : Int) := by
      have := congrArg Int.natAbs zV
      rw [natAbs_signed, Int.natAbs_mul, Int.natAbs_natCast] at this
      rw [this, Int.natCast_mul, show (m.natAbs : Int) = m by omega]
    omega
theorem ddiv_ge {i j m : Int} {n : Nat} {x y V : UInt64} (hx : DInt i x) (hy : DInt j y) (hV : DY m n V) (hi : 0 ≤ i) (hj : 0 < j) (hm : 0 ≤ m) (hn : n ≤ 1074) (h : m * j ≤ i * (2 ^ n : Nat)) : zval b64 (val64 V) ≤ zval b64 (val64 (FP.ddiv x y)) := by
  have zV := hV.zval (by omega)
  obtain ⟨s, c, d, q, r, e, hd, hq, hr, h1, h2, h3, h4⟩ := ddiv_shape hx hy hi hj
  rw [e, zV]
  by_cases h0 : i = 0
  · have : roundRatio b64 s c d (q - r) = .fin s 0 b64.qmin := by rw [h4 h0]; rfl
    rw [this]
    have z : zval b64 (.fin s 0 b64.qmin) = 0 := by show signed s (inUnits 0 _ _) = 0; unfold inUnits; rw [Nat.zero_mul]; exact signed_zero s
    rw [z]
    rw [h0, Int.zero_mul] at h
    have hm0 : m = 0 := by
      rcases Int.lt_or_eq_of_le hm with a | a
      · have := Int.mul_pos a hj; omega
      · omega
    rw [hm0]; simp
  · rw [h3 h0]
    have hle : zmag b64 (val64 V) ≤ zmag b64 (roundRatio b64 false c d (q - r)) := by
      refine zmag_roundRatio_ge good_b64 (e0 := min b64.qmin (q - r)) hd (val64_fits V) (by omega) (by omega) ?_
      have zm : zmag b64 (val64 V) = m.natAbs * 2 ^ (1074 - n) := by
        have := congrArg Int.natAbs zV
        rw [show zval b64 (val64 V) = signed (sgn (val64 V)) (zmag b64 (val64 V)) from rfl, natAbs_signed, Int.natAbs_mul, Int.natAbs_natCast, show (1074 - (n : Int)).toNat = 1074 - n by omega] at this
        exact this
      rw [zm]
      unfold inUnits
      refine units_ge h1 h2 hn ?_ ?_
      · rw [qmin_b64]; omega
      · have hh : ((m.natAbs * j.natAbs : Nat) : Int) ≤ ((i.natAbs * 2 ^ n : Nat) : Int) := by
          rw [Int.natCast_mul, Int.natCast_mul, show (i.natAbs : Int) = i by omega, show (m.natAbs : Int) = m by omega, show (j.natAbs : Int) = j by omega]; exact h
        omega
    have zs : ∀ D : Datum, zval b64 D = signed (sgn D) (zmag b64 D) := fun _ => rfl
    rw [zs, sgn_roundRatio]
    rw [zs] at zV
    show _ ≤ ((zmag b64 (roundRatio b64 false c d (q - r)) : Nat) : Int)
    have : ((zmag b64 (val64 V) : Nat) : Int) = m * ((2 ^ (1074 - (n : Int)).toNat : Nat) : Int) := by
      have := congrArg Int.natAbs zV
      rw [natAbs_signed, Int.natAbs_mul, Int.natAbs_natCast] at this
      rw [this, Int.natCast_mul, show (m.natAbs : Int) = m by omega]
    omega
theorem ddiv_nn {i j : Int} {x y : UInt64} (hx : DInt i x) (hy : DInt j y) (hj : j ≠ 0) : NoNaN64 (FP.ddiv x y) := by
  obtain ⟨s, c, q, ex, -, -, -, -, -⟩ := (DY.of_int hx).units (by omega)
  obtain ⟨t, d, r, ey, hr, hy1, hy2, hy3, hy4⟩ := (DY.of_int hy).units (by omega)
  have hd : d ≠ 0 := fun z => hj (hy4.mp z)
  refine val64_no.mpr ?_
  rw [show val64 (FP.ddiv x y) = quotient b64 (val64 x) (val64 y) from val64_ddiv x y, ex, ey]
  simp only [quotient, if_neg hd]
  exact roundRatio_ne_nan _ _ _ _ _
theorem DY.cast {i i' k k' : Int} {a : UInt64} (h : DY i k a) (hi : i = i') (hk : k = k') : DY i' k' a := by subst hi hk; exact h
theorem pow_i (t e : Nat) : ((2 ^ (t + e) : Nat) : Int) = ((2 ^ t : Nat) : Int) * ((2 ^ e : Nat) : Int) := by rw [Nat.pow_add, Int.natCast_mul]
theorem min_dy {i j k : Int} {x y : UInt64} (hx : DY i k x) (hy : DY j k y) : DY (if j < i then j else i) k (Jvm.Native.java_lang_Math.nans.pick64 false x y) := by
  have h := dcmp_dy hx hy
  rw [compare_ite] at h
  unfold Jvm.Native.java_lang_Math.nans.pick64
  rw [h]
  by_cases a : i < j
  · rw [if_pos a, if_neg (by omega)]; exact hx
  · by_cases b : i = j
    · subst b
      rw [if_neg a, if_pos rfl, if_neg a]
      simp only
      split <;> assumption
    · rw [if_neg a, if_neg b, if_pos (by omega)]; exact hy
theorem lit_dy {n : Int32} {b : UInt64} (h : Core.i2d n = b) : DInt n.toInt b := h ▸ i2d_int n
/-- a long not below 0, as a double -/
theorem l2d_pos {a : Int64} (h : 0 ≤ a.toInt) : ∃ c q, val64 (FP.l2d a) = .fin false c q ∧ -1074 ≤ q := by
  obtain ⟨c, q, e⟩ := l2d_shape a
  rw [show decide (a.toInt < 0) = false by simp; omega] at e
  have hf := val64_fits (FP.l2d a)
  rw [show FP.l2d a = Core.l2d a from rfl, e] at hf
  exact ⟨c, q, e, by have := hf.2.1; rw [qmin_b64] at this; exact this⟩
theorem zval_fin {c : Nat} {q : Int} (s : Bool) : zval b64 (.fin s c q) = signed s (c * 2 ^ (q + 1074).toNat) := by
  show signed s (inUnits c q b64.qmin) = _
  unfold inUnits
  rw [qmin_b64, show q - -1074 = q + 1074 by omega]
theorem l2d_mono {a b : Int64} (h : a.toInt ≤ b.toInt) (ha : 0 ≤ a.toInt) : zval b64 (val64 (FP.l2d a)) ≤ zval b64 (val64 (FP.l2d b)) := by
  rcases Int.lt_or_eq_of_le h with hlt | heq
  · obtain ⟨c, q, e1, hq⟩ := l2d_pos ha
    obtain ⟨c', q', e2, hq'⟩ := l2d_pos (a := b) (by omega)
    have f1 := val64_fits (FP.l2d a)
    have f2 := val64_fits (FP.l2d b)
    rw [e1] at f1
    rw [e2] at f2
    have r1 : roundRatio b64 false a.toInt.natAbs 1 0 = .fin false c q := by
      rw [← e1, show val64 (FP.l2d a) = round b64 (ofInt a.toInt) from val64_l2d a]
      unfold ofInt
      rw [show decide (a.toInt < 0) = false by simp; omega]; rfl
    have r2 : roundRatio b64 false b.toInt.natAbs 1 0 = .fin false c' q' := by
      rw [← e2, show val64 (FP.l2d b) = round b64 (ofInt b.toInt) from val64_l2d b]
      unfold ofInt
      rw [show decide (b.toInt < 0) = false by simp; omega]; rfl
    have n1 := roundRatio_nearest good_b64 (e0 := b64.qmin) (by decide) r1 f2.1 f2.2.1 (by omega) (by rw [qmin_b64]; omega)
    have n2 := roundRatio_nearest good_b64 (e0 := b64.qmin) (by decide) r2 f1.1 f1.2.1 (by omega) (by rw [qmin_b64]; omega)
    rw [e1, e2]
    show signed false (inUnits c q b64.qmin) ≤ signed false (inUnits c' q' b64.qmin)
    show ((inUnits c q b64.qmin : Nat) : Int) ≤ ((inUnits c' q' b64.qmin : Nat) : Int)
    have hs : inUnits a.toInt.natAbs 0 b64.qmin < inUnits b.toInt.natAbs 0 b64.qmin := by
      unfold inUnits
      exact Nat.mul_lt_mul_of_pos_right (by omega) (Nat.two_pow_pos _)
    unfold distance at n1 n2
    generalize inUnits a.toInt.natAbs 0 b64.qmin = A at *
    generalize inUnits b.toInt.natAbs 0 b64.qmin = B at *
    generalize inUnits c q b64.qmin = X at *
    generalize inUnits c' q' b64.qmin = Y at *
    omega
  · rw [show a = b from Int64.toInt_inj.mp heq]; exact Int.le_refl _
theorem quo_shape {x y : UInt64} {c d : Nat} {q r : Int} (hx : val64 x = .fin false c q) (hy : val64 y = .fin false d r) (hd : d ≠ 0) : val64 (FP.ddiv x y) = roundRatio b64 false c d (q - r) := by
  rw [show val64 (FP.ddiv x y) = quotient b64 (val64 x) (val64 y) from val64_ddiv x y, hx, hy]; simp only [quotient, if_neg hd]; rfl
theorem quo_nn {x y : UInt64} {c d : Nat} {q r : Int} (hx : val64 x = .fin false c q) (hy : val64 y = .fin false d r) (hd : d ≠ 0) : NoNaN64 (FP.ddiv x y) := by
  refine val64_no.mpr ?_; rw [quo_shape hx hy hd]; exact roundRatio_ne_nan _ _ _ _ _
theorem quo_ge0 {x y : UInt64} {c d : Nat} {q r : Int} (hx : val64 x = .fin false c q) (hy : val64 y = .fin false d r) (hd : d ≠ 0) : 0 ≤ zval b64 (val64 (FP.ddiv x y)) := by
  rw [quo_shape hx hy hd]
  show 0 ≤ signed (sgn _) _
  rw [sgn_roundRatio]
  exact Int.natCast_nonneg _
theorem quo_ge1 {x y : UInt64} {c d : Nat} {q r : Int} (hx : val64 x = .fin false c q) (hy : val64 y = .fin false d r) (hd : d ≠ 0) (hq : -1074 ≤ q) (hr : -1074 ≤ r) (h : d * 2 ^ (r + 1074).toNat ≤ c * 2 ^ (q + 1074).toNat) : zval b64 (val64 FP.dconst1) ≤ zval b64 (val64 (FP.ddiv x y)) := by
  have z1 : zval b64 (val64 FP.dconst1) = 1 * ((2 ^ (1074 - (0 : Int)).toNat : Nat) : Int) := (DY.of_int dint_c1).zval (by omega)
  have m1 : zmag b64 (val64 FP.dconst1) = 2 ^ 1074 := by
    have := congrArg Int.natAbs z1
    rw [show zval b64 (val64 FP.dconst1) = signed (sgn (val64 FP.dconst1)) (zmag b64 (val64 FP.dconst1)) from rfl, natAbs_signed, Int.one_mul, Int.natAbs_natCast] at this
    exact this
  rw [quo_shape hx hy hd]
  have hle : zmag b64 (val64 FP.dconst1) ≤ zmag b64 (roundRatio b64 false c d (q - r)) := by
    refine zmag_roundRatio_ge good_b64 (e0 := min b64.qmin (q - r)) (Nat.pos_of_ne_zero hd) (val64_fits _) (by omega) (by omega) ?_
    rw [m1]
    unfold inUnits
    have hf : (q - r - min b64.qmin (q - r)).toNat + (r + 1074).toNat = (q + 1074).toNat + (b64.qmin - min b64.qmin (q - r)).toNat + 1074 := by rw [qmin_b64]; omega
    exact units_one h hf
  show signed (sgn (val64 FP.dconst1)) (zmag b64 (val64 FP.dconst1)) ≤ signed (sgn _) _
  rw [sgn_roundRatio, show sgn (val64 FP.dconst1) = false by decide +kernel]
  show ((zmag b64 (val64 FP.dconst1) : Nat) : Int) ≤ ((zmag b64 (roundRatio b64 false c d (q - r)) : Nat) : Int)
  omega
/-- the quotient of a whole number by one above 0 is no greater, in magnitude, than m / 2^n, where the numbers are so -/
theorem ddiv_abs {i j m : Int} {n : Nat} {x y V : UInt64} (hx : DInt i x) (hy : DInt j y) (hV : DY m n V) (hj : 0 < j) (hm : 0 ≤ m) (hn : n ≤ 1074) (h : (i.natAbs : Int) * (2 ^ n : Nat) ≤ m * j) : zmag b64 (val64 (FP.ddiv x y)) ≤ zmag b64 (val64 V) ∧ val64 (FP.ddiv x y) ≠ .nan ∧ (0 < i → sgn (val64 (FP.ddiv x y)) = false) ∧ (i = 0 → zmag b64 (val64 (FP.ddiv x y)) = 0) := by
  have zV := hV.zval (by omega)
  obtain ⟨s, c, q, ex, hq, h1, hx2, hx3, hx4⟩ := (DY.of_int hx).units (by omega)
  obtain ⟨t, d, r, ey, hr, h2, hy2, hy3, hy4⟩ := (DY.of_int hy).units (by omega)
  have hd : d ≠ 0 := fun z => by have := hy4.mp z; omega
  have e : val64 (FP.ddiv x y) = roundRatio b64 (s != t) c d (q - r) := by rw [show val64 (FP.ddiv x y) = quotient b64 (val64 x) (val64 y) from val64_ddiv x y, ex, ey]; simp only [quotient, if_neg hd]
  rw [e]
  refine ⟨?_, roundRatio_ne_nan _ _ _ _ _, fun hi => ?_, fun hi => ?_⟩
  · refine zmag_roundRatio_le good_b64 (e0 := min b64.qmin (q - r)) (Nat.pos_of_ne_zero hd) (val64_fits V) hV.ne_nan (by omega) (by omega) ?_
    have zm : zmag b64 (val64 V) = m.natAbs * 2 ^ (1074 - n) := by
      have := congrArg Int.natAbs zV
      rw [show zval b64 (val64 V) = signed (sgn (val64 V)) (zmag b64 (val64 V)) from rfl, natAbs_signed, Int.natAbs_mul, Int.natAbs_natCast, show (1074 - (n : Int)).toNat = 1074 - n by omega] at this
      exact this
    rw [zm]
    unfold inUnits
    refine units_le (q := 0) (r := 0) h1 h2 hn ?_ ?_
    · rw [qmin_b64]; omega
    · have hh : ((i.natAbs * 2 ^ n : Nat) : Int) ≤ ((m.natAbs * j.natAbs : Nat) : Int) := by
        rw [Int.natCast_mul, Int.natCast_mul, show (m.natAbs : Int) = m by omega, show (j.natAbs : Int) = j by omega]; exact h
      omega
  · rw [sgn_roundRatio, hx3 (by omega), hy3 (by omega)]; simp; omega
  · rw [hx4.mpr hi]; show inUnits 0 _ _ = 0; unfold inUnits; exact Nat.zero_mul _
theorem fin_of_zmag {x V : UInt64} (hn : val64 x ≠ .nan) (hV : ∃ i k, DY i k V) (h : zmag b64 (val64 x) ≤ zmag b64 (val64 V)) : Fin64 x := by
  obtain ⟨i, k, hV⟩ := hV
  refine fin64_core.mpr ?_
  obtain ⟨s, c, q, e, -⟩ := hV.fin
  have h2 := zmag_lt_top good_b64 (e ▸ val64_fits V)
  rw [e] at h
  cases hx : val64 x with
  | nan => exact absurd hx hn
  | inf s' => rw [hx] at h; simp only [zmag] at h h2; omega
  | fin s' c' q' => exact ⟨s', c', q', hx⟩
theorem infin_no {v : UInt64} (h : Fin64 v) : ¬ ((0 : Int32) < cmpValue (FP.dcmp (v &&& 0x7fffffffffffffff) 9218868437227405311) .l) := by
  rcases (le_max (fin64_core.mp h).notNaN).mpr (fin64_core.mp h) with q | q
  · rw [show FP.dcmp (v &&& 0x7fffffffffffffff) 9218868437227405311 = some .lt from q]; decide
  · rw [show FP.dcmp (v &&& 0x7fffffffffffffff) 9218868437227405311 = some .eq from q]; decide
theorem cmpZv {x y : UInt64} (hx : NoNaN64 x) (hy : NoNaN64 y) (o : CmpOp) : cmpValue (FP.dcmp x y) o = cmpZ (zval b64 (val64 x)) (zval b64 (val64 y)) := by
  rw [show FP.dcmp x y = _ from dcmp_zval (val64_no.mp hx) (val64_no.mp hy), compare_ite]
  unfold cmpZ
  split
  · rfl
  · split <;> rfl
/-- a product of two doubles that are not below 0 is not below 0 -/
theorem dmul_ge0 {x y : UInt64} {c d : Nat} {q r : Int} (hx : val64 x = .fin false c q) (hy : val64 y = .fin false d r) : 0 ≤ zval b64 (val64 (FP.dmul x y)) := by
  rw [show val64 (FP.dmul x y) = round b64 (exactProduct (val64 x) (val64 y)) from val64_dmul x y, hx, hy]
  show 0 ≤ signed (sgn (roundRatio b64 (false != false) (c * d) 1 (q + r))) _
  rw [sgn_roundRatio]
  exact Int.natCast_nonneg _
theorem dneg_dy {i k : Int} {a : UInt64} (h : DY i k a) : DY (-i) k (FP.dneg a) := by
  have hn : Core.dIsNaN a = false := (notNaN_iff a).mpr h.ne_nan
  rw [Jvm.FP.dneg_core hn]
  unfold DY at *
  rw [show val64 (Core.dneg a) = negate (val64 a) from val64_dneg a, sc_negate]
  exact whole_negate h
theorem DY.fin64 {i k : Int} {a : UInt64} (h : DY i k a) : Fin64 a := by
  obtain ⟨s, c, q, e, -⟩ := h.fin
  exact fin64_core.mpr ⟨s, c, q, e⟩
end Fp
end Jvm.OwnW
namespace Jvm.Pilot.@@N@@
open Jvm Jvm.ClassFile Sem Op Lib Jvm.Free Jvm.Stand Jvm.LawKit Jvm.RoadKit Jvm.OwnW Bundle Jvm.Pilot.@@N@@.Jvm.D
open Jvm.FP.Core (DInt i2d_int l2d_int dadd_int dsub_int dmul_int dneg_int zval b64 val64 dcmp_zval compare_ite i2d_ne_zero DInt_ne_nan dcmp_int dcmp_l2d)

theorem own_min {z nl : Int32} {N M : Nat} (hz : z.toInt = (N : Int)) (hm : nl.toInt = (M : Int)) : (if nl < z then nl else z).toInt = ((if M < N then M else N : Nat) : Int) := by
  by_cases q : nl < z
  · rw [if_pos q, if_pos (by rw [Int32.lt_iff_toInt_lt] at q; omega), hm]
  · rw [if_neg q, if_neg (by rw [Int32.lt_iff_toInt_lt] at q; omega), hz]

def own_T (P Q : Nat → Int) : Nat → Nat → Int
  | 0, i => P i
  | 1, i => Q i
  | k + 2, i => 2 * (if i = 0 then 0 else own_T P Q (k + 1) (i - 1)) - own_T P Q k i
def own_S (C P Q : Nat → Int) : Nat → Nat → Int
  | 0, _ => 0
  | k + 1, i => own_S C P Q k i + C k * own_T P Q k i
theorem own_Sb {C P Q : Nat → Int} {N M : Nat} (bC : ∀ i, i < N → (C i).natAbs ≤ 34359738368) (bT : ∀ k i, k ≤ N → i < M → (own_T P Q k i).natAbs ≤ 1024) : ∀ k i, k ≤ N → i < M → (own_S C P Q k i).natAbs ≤ k * 35184372088832
  | 0, i, _, _ => by show (0 : Int).natAbs ≤ _; simp
  | k + 1, i, hk, hi => by
    have h1 := own_Sb bC bT k i (by omega) hi
    have h2 := nab_mul (bC k (by omega)) (bT k i (by omega) hi)
    have h3 := nab_add h1 h2
    show (own_S C P Q k i + C k * own_T P Q k i).natAbs ≤ _
    omega
theorem own_i1 {jv : Int32} {j N : Nat} (h : jv.toInt = (j : Int)) (hN : N < 2147483648) (hj : j < N) : (jv + (1 : Int32)).toInt = ((j + 1 : Nat) : Int) := by
  have := c_iadd jv 1
  have := rng32 (jv + 1)
  have e : (1 : Int32).toInt = 1 := by decide
  omega

theorem own_z {N : Nat} (h : N < 2147483648) : (Int32.ofNat N).toInt = (N : Int) := Int32.toInt_ofNat_of_lt (by omega)
theorem own_mv {N B M : Nat} (hM : M + 2 = B + N) (lB : B < 2147483648) (lN : N < 2147483648) (hMc : M ≤ 64) : ((Int32.ofNat B + Int32.ofNat N) - (2 : Int32)).toInt = (M : Int) := by
  have h1 := c_iadd (Int32.ofNat B) (Int32.ofNat N)
  have h2 := c_isub (Int32.ofNat B + Int32.ofNat N) 2
  have h3 := rng32 ((Int32.ofNat B + Int32.ofNat N) - 2)
  have e : (2 : Int32).toInt = 2 := by decide
  rw [own_z lB, own_z lN] at h1
  omega
theorem own_pad {A : Nat} {Pi : Nat → Int} {pf : Nat → UInt64} (dP : ∀ i, i < A → DInt (Pi i) (pf i)) (oP : ∀ i, A ≤ i → Pi i = 0) (i : Nat) : DInt (Pi i) ((fun i => if i < A then pf i else 0) i) := by
  by_cases q : i < A
  · simp only [if_pos q]; exact dP i q
  · simp only [if_neg q, oP i (by omega)]; exact dint_c0
theorem own_ge {iv : Int32} {t N : Nat} (h : iv.toInt = ((t + 1 : Nat) : Int)) (lN : N < 2147483648) (q : N ≤ t + 1) : ¬ (iv < Int32.ofNat N) := by
  rw [Int32.lt_iff_toInt_lt, h, own_z lN]; omega
theorem own_lt {iv : Int32} {t N : Nat} (h : iv.toInt = ((t + 1 : Nat) : Int)) (lN : N < 2147483648) (q : t + 1 < N) : iv < Int32.ofNat N := by
  rw [Int32.lt_iff_toInt_lt, h, own_z lN]; omega
theorem own_ge2 {jv mv : Int32} {j M : Nat} (h : jv.toInt = (j : Int)) (hm : mv.toInt = (M : Int)) (q : M ≤ j) : ¬ (jv < mv) := by
  rw [Int32.lt_iff_toInt_lt, h, hm]; omega
theorem own_lt2 {jv mv : Int32} {j M : Nat} (h : jv.toInt = (j : Int)) (hm : mv.toInt = (M : Int)) (q : j < M) : jv < mv := by
  rw [Int32.lt_iff_toInt_lt, h, hm]; omega
theorem own_j0 {jv : Int32} {j : Nat} (h : jv.toInt = (j : Int)) (q : ¬ ((0 : Int32) < jv)) : j = 0 := by
  rw [Int32.lt_iff_toInt_lt, h, show (0 : Int32).toInt = 0 from rfl] at q; omega
theorem own_j1 {jv : Int32} {j : Nat} (h : jv.toInt = (j : Int)) (q : ¬ ¬ ((0 : Int32) < jv)) : 0 < j := by
  have q := Decidable.not_not.mp q
  rw [Int32.lt_iff_toInt_lt, h, show (0 : Int32).toInt = 0 from rfl] at q; omega
theorem own_dec {jv : Int32} {j : Nat} (h : jv.toInt = ((j + 1 : Nat) : Int)) : (jv - (1 : Int32)).toInt = (j : Int) := by
  have := c_isub jv 1
  have := rng32 (jv - 1)
  have := rng32 jv
  have e : (1 : Int32).toInt = 1 := by decide
  omega
theorem own_upd {F : Nat → Int} {sf : Nat → UInt64} {j : Nat} {x : UInt64} (h : ∀ i, i < j → DInt (F i) (sf i)) (hx : DInt (F j) x) (i : Nat) (hi : i < j + 1) : DInt (F i) (oupd sf j x i) := by
  by_cases q : i = j
  · subst q; rw [oupd_same]; exact hx
  · rw [oupd_ne q]; exact h i (by omega)

def own_L (L : List Int) (i : Nat) : Int := L.getD i 0
theorem own_i2lb (p : Int32) : p.toInt64.toInt.natAbs ≤ 2147483648 := by
  rw [c_i2l]
  have := rng32 p
  omega
theorem own_lm {k x : Int64} {K : Int} (hk : k.toInt = K) (h1 : K.natAbs ≤ 256) (hx : x.toInt.natAbs ≤ 2147483648) : (k * x).toInt = K * x.toInt ∧ (k * x).toInt.natAbs ≤ 549755813888 := by
  have m1 := c_lmul k x
  have m2 := rng64 (k * x)
  have m3 := nab_mul h1 hx
  rw [hk] at m1
  have e : (k * x).toInt = K * x.toInt := by omega
  exact ⟨e, by rw [e]; exact Nat.le_trans m3 (by decide)⟩
theorem own_la {x y : Int64} {A B : Nat} (hx : x.toInt.natAbs ≤ A) (hy : y.toInt.natAbs ≤ B) (h : A + B < 4611686018427387904) : (x + y).toInt = x.toInt + y.toInt ∧ (x + y).toInt.natAbs ≤ A + B := by
  have m1 := c_ladd x y
  have m2 := rng64 (x + y)
  constructor <;> omega
theorem own_ls {x y : Int64} {A B : Nat} (hx : x.toInt.natAbs ≤ A) (hy : y.toInt.natAbs ≤ B) (h : A + B < 4611686018427387904) : (x - y).toInt = x.toInt - y.toInt ∧ (x - y).toInt.natAbs ≤ A + B := by
  have m1 := c_lsub x y
  have m2 := rng64 (x - y)
  constructor <;> omega
theorem own_all0 {P : Nat → Prop} (i : Nat) (h : i < 0) : P i := absurd h (by omega)
theorem own_allS {P : Nat → Prop} {n : Nat} (h : ∀ i, i < n → P i) (q : P n) (i : Nat) (hi : i < n + 1) : P i := by
  by_cases z : i = n
  · subst z; exact q
  · exact h i (by omega)

def own_P (i : Nat) : Int := if i = 0 then 1 else 0
def own_Q (i : Nat) : Int := if i = 1 then 2 else 0
theorem own_oP (i : Nat) (h : 1 ≤ i) : own_P i = 0 := if_neg (by omega)
theorem own_oQ (i : Nat) (h : 2 ≤ i) : own_Q i = 0 := if_neg (by omega)
theorem own_bT (k i : Nat) (hk : k ≤ 8) (hi : i < 8) : (own_T own_P own_Q k i).natAbs ≤ 1024 := by
  have h : ∀ k : Fin 9, ∀ i : Fin 8, (own_T own_P own_Q k.val i.val).natAbs ≤ 1024 := by decide +kernel
  exact h ⟨k, by omega⟩ ⟨i, hi⟩
theorem own_geN {iv : Int32} {i N : Nat} (h : iv.toInt = (i : Int)) (lN : N < 2147483648) (q : ¬ (iv < Int32.ofNat N)) : N ≤ i := by
  rw [Int32.lt_iff_toInt_lt, h, own_z lN] at q; omega
theorem own_ltN {iv : Int32} {i N : Nat} (h : iv.toInt = (i : Int)) (lN : N < 2147483648) (q : ¬ ¬ (iv < Int32.ofNat N)) : i < N := by
  have q := Decidable.not_not.mp q
  rw [Int32.lt_iff_toInt_lt, h, own_z lN] at q; omega
theorem own_Lz {N : Nat} {x0 x1 x2 x3 x4 x5 x6 x7 : Int} (q0 : N ≤ 0 → x0 = 0) (q1 : N ≤ 1 → x1 = 0) (q2 : N ≤ 2 → x2 = 0) (q3 : N ≤ 3 → x3 = 0) (q4 : N ≤ 4 → x4 = 0) (q5 : N ≤ 5 → x5 = 0) (q6 : N ≤ 6 → x6 = 0) (q7 : N ≤ 7 → x7 = 0) : ∀ k, N ≤ k → own_L [x0, x1, x2, x3, x4, x5, x6, x7] k = 0
  | 0, h => q0 h
  | 1, h => q1 h
  | 2, h => q2 h
  | 3, h => q3 h
  | 4, h => q4 h
  | 5, h => q5 h
  | 6, h => q6 h
  | 7, h => q7 h
  | _ + 8, _ => rfl
theorem own_Sz {C P Q : Nat → Int} {N : Nat} (z : ∀ k, N ≤ k → C k = 0) (i : Nat) : ∀ d, own_S C P Q (N + d) i = own_S C P Q N i
  | 0 => rfl
  | d + 1 => by
    show own_S C P Q (N + d) i + C (N + d) * own_T P Q (N + d) i = _
    rw [z (N + d) (Nat.le_add_right _ _), Int.zero_mul, Int.add_zero]
    exact own_Sz z i d
theorem own_SzD {C P Q : Nat → Int} {N i : Nat} {x : UInt64} (hN : N ≤ 8) (z : ∀ k, N ≤ k → C k = 0) (h : DInt (own_S C P Q N i) x) : DInt (own_S C P Q 8 i) x := by
  have e := own_Sz (P := P) (Q := Q) z i (8 - N)
  rw [show N + (8 - N) = 8 by omega] at e
  rw [e]; exact h
theorem own_nv (p : Int32) : ((p &&& (2147483647 : Int32)) - ((p &&& (2147483647 : Int32)) / (9 : Int32)) * (9 : Int32)) = 0 ∨ ((p &&& (2147483647 : Int32)) - ((p &&& (2147483647 : Int32)) / (9 : Int32)) * (9 : Int32)) = 1 ∨ ((p &&& (2147483647 : Int32)) - ((p &&& (2147483647 : Int32)) / (9 : Int32)) * (9 : Int32)) = 2 ∨ ((p &&& (2147483647 : Int32)) - ((p &&& (2147483647 : Int32)) / (9 : Int32)) * (9 : Int32)) = 3 ∨ ((p &&& (2147483647 : Int32)) - ((p &&& (2147483647 : Int32)) / (9 : Int32)) * (9 : Int32)) = 4 ∨ ((p &&& (2147483647 : Int32)) - ((p &&& (2147483647 : Int32)) / (9 : Int32)) * (9 : Int32)) = 5 ∨ ((p &&& (2147483647 : Int32)) - ((p &&& (2147483647 : Int32)) / (9 : Int32)) * (9 : Int32)) = 6 ∨ ((p &&& (2147483647 : Int32)) - ((p &&& (2147483647 : Int32)) / (9 : Int32)) * (9 : Int32)) = 7 ∨ ((p &&& (2147483647 : Int32)) - ((p &&& (2147483647 : Int32)) / (9 : Int32)) * (9 : Int32)) = 8 := by
  rw [show ((p &&& (2147483647 : Int32)) - ((p &&& (2147483647 : Int32)) / (9 : Int32)) * (9 : Int32)) = (p &&& (2147483647 : Int32)) % 9 from irem_eq_mod _ _]
  have h1 := c_and p 2147483647 (by decide)
  have h2 := (c_irem (p &&& 2147483647) 9 9 (by decide)).1 h1.1
  have q : ∀ n : Int32, ((p &&& 2147483647) % 9).toInt = n.toInt → (p &&& 2147483647) % 9 = n := fun n h => Int32.toInt_inj.mp h
  generalize ((p &&& 2147483647) % 9) = w at *
  have h : w.toInt = 0 ∨ w.toInt = 1 ∨ w.toInt = 2 ∨ w.toInt = 3 ∨ w.toInt = 4 ∨ w.toInt = 5 ∨ w.toInt = 6 ∨ w.toInt = 7 ∨ w.toInt = 8 := by omega
  rcases h with h | h | h | h | h | h | h | h | h
  · exact Or.inl (q 0 h)
  · exact Or.inr (Or.inl (q 1 h))
  · exact Or.inr (Or.inr (Or.inl (q 2 h)))
  · exact Or.inr (Or.inr (Or.inr (Or.inl (q 3 h))))
  · exact Or.inr (Or.inr (Or.inr (Or.inr (Or.inl (q 4 h)))))
  · exact Or.inr (Or.inr (Or.inr (Or.inr (Or.inr (Or.inl (q 5 h))))))
  · exact Or.inr (Or.inr (Or.inr (Or.inr (Or.inr (Or.inr (Or.inl (q 6 h)))))))
  · exact Or.inr (Or.inr (Or.inr (Or.inr (Or.inr (Or.inr (Or.inr (Or.inl (q 7 h))))))))
  · exact Or.inr (Or.inr (Or.inr (Or.inr (Or.inr (Or.inr (Or.inr (Or.inr (q 8 h))))))))
theorem own_fin8_0_a (x0 x1 x2 x3 x4 x5 x6 x7 : Int) : (((((((((0 : Int) + (x0 * (1))) + (x1 * (0))) + (x2 * (-1))) + (x3 * (0))) + (x4 * (1))) + (x5 * (0))) + (x6 * (-1))) + (x7 * (0))) = 1 * x0 + 0 * x1 + -1 * x2 + 0 * x3 + 1 * x4 + 0 * x5 + -1 * x6 + 0 * x7 := by omega
theorem own_fin8_0_b (x0 x1 x2 x3 x4 x5 x6 x7 : Int) : (((x0 - x2) + x4) - x6) = 1 * x0 + 0 * x1 + -1 * x2 + 0 * x3 + 1 * x4 + 0 * x5 + -1 * x6 + 0 * x7 := by omega
theorem own_fin8_0 (z0 z1 z2 z3 z4 z5 z6 z7 : Int64) (bd_z0 : z0.toInt.natAbs ≤ 2147483648) (bd_z1 : z1.toInt.natAbs ≤ 2147483648) (bd_z2 : z2.toInt.natAbs ≤ 2147483648) (bd_z3 : z3.toInt.natAbs ≤ 2147483648) (bd_z4 : z4.toInt.natAbs ≤ 2147483648) (bd_z5 : z5.toInt.natAbs ≤ 2147483648) (bd_z6 : z6.toInt.natAbs ≤ 2147483648) (bd_z7 : z7.toInt.natAbs ≤ 2147483648) {r : UInt64} (hr : DInt (own_S (own_L [z0.toInt, z1.toInt, z2.toInt, z3.toInt, z4.toInt, z5.toInt, z6.toInt, z7.toInt]) own_P own_Q 8 0) r) : cmpValue (FP.dcmp r (FP.l2d (((z0 - z2) + z4) - z6))) .l = (0 : Int32) := by
  obtain ⟨e2, b2⟩ := own_ls (x := z0) (y := z2) (A := 2147483648) (B := 2147483648) bd_z0 bd_z2 (by decide)
  obtain ⟨e1, b1⟩ := own_la (x := (z0 - z2)) (y := z4) (A := 4294967296) (B := 2147483648) b2 bd_z4 (by decide)
  rw [e2] at e1
  obtain ⟨e0, b0⟩ := own_ls (x := ((z0 - z2) + z4)) (y := z6) (A := 6442450944) (B := 2147483648) b1 bd_z6 (by decide)
  rw [e1] at e0
  have hv : own_S (own_L [z0.toInt, z1.toInt, z2.toInt, z3.toInt, z4.toInt, z5.toInt, z6.toInt, z7.toInt]) own_P own_Q 8 0 = 1 * z0.toInt + 0 * z1.toInt + -1 * z2.toInt + 0 * z3.toInt + 1 * z4.toInt + 0 * z5.toInt + -1 * z6.toInt + 0 * z7.toInt := by
    show (((((((((0 : Int) + (z0.toInt * own_T own_P own_Q 0 0)) + (z1.toInt * own_T own_P own_Q 1 0)) + (z2.toInt * own_T own_P own_Q 2 0)) + (z3.toInt * own_T own_P own_Q 3 0)) + (z4.toInt * own_T own_P own_Q 4 0)) + (z5.toInt * own_T own_P own_Q 5 0)) + (z6.toInt * own_T own_P own_Q 6 0)) + (z7.toInt * own_T own_P own_Q 7 0)) = _
    rw [show own_T own_P own_Q 0 0 = 1 from by decide +kernel, show own_T own_P own_Q 1 0 = 0 from by decide +kernel, show own_T own_P own_Q 2 0 = -1 from by decide +kernel, show own_T own_P own_Q 3 0 = 0 from by decide +kernel, show own_T own_P own_Q 4 0 = 1 from by decide +kernel, show own_T own_P own_Q 5 0 = 0 from by decide +kernel, show own_T own_P own_Q 6 0 = -1 from by decide +kernel, show own_T own_P own_Q 7 0 = 0 from by decide +kernel]
    exact own_fin8_0_a z0.toInt z1.toInt z2.toInt z3.toInt z4.toInt z5.toInt z6.toInt z7.toInt
  rw [hv] at hr
  have ek : (((z0 - z2) + z4) - z6).toInt = 1 * z0.toInt + 0 * z1.toInt + -1 * z2.toInt + 0 * z3.toInt + 1 * z4.toInt + 0 * z5.toInt + -1 * z6.toInt + 0 * z7.toInt := e0.trans (own_fin8_0_b z0.toInt z1.toInt z2.toInt z3.toInt z4.toInt z5.toInt z6.toInt z7.toInt)
  have hk : DInt (((z0 - z2) + z4) - z6).toInt (FP.l2d (((z0 - z2) + z4) - z6)) := l2d_int (Nat.le_trans b0 (by decide))
  rw [dcmpZ hr hk]
  exact (cmpZ_eq _ _).mpr ek.symm
theorem own_fin8_1_a (x0 x1 x2 x3 x4 x5 x6 x7 : Int) : (((((((((0 : Int) + (x0 * (0))) + (x1 * (2))) + (x2 * (0))) + (x3 * (-4))) + (x4 * (0))) + (x5 * (6))) + (x6 * (0))) + (x7 * (-8))) = 0 * x0 + 2 * x1 + 0 * x2 + -4 * x3 + 0 * x4 + 6 * x5 + 0 * x6 + -8 * x7 := by omega
theorem own_fin8_1_b (x0 x1 x2 x3 x4 x5 x6 x7 : Int) : ((((2 * x1) - (4 * x3)) + (6 * x5)) - (8 * x7)) = 0 * x0 + 2 * x1 + 0 * x2 + -4 * x3 + 0 * x4 + 6 * x5 + 0 * x6 + -8 * x7 := by omega
theorem own_fin8_1 (z0 z1 z2 z3 z4 z5 z6 z7 : Int64) (bd_z0 : z0.toInt.natAbs ≤ 2147483648) (bd_z1 : z1.toInt.natAbs ≤ 2147483648) (bd_z2 : z2.toInt.natAbs ≤ 2147483648) (bd_z3 : z3.toInt.natAbs ≤ 2147483648) (bd_z4 : z4.toInt.natAbs ≤ 2147483648) (bd_z5 : z5.toInt.natAbs ≤ 2147483648) (bd_z6 : z6.toInt.natAbs ≤ 2147483648) (bd_z7 : z7.toInt.natAbs ≤ 2147483648) {r : UInt64} (hr : DInt (own_S (own_L [z0.toInt, z1.toInt, z2.toInt, z3.toInt, z4.toInt, z5.toInt, z6.toInt, z7.toInt]) own_P own_Q 8 1) r) : cmpValue (FP.dcmp r (FP.l2d (((((2 : Int64) * z1) - ((4 : Int64) * z3)) + ((6 : Int64) * z5)) - ((8 : Int64) * z7)))) .l = (0 : Int32) := by
  obtain ⟨e3, b3⟩ := own_lm (k := (2 : Int64)) (x := z1) (K := 2) (by decide) (by decide) bd_z1
  obtain ⟨e4, b4⟩ := own_lm (k := (4 : Int64)) (x := z3) (K := 4) (by decide) (by decide) bd_z3
  obtain ⟨e2, b2⟩ := own_ls (x := ((2 : Int64) * z1)) (y := ((4 : Int64) * z3)) (A := 549755813888) (B := 549755813888) b3 b4 (by decide)
  rw [e3] at e2
  rw [e4] at e2
  obtain ⟨e5, b5⟩ := own_lm (k := (6 : Int64)) (x := z5) (K := 6) (by decide) (by decide) bd_z5
  obtain ⟨e1, b1⟩ := own_la (x := (((2 : Int64) * z1) - ((4 : Int64) * z3))) (y := ((6 : Int64) * z5)) (A := 1099511627776) (B := 549755813888) b2 b5 (by decide)
  rw [e2] at e1
  rw [e5] at e1
  obtain ⟨e6, b6⟩ := own_lm (k := (8 : Int64)) (x := z7) (K := 8) (by decide) (by decide) bd_z7
  obtain ⟨e0, b0⟩ := own_ls (x := ((((2 : Int64) * z1) - ((4 : Int64) * z3)) + ((6 : Int64) * z5))) (y := ((8 : Int64) * z7)) (A := 1649267441664) (B := 549755813888) b1 b6 (by decide)
  rw [e1] at e0
  rw [e6] at e0
  have hv : own_S (own_L [z0.toInt, z1.toInt, z2.toInt, z3.toInt, z4.toInt, z5.toInt, z6.toInt, z7.toInt]) own_P own_Q 8 1 = 0 * z0.toInt + 2 * z1.toInt + 0 * z2.toInt + -4 * z3.toInt + 0 * z4.toInt + 6 * z5.toInt + 0 * z6.toInt + -8 * z7.toInt := by
    show (((((((((0 : Int) + (z0.toInt * own_T own_P own_Q 0 1)) + (z1.toInt * own_T own_P own_Q 1 1)) + (z2.toInt * own_T own_P own_Q 2 1)) + (z3.toInt * own_T own_P own_Q 3 1)) + (z4.toInt * own_T own_P own_Q 4 1)) + (z5.toInt * own_T own_P own_Q 5 1)) + (z6.toInt * own_T own_P own_Q 6 1)) + (z7.toInt * own_T own_P own_Q 7 1)) = _
    rw [show own_T own_P own_Q 0 1 = 0 from by decide +kernel, show own_T own_P own_Q 1 1 = 2 from by decide +kernel, show own_T own_P own_Q 2 1 = 0 from by decide +kernel, show own_T own_P own_Q 3 1 = -4 from by decide +kernel, show own_T own_P own_Q 4 1 = 0 from by decide +kernel, show own_T own_P own_Q 5 1 = 6 from by decide +kernel, show own_T own_P own_Q 6 1 = 0 from by decide +kernel, show own_T own_P own_Q 7 1 = -8 from by decide +kernel]
    exact own_fin8_1_a z0.toInt z1.toInt z2.toInt z3.toInt z4.toInt z5.toInt z6.toInt z7.toInt
  rw [hv] at hr
  have ek : (((((2 : Int64) * z1) - ((4 : Int64) * z3)) + ((6 : Int64) * z5)) - ((8 : Int64) * z7)).toInt = 0 * z0.toInt + 2 * z1.toInt + 0 * z2.toInt + -4 * z3.toInt + 0 * z4.toInt + 6 * z5.toInt + 0 * z6.toInt + -8 * z7.toInt := e0.trans (own_fin8_1_b z0.toInt z1.toInt z2.toInt z3.toInt z4.toInt z5.toInt z6.toInt z7.toInt)
  have hk : DInt (((((2 : Int64) * z1) - ((4 : Int64) * z3)) + ((6 : Int64) * z5)) - ((8 : Int64) * z7)).toInt (FP.l2d (((((2 : Int64) * z1) - ((4 : Int64) * z3)) + ((6 : Int64) * z5)) - ((8 : Int64) * z7))) := l2d_int (Nat.le_trans b0 (by decide))
  rw [dcmpZ hr hk]
  exact (cmpZ_eq _ _).mpr ek.symm
theorem own_fin8_2_a (x0 x1 x2 x3 x4 x5 x6 x7 : Int) : (((((((((0 : Int) + (x0 * (0))) + (x1 * (0))) + (x2 * (4))) + (x3 * (0))) + (x4 * (-12))) + (x5 * (0))) + (x6 * (24))) + (x7 * (0))) = 0 * x0 + 0 * x1 + 4 * x2 + 0 * x3 + -12 * x4 + 0 * x5 + 24 * x6 + 0 * x7 := by omega
theorem own_fin8_2_b (x0 x1 x2 x3 x4 x5 x6 x7 : Int) : (((4 * x2) - (12 * x4)) + (24 * x6)) = 0 * x0 + 0 * x1 + 4 * x2 + 0 * x3 + -12 * x4 + 0 * x5 + 24 * x6 + 0 * x7 := by omega
theorem own_fin8_2 (z0 z1 z2 z3 z4 z5 z6 z7 : Int64) (bd_z0 : z0.toInt.natAbs ≤ 2147483648) (bd_z1 : z1.toInt.natAbs ≤ 2147483648) (bd_z2 : z2.toInt.natAbs ≤ 2147483648) (bd_z3 : z3.toInt.natAbs ≤ 2147483648) (bd_z4 : z4.toInt.natAbs ≤ 2147483648) (bd_z5 : z5.toInt.natAbs ≤ 2147483648) (bd_z6 : z6.toInt.natAbs ≤ 2147483648) (bd_z7 : z7.toInt.natAbs ≤ 2147483648) {r : UInt64} (hr : DInt (own_S (own_L [z0.toInt, z1.toInt, z2.toInt, z3.toInt, z4.toInt, z5.toInt, z6.toInt, z7.toInt]) own_P own_Q 8 2) r) : cmpValue (FP.dcmp r (FP.l2d ((((4 : Int64) * z2) - ((12 : Int64) * z4)) + ((24 : Int64) * z6)))) .l = (0 : Int32) := by
  obtain ⟨e2, b2⟩ := own_lm (k := (4 : Int64)) (x := z2) (K := 4) (by decide) (by decide) bd_z2
  obtain ⟨e3, b3⟩ := own_lm (k := (12 : Int64)) (x := z4) (K := 12) (by decide) (by decide) bd_z4
  obtain ⟨e1, b1⟩ := own_ls (x := ((4 : Int64) * z2)) (y := ((12 : Int64) * z4)) (A := 549755813888) (B := 549755813888) b2 b3 (by decide)
  rw [e2] at e1
  rw [e3] at e1
  obtain ⟨e4, b4⟩ := own_lm (k := (24 : Int64)) (x := z6) (K := 24) (by decide) (by decide) bd_z6
  obtain ⟨e0, b0⟩ := own_la (x := (((4 : Int64) * z2) - ((12 : Int64) * z4))) (y := ((24 : Int64) * z6)) (A := 1099511627776) (B := 549755813888) b1 b4 (by decide)
  rw [e1] at e0
  rw [e4] at e0
  have hv : own_S (own_L [z0.toInt, z1.toInt, z2.toInt, z3.toInt, z4.toInt, z5.toInt, z6.toInt, z7.toInt]) own_P own_Q 8 2 = 0 * z0.toInt + 0 * z1.toInt + 4 * z2.toInt + 0 * z3.toInt + -12 * z4.toInt + 0 * z5.toInt + 24 * z6.toInt + 0 * z7.toInt := by
    show (((((((((0 : Int) + (z0.toInt * own_T own_P own_Q 0 2)) + (z1.toInt * own_T own_P own_Q 1 2)) + (z2.toInt * own_T own_P own_Q 2 2)) + (z3.toInt * own_T own_P own_Q 3 2)) + (z4.toInt * own_T own_P own_Q 4 2)) + (z5.toInt * own_T own_P own_Q 5 2)) + (z6.toInt * own_T own_P own_Q 6 2)) + (z7.toInt * own_T own_P own_Q 7 2)) = _
    rw [show own_T own_P own_Q 0 2 = 0 from by decide +kernel, show own_T own_P own_Q 1 2 = 0 from by decide +kernel, show own_T own_P own_Q 2 2 = 4 from by decide +kernel, show own_T own_P own_Q 3 2 = 0 from by decide +kernel, show own_T own_P own_Q 4 2 = -12 from by decide +kernel, show own_T own_P own_Q 5 2 = 0 from by decide +kernel, show own_T own_P own_Q 6 2 = 24 from by decide +kernel, show own_T own_P own_Q 7 2 = 0 from by decide +kernel]
    exact own_fin8_2_a z0.toInt z1.toInt z2.toInt z3.toInt z4.toInt z5.toInt z6.toInt z7.toInt
  rw [hv] at hr
  have ek : ((((4 : Int64) * z2) - ((12 : Int64) * z4)) + ((24 : Int64) * z6)).toInt = 0 * z0.toInt + 0 * z1.toInt + 4 * z2.toInt + 0 * z3.toInt + -12 * z4.toInt + 0 * z5.toInt + 24 * z6.toInt + 0 * z7.toInt := e0.trans (own_fin8_2_b z0.toInt z1.toInt z2.toInt z3.toInt z4.toInt z5.toInt z6.toInt z7.toInt)
  have hk : DInt ((((4 : Int64) * z2) - ((12 : Int64) * z4)) + ((24 : Int64) * z6)).toInt (FP.l2d ((((4 : Int64) * z2) - ((12 : Int64) * z4)) + ((24 : Int64) * z6))) := l2d_int (Nat.le_trans b0 (by decide))
  rw [dcmpZ hr hk]
  exact (cmpZ_eq _ _).mpr ek.symm
theorem own_fin8_3_a (x0 x1 x2 x3 x4 x5 x6 x7 : Int) : (((((((((0 : Int) + (x0 * (0))) + (x1 * (0))) + (x2 * (0))) + (x3 * (8))) + (x4 * (0))) + (x5 * (-32))) + (x6 * (0))) + (x7 * (80))) = 0 * x0 + 0 * x1 + 0 * x2 + 8 * x3 + 0 * x4 + -32 * x5 + 0 * x6 + 80 * x7 := by omega
theorem own_fin8_3_b (x0 x1 x2 x3 x4 x5 x6 x7 : Int) : (((8 * x3) - (32 * x5)) + (80 * x7)) = 0 * x0 + 0 * x1 + 0 * x2 + 8 * x3 + 0 * x4 + -32 * x5 + 0 * x6 + 80 * x7 := by omega
theorem own_fin8_3 (z0 z1 z2 z3 z4 z5 z6 z7 : Int64) (bd_z0 : z0.toInt.natAbs ≤ 2147483648) (bd_z1 : z1.toInt.natAbs ≤ 2147483648) (bd_z2 : z2.toInt.natAbs ≤ 2147483648) (bd_z3 : z3.toInt.natAbs ≤ 2147483648) (bd_z4 : z4.toInt.natAbs ≤ 2147483648) (bd_z5 : z5.toInt.natAbs ≤ 2147483648) (bd_z6 : z6.toInt.natAbs ≤ 2147483648) (bd_z7 : z7.toInt.natAbs ≤ 2147483648) {r : UInt64} (hr : DInt (own_S (own_L [z0.toInt, z1.toInt, z2.toInt, z3.toInt, z4.toInt, z5.toInt, z6.toInt, z7.toInt]) own_P own_Q 8 3) r) : cmpValue (FP.dcmp r (FP.l2d ((((8 : Int64) * z3) - ((32 : Int64) * z5)) + ((80 : Int64) * z7)))) .l = (0 : Int32) := by
  obtain ⟨e2, b2⟩ := own_lm (k := (8 : Int64)) (x := z3) (K := 8) (by decide) (by decide) bd_z3
  obtain ⟨e3, b3⟩ := own_lm (k := (32 : Int64)) (x := z5) (K := 32) (by decide) (by decide) bd_z5
  obtain ⟨e1, b1⟩ := own_ls (x := ((8 : Int64) * z3)) (y := ((32 : Int64) * z5)) (A := 549755813888) (B := 549755813888) b2 b3 (by decide)
  rw [e2] at e1
  rw [e3] at e1
  obtain ⟨e4, b4⟩ := own_lm (k := (80 : Int64)) (x := z7) (K := 80) (by decide) (by decide) bd_z7
  obtain ⟨e0, b0⟩ := own_la (x := (((8 : Int64) * z3) - ((32 : Int64) * z5))) (y := ((80 : Int64) * z7)) (A := 1099511627776) (B := 549755813888) b1 b4 (by decide)
  rw [e1] at e0
  rw [e4] at e0
  have hv : own_S (own_L [z0.toInt, z1.toInt, z2.toInt, z3.toInt, z4.toInt, z5.toInt, z6.toInt, z7.toInt]) own_P own_Q 8 3 = 0 * z0.toInt + 0 * z1.toInt + 0 * z2.toInt + 8 * z3.toInt + 0 * z4.toInt + -32 * z5.toInt + 0 * z6.toInt + 80 * z7.toInt := by
    show (((((((((0 : Int) + (z0.toInt * own_T own_P own_Q 0 3)) + (z1.toInt * own_T own_P own_Q 1 3)) + (z2.toInt * own_T own_P own_Q 2 3)) + (z3.toInt * own_T own_P own_Q 3 3)) + (z4.toInt * own_T own_P own_Q 4 3)) + (z5.toInt * own_T own_P own_Q 5 3)) + (z6.toInt * own_T own_P own_Q 6 3)) + (z7.toInt * own_T own_P own_Q 7 3)) = _
    rw [show own_T own_P own_Q 0 3 = 0 from by decide +kernel, show own_T own_P own_Q 1 3 = 0 from by decide +kernel, show own_T own_P own_Q 2 3 = 0 from by decide +kernel, show own_T own_P own_Q 3 3 = 8 from by decide +kernel, show own_T own_P own_Q 4 3 = 0 from by decide +kernel, show own_T own_P own_Q 5 3 = -32 from by decide +kernel, show own_T own_P own_Q 6 3 = 0 from by decide +kernel, show own_T own_P own_Q 7 3 = 80 from by decide +kernel]
    exact own_fin8_3_a z0.toInt z1.toInt z2.toInt z3.toInt z4.toInt z5.toInt z6.toInt z7.toInt
  rw [hv] at hr
  have ek : ((((8 : Int64) * z3) - ((32 : Int64) * z5)) + ((80 : Int64) * z7)).toInt = 0 * z0.toInt + 0 * z1.toInt + 0 * z2.toInt + 8 * z3.toInt + 0 * z4.toInt + -32 * z5.toInt + 0 * z6.toInt + 80 * z7.toInt := e0.trans (own_fin8_3_b z0.toInt z1.toInt z2.toInt z3.toInt z4.toInt z5.toInt z6.toInt z7.toInt)
  have hk : DInt ((((8 : Int64) * z3) - ((32 : Int64) * z5)) + ((80 : Int64) * z7)).toInt (FP.l2d ((((8 : Int64) * z3) - ((32 : Int64) * z5)) + ((80 : Int64) * z7))) := l2d_int (Nat.le_trans b0 (by decide))
  rw [dcmpZ hr hk]
  exact (cmpZ_eq _ _).mpr ek.symm
theorem own_fin8_4_a (x0 x1 x2 x3 x4 x5 x6 x7 : Int) : (((((((((0 : Int) + (x0 * (0))) + (x1 * (0))) + (x2 * (0))) + (x3 * (0))) + (x4 * (16))) + (x5 * (0))) + (x6 * (-80))) + (x7 * (0))) = 0 * x0 + 0 * x1 + 0 * x2 + 0 * x3 + 16 * x4 + 0 * x5 + -80 * x6 + 0 * x7 := by omega
theorem own_fin8_4_b (x0 x1 x2 x3 x4 x5 x6 x7 : Int) : ((16 * x4) - (80 * x6)) = 0 * x0 + 0 * x1 + 0 * x2 + 0 * x3 + 16 * x4 + 0 * x5 + -80 * x6 + 0 * x7 := by omega
theorem own_fin8_4 (z0 z1 z2 z3 z4 z5 z6 z7 : Int64) (bd_z0 : z0.toInt.natAbs ≤ 2147483648) (bd_z1 : z1.toInt.natAbs ≤ 2147483648) (bd_z2 : z2.toInt.natAbs ≤ 2147483648) (bd_z3 : z3.toInt.natAbs ≤ 2147483648) (bd_z4 : z4.toInt.natAbs ≤ 2147483648) (bd_z5 : z5.toInt.natAbs ≤ 2147483648) (bd_z6 : z6.toInt.natAbs ≤ 2147483648) (bd_z7 : z7.toInt.natAbs ≤ 2147483648) {r : UInt64} (hr : DInt (own_S (own_L [z0.toInt, z1.toInt, z2.toInt, z3.toInt, z4.toInt, z5.toInt, z6.toInt, z7.toInt]) own_P own_Q 8 4) r) : cmpValue (FP.dcmp r (FP.l2d (((16 : Int64) * z4) - ((80 : Int64) * z6)))) .l = (0 : Int32) := by
  obtain ⟨e1, b1⟩ := own_lm (k := (16 : Int64)) (x := z4) (K := 16) (by decide) (by decide) bd_z4
  obtain ⟨e2, b2⟩ := own_lm (k := (80 : Int64)) (x := z6) (K := 80) (by decide) (by decide) bd_z6
  obtain ⟨e0, b0⟩ := own_ls (x := ((16 : Int64) * z4)) (y := ((80 : Int64) * z6)) (A := 549755813888) (B := 549755813888) b1 b2 (by decide)
  rw [e1] at e0
  rw [e2] at e0
  have hv : own_S (own_L [z0.toInt, z1.toInt, z2.toInt, z3.toInt, z4.toInt, z5.toInt, z6.toInt, z7.toInt]) own_P own_Q 8 4 = 0 * z0.toInt + 0 * z1.toInt + 0 * z2.toInt + 0 * z3.toInt + 16 * z4.toInt + 0 * z5.toInt + -80 * z6.toInt + 0 * z7.toInt := by
    show (((((((((0 : Int) + (z0.toInt * own_T own_P own_Q 0 4)) + (z1.toInt * own_T own_P own_Q 1 4)) + (z2.toInt * own_T own_P own_Q 2 4)) + (z3.toInt * own_T own_P own_Q 3 4)) + (z4.toInt * own_T own_P own_Q 4 4)) + (z5.toInt * own_T own_P own_Q 5 4)) + (z6.toInt * own_T own_P own_Q 6 4)) + (z7.toInt * own_T own_P own_Q 7 4)) = _
    rw [show own_T own_P own_Q 0 4 = 0 from by decide +kernel, show own_T own_P own_Q 1 4 = 0 from by decide +kernel, show own_T own_P own_Q 2 4 = 0 from by decide +kernel, show own_T own_P own_Q 3 4 = 0 from by decide +kernel, show own_T own_P own_Q 4 4 = 16 from by decide +kernel, show own_T own_P own_Q 5 4 = 0 from by decide +kernel, show own_T own_P own_Q 6 4 = -80 from by decide +kernel, show own_T own_P own_Q 7 4 = 0 from by decide +kernel]
    exact own_fin8_4_a z0.toInt z1.toInt z2.toInt z3.toInt z4.toInt z5.toInt z6.toInt z7.toInt
  rw [hv] at hr
  have ek : (((16 : Int64) * z4) - ((80 : Int64) * z6)).toInt = 0 * z0.toInt + 0 * z1.toInt + 0 * z2.toInt + 0 * z3.toInt + 16 * z4.toInt + 0 * z5.toInt + -80 * z6.toInt + 0 * z7.toInt := e0.trans (own_fin8_4_b z0.toInt z1.toInt z2.toInt z3.toInt z4.toInt z5.toInt z6.toInt z7.toInt)
  have hk : DInt (((16 : Int64) * z4) - ((80 : Int64) * z6)).toInt (FP.l2d (((16 : Int64) * z4) - ((80 : Int64) * z6))) := l2d_int (Nat.le_trans b0 (by decide))
  rw [dcmpZ hr hk]
  exact (cmpZ_eq _ _).mpr ek.symm
theorem own_fin8_5_a (x0 x1 x2 x3 x4 x5 x6 x7 : Int) : (((((((((0 : Int) + (x0 * (0))) + (x1 * (0))) + (x2 * (0))) + (x3 * (0))) + (x4 * (0))) + (x5 * (32))) + (x6 * (0))) + (x7 * (-192))) = 0 * x0 + 0 * x1 + 0 * x2 + 0 * x3 + 0 * x4 + 32 * x5 + 0 * x6 + -192 * x7 := by omega
theorem own_fin8_5_b (x0 x1 x2 x3 x4 x5 x6 x7 : Int) : ((32 * x5) - (192 * x7)) = 0 * x0 + 0 * x1 + 0 * x2 + 0 * x3 + 0 * x4 + 32 * x5 + 0 * x6 + -192 * x7 := by omega
theorem own_fin8_5 (z0 z1 z2 z3 z4 z5 z6 z7 : Int64) (bd_z0 : z0.toInt.natAbs ≤ 2147483648) (bd_z1 : z1.toInt.natAbs ≤ 2147483648) (bd_z2 : z2.toInt.natAbs ≤ 2147483648) (bd_z3 : z3.toInt.natAbs ≤ 2147483648) (bd_z4 : z4.toInt.natAbs ≤ 2147483648) (bd_z5 : z5.toInt.natAbs ≤ 2147483648) (bd_z6 : z6.toInt.natAbs ≤ 2147483648) (bd_z7 : z7.toInt.natAbs ≤ 2147483648) {r : UInt64} (hr : DInt (own_S (own_L [z0.toInt, z1.toInt, z2.toInt, z3.toInt, z4.toInt, z5.toInt, z6.toInt, z7.toInt]) own_P own_Q 8 5) r) : cmpValue (FP.dcmp r (FP.l2d (((32 : Int64) * z5) - ((192 : Int64) * z7)))) .l = (0 : Int32) := by
  obtain ⟨e1, b1⟩ := own_lm (k := (32 : Int64)) (x := z5) (K := 32) (by decide) (by decide) bd_z5
  obtain ⟨e2, b2⟩ := own_lm (k := (192 : Int64)) (x := z7) (K := 192) (by decide) (by decide) bd_z7
  obtain ⟨e0, b0⟩ := own_ls (x := ((32 : Int64) * z5)) (y := ((192 : Int64) * z7)) (A := 549755813888) (B := 549755813888) b1 b2 (by decide)
  rw [e1] at e0
  rw [e2] at e0
  have hv : own_S (own_L [z0.toInt, z1.toInt, z2.toInt, z3.toInt, z4.toInt, z5.toInt, z6.toInt, z7.toInt]) own_P own_Q 8 5 = 0 * z0.toInt + 0 * z1.toInt + 0 * z2.toInt + 0 * z3.toInt + 0 * z4.toInt + 32 * z5.toInt + 0 * z6.toInt + -192 * z7.toInt := by
    show (((((((((0 : Int) + (z0.toInt * own_T own_P own_Q 0 5)) + (z1.toInt * own_T own_P own_Q 1 5)) + (z2.toInt * own_T own_P own_Q 2 5)) + (z3.toInt * own_T own_P own_Q 3 5)) + (z4.toInt * own_T own_P own_Q 4 5)) + (z5.toInt * own_T own_P own_Q 5 5)) + (z6.toInt * own_T own_P own_Q 6 5)) + (z7.toInt * own_T own_P own_Q 7 5)) = _
    rw [show own_T own_P own_Q 0 5 = 0 from by decide +kernel, show own_T own_P own_Q 1 5 = 0 from by decide +kernel, show own_T own_P own_Q 2 5 = 0 from by decide +kernel, show own_T own_P own_Q 3 5 = 0 from by decide +kernel, show own_T own_P own_Q 4 5 = 0 from by decide +kernel, show own_T own_P own_Q 5 5 = 32 from by decide +kernel, show own_T own_P own_Q 6 5 = 0 from by decide +kernel, show own_T own_P own_Q 7 5 = -192 from by decide +kernel]
    exact own_fin8_5_a z0.toInt z1.toInt z2.toInt z3.toInt z4.toInt z5.toInt z6.toInt z7.toInt
  rw [hv] at hr
  have ek : (((32 : Int64) * z5) - ((192 : Int64) * z7)).toInt = 0 * z0.toInt + 0 * z1.toInt + 0 * z2.toInt + 0 * z3.toInt + 0 * z4.toInt + 32 * z5.toInt + 0 * z6.toInt + -192 * z7.toInt := e0.trans (own_fin8_5_b z0.toInt z1.toInt z2.toInt z3.toInt z4.toInt z5.toInt z6.toInt z7.toInt)
  have hk : DInt (((32 : Int64) * z5) - ((192 : Int64) * z7)).toInt (FP.l2d (((32 : Int64) * z5) - ((192 : Int64) * z7))) := l2d_int (Nat.le_trans b0 (by decide))
  rw [dcmpZ hr hk]
  exact (cmpZ_eq _ _).mpr ek.symm
theorem own_fin8_6_a (x0 x1 x2 x3 x4 x5 x6 x7 : Int) : (((((((((0 : Int) + (x0 * (0))) + (x1 * (0))) + (x2 * (0))) + (x3 * (0))) + (x4 * (0))) + (x5 * (0))) + (x6 * (64))) + (x7 * (0))) = 0 * x0 + 0 * x1 + 0 * x2 + 0 * x3 + 0 * x4 + 0 * x5 + 64 * x6 + 0 * x7 := by omega
theorem own_fin8_6_b (x0 x1 x2 x3 x4 x5 x6 x7 : Int) : (64 * x6) = 0 * x0 + 0 * x1 + 0 * x2 + 0 * x3 + 0 * x4 + 0 * x5 + 64 * x6 + 0 * x7 := by omega
theorem own_fin8_6 (z0 z1 z2 z3 z4 z5 z6 z7 : Int64) (bd_z0 : z0.toInt.natAbs ≤ 2147483648) (bd_z1 : z1.toInt.natAbs ≤ 2147483648) (bd_z2 : z2.toInt.natAbs ≤ 2147483648) (bd_z3 : z3.toInt.natAbs ≤ 2147483648) (bd_z4 : z4.toInt.natAbs ≤ 2147483648) (bd_z5 : z5.toInt.natAbs ≤ 2147483648) (bd_z6 : z6.toInt.natAbs ≤ 2147483648) (bd_z7 : z7.toInt.natAbs ≤ 2147483648) {r : UInt64} (hr : DInt (own_S (own_L [z0.toInt, z1.toInt, z2.toInt, z3.toInt, z4.toInt, z5.toInt, z6.toInt, z7.toInt]) own_P own_Q 8 6) r) : cmpValue (FP.dcmp r (FP.l2d ((64 : Int64) * z6))) .l = (0 : Int32) := by
  obtain ⟨e0, b0⟩ := own_lm (k := (64 : Int64)) (x := z6) (K := 64) (by decide) (by decide) bd_z6
  have hv : own_S (own_L [z0.toInt, z1.toInt, z2.toInt, z3.toInt, z4.toInt, z5.toInt, z6.toInt, z7.toInt]) own_P own_Q 8 6 = 0 * z0.toInt + 0 * z1.toInt + 0 * z2.toInt + 0 * z3.toInt + 0 * z4.toInt + 0 * z5.toInt + 64 * z6.toInt + 0 * z7.toInt := by
    show (((((((((0 : Int) + (z0.toInt * own_T own_P own_Q 0 6)) + (z1.toInt * own_T own_P own_Q 1 6)) + (z2.toInt * own_T own_P own_Q 2 6)) + (z3.toInt * own_T own_P own_Q 3 6)) + (z4.toInt * own_T own_P own_Q 4 6)) + (z5.toInt * own_T own_P own_Q 5 6)) + (z6.toInt * own_T own_P own_Q 6 6)) + (z7.toInt * own_T own_P own_Q 7 6)) = _
    rw [show own_T own_P own_Q 0 6 = 0 from by decide +kernel, show own_T own_P own_Q 1 6 = 0 from by decide +kernel, show own_T own_P own_Q 2 6 = 0 from by decide +kernel, show own_T own_P own_Q 3 6 = 0 from by decide +kernel, show own_T own_P own_Q 4 6 = 0 from by decide +kernel, show own_T own_P own_Q 5 6 = 0 from by decide +kernel, show own_T own_P own_Q 6 6 = 64 from by decide +kernel, show own_T own_P own_Q 7 6 = 0 from by decide +kernel]
    exact own_fin8_6_a z0.toInt z1.toInt z2.toInt z3.toInt z4.toInt z5.toInt z6.toInt z7.toInt
  rw [hv] at hr
  have ek : ((64 : Int64) * z6).toInt = 0 * z0.toInt + 0 * z1.toInt + 0 * z2.toInt + 0 * z3.toInt + 0 * z4.toInt + 0 * z5.toInt + 64 * z6.toInt + 0 * z7.toInt := e0.trans (own_fin8_6_b z0.toInt z1.toInt z2.toInt z3.toInt z4.toInt z5.toInt z6.toInt z7.toInt)
  have hk : DInt ((64 : Int64) * z6).toInt (FP.l2d ((64 : Int64) * z6)) := l2d_int (Nat.le_trans b0 (by decide))
  rw [dcmpZ hr hk]
  exact (cmpZ_eq _ _).mpr ek.symm
theorem own_fin8_7_a (x0 x1 x2 x3 x4 x5 x6 x7 : Int) : (((((((((0 : Int) + (x0 * (0))) + (x1 * (0))) + (x2 * (0))) + (x3 * (0))) + (x4 * (0))) + (x5 * (0))) + (x6 * (0))) + (x7 * (128))) = 0 * x0 + 0 * x1 + 0 * x2 + 0 * x3 + 0 * x4 + 0 * x5 + 0 * x6 + 128 * x7 := by omega
theorem own_fin8_7_b (x0 x1 x2 x3 x4 x5 x6 x7 : Int) : (128 * x7) = 0 * x0 + 0 * x1 + 0 * x2 + 0 * x3 + 0 * x4 + 0 * x5 + 0 * x6 + 128 * x7 := by omega
theorem own_fin8_7 (z0 z1 z2 z3 z4 z5 z6 z7 : Int64) (bd_z0 : z0.toInt.natAbs ≤ 2147483648) (bd_z1 : z1.toInt.natAbs ≤ 2147483648) (bd_z2 : z2.toInt.natAbs ≤ 2147483648) (bd_z3 : z3.toInt.natAbs ≤ 2147483648) (bd_z4 : z4.toInt.natAbs ≤ 2147483648) (bd_z5 : z5.toInt.natAbs ≤ 2147483648) (bd_z6 : z6.toInt.natAbs ≤ 2147483648) (bd_z7 : z7.toInt.natAbs ≤ 2147483648) {r : UInt64} (hr : DInt (own_S (own_L [z0.toInt, z1.toInt, z2.toInt, z3.toInt, z4.toInt, z5.toInt, z6.toInt, z7.toInt]) own_P own_Q 8 7) r) : cmpValue (FP.dcmp r (FP.l2d ((128 : Int64) * z7))) .l = (0 : Int32) := by
  obtain ⟨e0, b0⟩ := own_lm (k := (128 : Int64)) (x := z7) (K := 128) (by decide) (by decide) bd_z7
  have hv : own_S (own_L [z0.toInt, z1.toInt, z2.toInt, z3.toInt, z4.toInt, z5.toInt, z6.toInt, z7.toInt]) own_P own_Q 8 7 = 0 * z0.toInt + 0 * z1.toInt + 0 * z2.toInt + 0 * z3.toInt + 0 * z4.toInt + 0 * z5.toInt + 0 * z6.toInt + 128 * z7.toInt := by
    show (((((((((0 : Int) + (z0.toInt * own_T own_P own_Q 0 7)) + (z1.toInt * own_T own_P own_Q 1 7)) + (z2.toInt * own_T own_P own_Q 2 7)) + (z3.toInt * own_T own_P own_Q 3 7)) + (z4.toInt * own_T own_P own_Q 4 7)) + (z5.toInt * own_T own_P own_Q 5 7)) + (z6.toInt * own_T own_P own_Q 6 7)) + (z7.toInt * own_T own_P own_Q 7 7)) = _
    rw [show own_T own_P own_Q 0 7 = 0 from by decide +kernel, show own_T own_P own_Q 1 7 = 0 from by decide +kernel, show own_T own_P own_Q 2 7 = 0 from by decide +kernel, show own_T own_P own_Q 3 7 = 0 from by decide +kernel, show own_T own_P own_Q 4 7 = 0 from by decide +kernel, show own_T own_P own_Q 5 7 = 0 from by decide +kernel, show own_T own_P own_Q 6 7 = 0 from by decide +kernel, show own_T own_P own_Q 7 7 = 128 from by decide +kernel]
    exact own_fin8_7_a z0.toInt z1.toInt z2.toInt z3.toInt z4.toInt z5.toInt z6.toInt z7.toInt
  rw [hv] at hr
  have ek : ((128 : Int64) * z7).toInt = 0 * z0.toInt + 0 * z1.toInt + 0 * z2.toInt + 0 * z3.toInt + 0 * z4.toInt + 0 * z5.toInt + 0 * z6.toInt + 128 * z7.toInt := e0.trans (own_fin8_7_b z0.toInt z1.toInt z2.toInt z3.toInt z4.toInt z5.toInt z6.toInt z7.toInt)
  have hk : DInt ((128 : Int64) * z7).toInt (FP.l2d ((128 : Int64) * z7)) := l2d_int (Nat.le_trans b0 (by decide))
  rw [dcmpZ hr hk]
  exact (cmpZ_eq _ _).mpr ek.symm
theorem tw0 {a0 : Array Value} {Z : State} (hw : ∀ d ∈ tables_1, d.before a0 Z = true) : (Jvm.Cond.constant "com/example/graticule/graticule/referencing/operation/SineSeriesPolynomialPinLaw" (7 : Nat) (2147483647 : Int32)).before a0 Z = true := hw _ (List.mem_of_getElem? (i := 0) rfl)
theorem tw1 {a0 : Array Value} {Z : State} (hw : ∀ d ∈ tables_1, d.before a0 Z = true) : (Jvm.Cond.arrayClass Jvm.ClassFile.FieldType.double).before a0 Z = true := hw _ (List.mem_of_getElem? (i := 1) rfl)
theorem tw2 {a0 : Array Value} {Z : State} (hw : ∀ d ∈ tables_1, d.before a0 Z = true) : (Jvm.Cond.methodLink "com/example/graticule/graticule/referencing/operation/SineSeriesPolynomialPinLaw" (8 : Nat) ({ cls := "com/example/graticule/graticule/referencing/operation/SineSeriesPolynomialPinLaw", name := "put", desc := "([DIJ)V" } : Jvm.MethodName)).before a0 Z = true := hw _ (List.mem_of_getElem? (i := 2) rfl)
theorem tw3 {a0 : Array Value} {Z : State} (hw : ∀ d ∈ tables_1, d.before a0 Z = true) : (Jvm.Cond.static ({ cls := "com/example/graticule/graticule/referencing/operation/SineSeriesPolynomialPinLaw", name := "put", desc := "([DIJ)V" } : Jvm.MethodName)).before a0 Z = true := hw _ (List.mem_of_getElem? (i := 3) rfl)
theorem tw4 {a0 : Array Value} {Z : State} (hw : ∀ d ∈ tables_1, d.before a0 Z = true) : (Jvm.Cond.initialized "com/example/graticule/graticule/referencing/operation/SineSeriesPolynomialPinLaw").before a0 Z = true := hw _ (List.mem_of_getElem? (i := 4) rfl)
theorem tw5 {a0 : Array Value} {Z : State} (hw : ∀ d ∈ tables_1, d.before a0 Z = true) : (Jvm.Cond.code ({ cls := "com/example/graticule/graticule/referencing/operation/SineSeriesPolynomialPinLaw", name := "put", desc := "([DIJ)V" } : Jvm.MethodName) method_3_code (4 : Nat) (Option.none : Option Jvm.ClassFile.FieldType)).before a0 Z = true := hw _ (List.mem_of_getElem? (i := 5) rfl)
theorem tw6 {a0 : Array Value} {Z : State} (hw : ∀ d ∈ tables_1, d.before a0 Z = true) : (Jvm.Cond.methodLink "com/example/graticule/graticule/referencing/operation/SineSeriesPolynomialPinLaw" (14 : Nat) ({ cls := "com/example/graticule/graticule/referencing/operation/SineSeries", name := "polynomial", desc := "([D)[D" } : Jvm.MethodName)).before a0 Z = true := hw _ (List.mem_of_getElem? (i := 6) rfl)
theorem tw7 {a0 : Array Value} {Z : State} (hw : ∀ d ∈ tables_1, d.before a0 Z = true) : (Jvm.Cond.static ({ cls := "com/example/graticule/graticule/referencing/operation/SineSeries", name := "polynomial", desc := "([D)[D" } : Jvm.MethodName)).before a0 Z = true := hw _ (List.mem_of_getElem? (i := 7) rfl)
theorem tw8 {a0 : Array Value} {Z : State} (hw : ∀ d ∈ tables_1, d.before a0 Z = true) : (Jvm.Cond.initialized "com/example/graticule/graticule/referencing/operation/SineSeries").before a0 Z = true := hw _ (List.mem_of_getElem? (i := 8) rfl)
theorem tw9 {a0 : Array Value} {Z : State} (hw : ∀ d ∈ tables_1, d.before a0 Z = true) : (Jvm.Cond.code ({ cls := "com/example/graticule/graticule/referencing/operation/SineSeries", name := "polynomial", desc := "([D)[D" } : Jvm.MethodName) prog_19_method_2_code (1 : Nat) (Option.some (Jvm.ClassFile.FieldType.array Jvm.ClassFile.FieldType.double))).before a0 Z = true := hw _ (List.mem_of_getElem? (i := 9) rfl)
theorem tw10 {a0 : Array Value} {Z : State} (hw : ∀ d ∈ tables_1, d.before a0 Z = true) : (Jvm.Cond.constantDouble "com/example/graticule/graticule/referencing/operation/SineSeries" (7 : Nat) (4611686018427387904 : UInt64)).before a0 Z = true := hw _ (List.mem_of_getElem? (i := 10) rfl)
theorem tw11 {a0 : Array Value} {Z : State} (hw : ∀ d ∈ tables_1, d.before a0 Z = true) : (Jvm.Cond.methodLink "com/example/graticule/graticule/referencing/operation/SineSeries" (9 : Nat) ({ cls := "com/example/graticule/graticule/referencing/operation/SineSeries", name := "chebyshevSum", desc := "([D[D[D)[D" } : Jvm.MethodName)).before a0 Z = true := hw _ (List.mem_of_getElem? (i := 11) rfl)
theorem tw12 {a0 : Array Value} {Z : State} (hw : ∀ d ∈ tables_1, d.before a0 Z = true) : (Jvm.Cond.static ({ cls := "com/example/graticule/graticule/referencing/operation/SineSeries", name := "chebyshevSum", desc := "([D[D[D)[D" } : Jvm.MethodName)).before a0 Z = true := hw _ (List.mem_of_getElem? (i := 12) rfl)
theorem tw13 {a0 : Array Value} {Z : State} (hw : ∀ d ∈ tables_1, d.before a0 Z = true) : (Jvm.Cond.code ({ cls := "com/example/graticule/graticule/referencing/operation/SineSeries", name := "chebyshevSum", desc := "([D[D[D)[D" } : Jvm.MethodName) prog_19_method_5_code (10 : Nat) (Option.some (Jvm.ClassFile.FieldType.array Jvm.ClassFile.FieldType.double))).before a0 Z = true := hw _ (List.mem_of_getElem? (i := 13) rfl)
theorem tw14 {a0 : Array Value} {Z : State} (hw : ∀ d ∈ tables_1, d.before a0 Z = true) : (Jvm.Cond.methodLink "com/example/graticule/graticule/referencing/operation/SineSeries" (17 : Nat) ({ cls := "java/util/Arrays", name := "copyOf", desc := "([DI)[D" } : Jvm.MethodName)).before a0 Z = true := hw _ (List.mem_of_getElem? (i := 14) rfl)
theorem tw15 {a0 : Array Value} {Z : State} (hw : ∀ d ∈ tables_1, d.before a0 Z = true) : (Jvm.Cond.static ({ cls := "java/util/Arrays", name := "copyOf", desc := "([DI)[D" } : Jvm.MethodName)).before a0 Z = true := hw _ (List.mem_of_getElem? (i := 15) rfl)
theorem tw16 {a0 : Array Value} {Z : State} (hw : ∀ d ∈ tables_1, d.before a0 Z = true) : (Jvm.Cond.initialized "java/util/Arrays").before a0 Z = true := hw _ (List.mem_of_getElem? (i := 16) rfl)
theorem tw17 {a0 : Array Value} {Z : State} (hw : ∀ d ∈ tables_1, d.before a0 Z = true) : (Jvm.Cond.code ({ cls := "java/util/Arrays", name := "copyOf", desc := "([DI)[D" } : Jvm.MethodName) jdk_65_method_127_code (3 : Nat) (Option.some (Jvm.ClassFile.FieldType.array Jvm.ClassFile.FieldType.double))).before a0 Z = true := hw _ (List.mem_of_getElem? (i := 17) rfl)
theorem tw18 {a0 : Array Value} {Z : State} (hw : ∀ d ∈ tables_1, d.before a0 Z = true) : (Jvm.Cond.methodLink "java/util/Arrays" (304 : Nat) ({ cls := "java/lang/Math", name := "min", desc := "(II)I" } : Jvm.MethodName)).before a0 Z = true := hw _ (List.mem_of_getElem? (i := 18) rfl)
theorem tw19 {a0 : Array Value} {Z : State} (hw : ∀ d ∈ tables_1, d.before a0 Z = true) : (Jvm.Cond.static ({ cls := "java/lang/Math", name := "min", desc := "(II)I" } : Jvm.MethodName)).before a0 Z = true := hw _ (List.mem_of_getElem? (i := 19) rfl)
theorem tw20 {a0 : Array Value} {Z : State} (hw : ∀ d ∈ tables_1, d.before a0 Z = true) : (Jvm.Cond.initialized "java/lang/Math").before a0 Z = true := hw _ (List.mem_of_getElem? (i := 20) rfl)
theorem tw21 {a0 : Array Value} {Z : State} (hw : ∀ d ∈ tables_1, d.before a0 Z = true) : (Jvm.Cond.code ({ cls := "java/lang/Math", name := "min", desc := "(II)I" } : Jvm.MethodName) jdk_29_method_69_code (2 : Nat) (Option.some Jvm.ClassFile.FieldType.int)).before a0 Z = true := hw _ (List.mem_of_getElem? (i := 21) rfl)
theorem tw22 {a0 : Array Value} {Z : State} (hw : ∀ d ∈ tables_1, d.before a0 Z = true) : (Jvm.Cond.methodLink "java/util/Arrays" (150 : Nat) ({ cls := "java/lang/System", name := "arraycopy", desc := "(Ljava/lang/Object;ILjava/lang/Object;II)V" } : Jvm.MethodName)).before a0 Z = true := hw _ (List.mem_of_getElem? (i := 22) rfl)
theorem tw23 {a0 : Array Value} {Z : State} (hw : ∀ d ∈ tables_1, d.before a0 Z = true) : (Jvm.Cond.static ({ cls := "java/lang/System", name := "arraycopy", desc := "(Ljava/lang/Object;ILjava/lang/Object;II)V" } : Jvm.MethodName)).before a0 Z = true := hw _ (List.mem_of_getElem? (i := 23) rfl)
theorem tw24 {a0 : Array Value} {Z : State} (hw : ∀ d ∈ tables_1, d.before a0 Z = true) : (Jvm.Cond.initialized "java/lang/System").before a0 Z = true := hw _ (List.mem_of_getElem? (i := 24) rfl)
theorem tw25 {a0 : Array Value} {Z : State} (hw : ∀ d ∈ tables_1, d.before a0 Z = true) : (Jvm.Cond.native ({ cls := "java/lang/System", name := "arraycopy", desc := "(Ljava/lang/Object;ILjava/lang/Object;II)V" } : Jvm.MethodName)).before a0 Z = true := hw _ (List.mem_of_getElem? (i := 25) rfl)
theorem tw26 {a0 : Array Value} {Z : State} (hw : ∀ d ∈ tables_1, d.before a0 Z = true) : (Jvm.Cond.constantLong "com/example/graticule/graticule/referencing/operation/SineSeriesPolynomialPinLaw" (20 : Nat) (2 : Int64)).before a0 Z = true := hw _ (List.mem_of_getElem? (i := 26) rfl)
theorem tw27 {a0 : Array Value} {Z : State} (hw : ∀ d ∈ tables_1, d.before a0 Z = true) : (Jvm.Cond.constantLong "com/example/graticule/graticule/referencing/operation/SineSeriesPolynomialPinLaw" (22 : Nat) (4 : Int64)).before a0 Z = true := hw _ (List.mem_of_getElem? (i := 27) rfl)
theorem tw28 {a0 : Array Value} {Z : State} (hw : ∀ d ∈ tables_1, d.before a0 Z = true) : (Jvm.Cond.constantLong "com/example/graticule/graticule/referencing/operation/SineSeriesPolynomialPinLaw" (24 : Nat) (6 : Int64)).before a0 Z = true := hw _ (List.mem_of_getElem? (i := 28) rfl)
theorem tw29 {a0 : Array Value} {Z : State} (hw : ∀ d ∈ tables_1, d.before a0 Z = true) : (Jvm.Cond.constantLong "com/example/graticule/graticule/referencing/operation/SineSeriesPolynomialPinLaw" (26 : Nat) (8 : Int64)).before a0 Z = true := hw _ (List.mem_of_getElem? (i := 29) rfl)
theorem tw30 {a0 : Array Value} {Z : State} (hw : ∀ d ∈ tables_1, d.before a0 Z = true) : (Jvm.Cond.constantLong "com/example/graticule/graticule/referencing/operation/SineSeriesPolynomialPinLaw" (28 : Nat) (12 : Int64)).before a0 Z = true := hw _ (List.mem_of_getElem? (i := 30) rfl)
theorem tw31 {a0 : Array Value} {Z : State} (hw : ∀ d ∈ tables_1, d.before a0 Z = true) : (Jvm.Cond.constantLong "com/example/graticule/graticule/referencing/operation/SineSeriesPolynomialPinLaw" (30 : Nat) (24 : Int64)).before a0 Z = true := hw _ (List.mem_of_getElem? (i := 31) rfl)
theorem tw32 {a0 : Array Value} {Z : State} (hw : ∀ d ∈ tables_1, d.before a0 Z = true) : (Jvm.Cond.constantLong "com/example/graticule/graticule/referencing/operation/SineSeriesPolynomialPinLaw" (32 : Nat) (32 : Int64)).before a0 Z = true := hw _ (List.mem_of_getElem? (i := 32) rfl)
theorem tw33 {a0 : Array Value} {Z : State} (hw : ∀ d ∈ tables_1, d.before a0 Z = true) : (Jvm.Cond.constantLong "com/example/graticule/graticule/referencing/operation/SineSeriesPolynomialPinLaw" (34 : Nat) (80 : Int64)).before a0 Z = true := hw _ (List.mem_of_getElem? (i := 33) rfl)
theorem tw34 {a0 : Array Value} {Z : State} (hw : ∀ d ∈ tables_1, d.before a0 Z = true) : (Jvm.Cond.constantLong "com/example/graticule/graticule/referencing/operation/SineSeriesPolynomialPinLaw" (36 : Nat) (16 : Int64)).before a0 Z = true := hw _ (List.mem_of_getElem? (i := 34) rfl)
theorem tw35 {a0 : Array Value} {Z : State} (hw : ∀ d ∈ tables_1, d.before a0 Z = true) : (Jvm.Cond.constantLong "com/example/graticule/graticule/referencing/operation/SineSeriesPolynomialPinLaw" (38 : Nat) (192 : Int64)).before a0 Z = true := hw _ (List.mem_of_getElem? (i := 35) rfl)
theorem tw36 {a0 : Array Value} {Z : State} (hw : ∀ d ∈ tables_1, d.before a0 Z = true) : (Jvm.Cond.constantLong "com/example/graticule/graticule/referencing/operation/SineSeriesPolynomialPinLaw" (40 : Nat) (64 : Int64)).before a0 Z = true := hw _ (List.mem_of_getElem? (i := 36) rfl)
theorem tw37 {a0 : Array Value} {Z : State} (hw : ∀ d ∈ tables_1, d.before a0 Z = true) : (Jvm.Cond.constantLong "com/example/graticule/graticule/referencing/operation/SineSeriesPolynomialPinLaw" (42 : Nat) (128 : Int64)).before a0 Z = true := hw _ (List.mem_of_getElem? (i := 37) rfl)
theorem tw38 {a0 : Array Value} {Z : State} (hw : ∀ d ∈ tables_1, d.before a0 Z = true) : (Jvm.Cond.methodLink "com/example/graticule/graticule/referencing/operation/SineSeriesPolynomialPinLaw" (44 : Nat) ({ cls := "com/example/graticule/graticule/referencing/operation/SineSeriesPolynomialPinLaw", name := "at", desc := "([DIJ)Z" } : Jvm.MethodName)).before a0 Z = true := hw _ (List.mem_of_getElem? (i := 38) rfl)
theorem tw39 {a0 : Array Value} {Z : State} (hw : ∀ d ∈ tables_1, d.before a0 Z = true) : (Jvm.Cond.static ({ cls := "com/example/graticule/graticule/referencing/operation/SineSeriesPolynomialPinLaw", name := "at", desc := "([DIJ)Z" } : Jvm.MethodName)).before a0 Z = true := hw _ (List.mem_of_getElem? (i := 39) rfl)
theorem tw40 {a0 : Array Value} {Z : State} (hw : ∀ d ∈ tables_1, d.before a0 Z = true) : (Jvm.Cond.code ({ cls := "com/example/graticule/graticule/referencing/operation/SineSeriesPolynomialPinLaw", name := "at", desc := "([DIJ)Z" } : Jvm.MethodName) method_4_code (4 : Nat) (Option.some Jvm.ClassFile.FieldType.boolean)).before a0 Z = true := hw _ (List.mem_of_getElem? (i := 40) rfl)
theorem tw41 {a0 : Array Value} {Z : State} (hw : ∀ d ∈ tables_1, d.before a0 Z = true) : (Jvm.Cond.methodLink "java/util/Arrays" (328 : Nat) ({ cls := "[D", name := "clone", desc := "()Ljava/lang/Object;" } : Jvm.MethodName)).before a0 Z = true := hw _ (List.mem_of_getElem? (i := 41) rfl)
theorem tw42 {a0 : Array Value} {Z : State} (hw : ∀ d ∈ tables_1, d.before a0 Z = true) : (Jvm.Cond.sameMethod "[D" "java/lang/Object" "clone" "()Ljava/lang/Object;").before a0 Z = true := hw _ (List.mem_of_getElem? (i := 42) rfl)
theorem tw44 {a0 : Array Value} {Z : State} (hw : ∀ d ∈ tables_1, d.before a0 Z = true) : (Jvm.Cond.instanceMethod ({ cls := "java/lang/Object", name := "clone", desc := "()Ljava/lang/Object;" } : Jvm.MethodName)).before a0 Z = true := hw _ (List.mem_of_getElem? (i := 44) rfl)
theorem tw45 {a0 : Array Value} {Z : State} (hw : ∀ d ∈ tables_1, d.before a0 Z = true) : (Jvm.Cond.selects "[D" ({ cls := "[D", name := "clone", desc := "()Ljava/lang/Object;" } : Jvm.MethodName) ({ cls := "java/lang/Object", name := "clone", desc := "()Ljava/lang/Object;" } : Jvm.MethodName)).before a0 Z = true := hw _ (List.mem_of_getElem? (i := 45) rfl)
theorem tw46 {a0 : Array Value} {Z : State} (hw : ∀ d ∈ tables_1, d.before a0 Z = true) : (Jvm.Cond.native ({ cls := "java/lang/Object", name := "clone", desc := "()Ljava/lang/Object;" } : Jvm.MethodName)).before a0 Z = true := hw _ (List.mem_of_getElem? (i := 46) rfl)
theorem tw47 {a0 : Array Value} {Z : State} (hw : ∀ d ∈ tables_1, d.before a0 Z = true) : (Jvm.Cond.castable "[D" "java/lang/Cloneable").before a0 Z = true := hw _ (List.mem_of_getElem? (i := 47) rfl)
theorem tw48 {a0 : Array Value} {Z : State} (hw : ∀ d ∈ tables_1, d.before a0 Z = true) : (Jvm.Cond.classLink "java/util/Arrays" (329 : Nat) "[D").before a0 Z = true := hw _ (List.mem_of_getElem? (i := 48) rfl)
theorem pd_0 : parseMethodDescriptor "(II)I" = some ⟨[.int, .int], some .int⟩ := by decide +kernel
theorem pn_0 : plainName "java/util/Arrays" = true := by first | (simp [plainName, overriddenIn]; done) | decide +kernel
theorem pd_1 : parseMethodDescriptor "([DI)[D" = some ⟨[(.array .double), .int], some (.array .double)⟩ := by decide +kernel
theorem pn_1 : plainName "com/example/graticule/graticule/referencing/operation/SineSeries" = true := by first | (simp [plainName, overriddenIn]; done) | decide +kernel
theorem pn_2 : plainName "com/example/graticule/graticule/referencing/operation/SineSeriesPolynomialPinLaw" = true := by first | (simp [plainName, overriddenIn]; done) | decide +kernel
theorem pd_2 : parseMethodDescriptor "([D[D[D)[D" = some ⟨[(.array .double), (.array .double), (.array .double)], some (.array .double)⟩ := by decide +kernel
theorem pd_3 : parseMethodDescriptor "([DIJ)V" = some ⟨[(.array .double), .int, .long], none⟩ := by decide +kernel
theorem pd_4 : parseMethodDescriptor "([D)[D" = some ⟨[(.array .double)], some (.array .double)⟩ := by decide +kernel
theorem pd_5 : parseMethodDescriptor "([DIJ)Z" = some ⟨[(.array .double), .int, .long], some .boolean⟩ := by decide +kernel
theorem ef_min (m : MethodId) (x0 : Int32) (x1 : Int32) : entryFrame m #[(.int x0), (.int x1)] 2 = mkF m 0 #[.val (.int x0), .val (.int x1)] [] := by first | (simp [entryFrame, mkF, argsToLocals, Value.category]; done) | rfl
theorem d_min_0 : decode jdk_29_method_69_code 0 = .ok (.iload_n 0, 1) := by decide +kernel
theorem d_min_1 : decode jdk_29_method_69_code 1 = .ok (.iload_n 1, 1) := by decide +kernel
theorem d_min_2 : decode jdk_29_method_69_code 2 = .ok (.if_icmp .gt 7, 3) := by decide +kernel
theorem d_min_5 : decode jdk_29_method_69_code 5 = .ok (.iload_n 0, 1) := by decide +kernel
theorem d_min_6 : decode jdk_29_method_69_code 6 = .ok (.goto 4, 3) := by decide +kernel
theorem d_min_9 : decode jdk_29_method_69_code 9 = .ok (.iload_n 1, 1) := by decide +kernel
theorem d_min_10 : decode jdk_29_method_69_code 10 = .ok (.ireturn, 1) := by decide +kernel
set_option maxRecDepth 65536 in
set_option maxHeartbeats 4000000 in
theorem m_min (l : Launch) (Z : State) (a0 : Array Value) (hw : ∀ d ∈ tables_1, d.before a0 Z = true) (p0 p1 : Int32) (h0 : Heap)  :
    OMet l (⟨"java/lang/Math", "min", "(II)I"⟩ : MethodName) jdk_29_method_69_code 2 (Option.some FieldType.int) [] ({ frames := 0, cells := 0, slots := 0, locals := 0 } : Room) Z h0 [] #[(.int p0), (.int p1)] (fun v h' => v = some (.int (if p1 < p0 then p1 else p0)) ∧ h0 = h') := by
  refine OMet.of (own := "java/lang/Math") (nm := "min") (Jvm.Free.JP.mathPlain rfl (by decide +kernel)) rfl rfl ?_
  intro p e s m below meth c T0 P0 hby hml hret hnm
  refine Done.step (T' := T0) (g' := (mkF m 0 #[.val (.int p0), .val (.int p1)] [])) (fun t kk => castTop (ef_min m p0 p1) kk) ?_
  refine Done.stepL (pc' := 10) (st' := [(.int (if p1 < p0 then p1 else p0))]) (fun t kk => ?_) ?_
  · show Steps p.tables e below (T0.setTop (mkF m 0 _ [])) t
    refine XS.iloadN P0.here P0.x rfl (hb hby d_min_0) rfl ?_
    show Steps p.tables e below (T0.setTop (mkF m 1 _ [(.int p0)])) t
    refine XS.iloadN P0.here P0.x rfl (hb hby d_min_1) rfl ?_
    show Steps p.tables e below (T0.setTop (mkF m 2 _ [(.int p1), (.int p0)])) t
    suffices kk2 : Steps p.tables e below (T0.setTop (mkF m 10 #[.val (.int p0), .val (.int p1)] [(.int (if p1 < p0 then p1 else p0))])) t by
      by_cases hc1 : p1 < p0
      · skip
        replace kk2 := Eq.mp (congrArg (fun z_ : Int32 => Steps p.tables e below (T0.setTop (mkF m 10 #[.val (.int p0), .val (.int p1)] [(.int z_)])) t) (show (if p1 < p0 then p1 else p0) = p1 from if_pos hc1)) kk2
        show Steps p.tables e below (T0.setTop (mkF m 2 _ [(.int p1), (.int p0)])) t
        refine XS.icmpYes P0.here P0.x rfl (pc0 := 2) (pc' := 9) rfl (hb hby d_min_2) rfl (iiW_gt_t hc1) (by decide) (by decide) ?_
        show Steps p.tables e below (T0.setTop (mkF m 9 _ [])) t
        refine XS.iloadN P0.here P0.x rfl (hb hby d_min_9) rfl ?_
        exact kk2
      · skip
        replace kk2 := Eq.mp (congrArg (fun z_ : Int32 => Steps p.tables e below (T0.setTop (mkF m 10 #[.val (.int p0), .val (.int p1)] [(.int z_)])) t) (show (if p1 < p0 then p1 else p0) = p0 from if_neg hc1)) kk2
        show Steps p.tables e below (T0.setTop (mkF m 2 _ [(.int p1), (.int p0)])) t
        refine XS.icmpNo P0.here P0.x rfl (hb hby d_min_2) rfl (iiW_gt_f hc1) ?_
        show Steps p.tables e below (T0.setTop (mkF m 5 _ [])) t
        refine XS.iloadN P0.here P0.x rfl (hb hby d_min_5) rfl ?_
        show Steps p.tables e below (T0.setTop (mkF m 6 _ [(.int p0)])) t
        refine XS.goto P0.here P0.x rfl (pc0 := 6) (pc' := 10) rfl (hb hby d_min_6) (by decide) (by decide) ?_
        exact kk2
    exact kk
  exact wRetI P0 hret (hb hby d_min_10) ⟨rfl, rfl⟩
theorem ef_copyOf (m : MethodId) (x0 : Addr) (x1 : Int32) : entryFrame m #[(.ref x0), (.int x1)] 3 = mkF m 0 #[.val (.ref x0), .val (.int x1), .unset] [] := by first | (simp [entryFrame, mkF, argsToLocals, Value.category]; done) | rfl
theorem d_copyOf_0 : decode jdk_65_method_127_code 0 = .ok (.iload_n 1, 1) := by decide +kernel
theorem d_copyOf_1 : decode jdk_65_method_127_code 1 = .ok (.aload_n 0, 1) := by decide +kernel
theorem d_copyOf_2 : decode jdk_65_method_127_code 2 = .ok (.arraylength, 1) := by decide +kernel
theorem d_copyOf_3 : decode jdk_65_method_127_code 3 = .ok (.if_icmp .ne 11, 3) := by decide +kernel
theorem d_copyOf_14 : decode jdk_65_method_127_code 14 = .ok (.iload_n 1, 1) := by decide +kernel
theorem d_copyOf_15 : decode jdk_65_method_127_code 15 = .ok (.newarray .double, 2) := by decide +kernel
theorem d_copyOf_17 : decode jdk_65_method_127_code 17 = .ok (.astore_n 2, 1) := by decide +kernel
theorem d_copyOf_18 : decode jdk_65_method_127_code 18 = .ok (.aload_n 0, 1) := by decide +kernel
theorem d_copyOf_19 : decode jdk_65_method_127_code 19 = .ok (.iconst 0, 1) := by decide +kernel
theorem d_copyOf_20 : decode jdk_65_method_127_code 20 = .ok (.aload_n 2, 1) := by decide +kernel
theorem d_copyOf_21 : decode jdk_65_method_127_code 21 = .ok (.iconst 0, 1) := by decide +kernel
theorem d_copyOf_22 : decode jdk_65_method_127_code 22 = .ok (.aload_n 0, 1) := by decide +kernel
theorem d_copyOf_23 : decode jdk_65_method_127_code 23 = .ok (.arraylength, 1) := by decide +kernel
theorem d_copyOf_24 : decode jdk_65_method_127_code 24 = .ok (.iload_n 1, 1) := by decide +kernel
theorem d_copyOf_25 : decode jdk_65_method_127_code 25 = .ok (.invokestatic 304, 3) := by decide +kernel
theorem d_copyOf_28 : decode jdk_65_method_127_code 28 = .ok (.invokestatic 150, 3) := by decide +kernel
theorem d_copyOf_31 : decode jdk_65_method_127_code 31 = .ok (.aload_n 2, 1) := by decide +kernel
theorem d_copyOf_32 : decode jdk_65_method_127_code 32 = .ok (.areturn, 1) := by decide +kernel
theorem d_copyOf_6 : decode jdk_65_method_127_code 6 = .ok (.aload_n 0, 1) := by decide +kernel
theorem d_copyOf_7 : decode jdk_65_method_127_code 7 = .ok (.invokevirtual 328, 3) := by decide +kernel
theorem d_copyOf_10 : decode jdk_65_method_127_code 10 = .ok (.checkcast 329, 3) := by decide +kernel
theorem d_copyOf_13 : decode jdk_65_method_127_code 13 = .ok (.areturn, 1) := by decide +kernel
set_option maxRecDepth 65536 in
set_option maxHeartbeats 4000000 in
theorem m_copyOf (l : Launch) (Z : State) (a0 : Array Value) (hw : ∀ d ∈ tables_1, d.before a0 Z = true) (a : Addr) (nl z : Int32) (N M : Nat) (f : Nat → UInt64) (h0 : Heap) (A0 : Ar Z h0 a .double N (fun i => .double (f i))) (E0 : Exa Z h0 a "[D") (hz : z.toInt = (N : Int)) (hm : nl.toInt = (M : Int)) (hc : M ≤ 8) :
    OMet l (⟨"java/util/Arrays", "copyOf", "([DI)[D"⟩ : MethodName) jdk_65_method_127_code 3 (Option.some (FieldType.array FieldType.double)) [] ({ frames := 1, cells := 1, slots := 8, locals := 40 } : Room) Z h0 [] #[(.ref a), (.int nl)] (fun v h' => ∃ b, v = some (.ref b) ∧ h0.size ≤ b ∧ b < h'.size ∧ Exa Z h' b "[D" ∧ Ar Z h' b .double M (fun i => .double (if i < N then f i else 0))) := by
  refine OMet.of (own := "java/util/Arrays") (nm := "copyOf") (plainFor_of_name pn_0) rfl rfl ?_
  intro p e s m below meth c T0 P0 hby hml hret hnm
  refine Done.step (T' := T0) (g' := (mkF m 0 #[.val (.ref a), .val (.int nl), .unset] [])) (fun t kk => castTop (ef_copyOf m a nl) kk) ?_
  have lta := A0.ltN
  refine Done.stepL (pc' := 2) (st' := [(.ref a), (.int nl)]) (fun t kk => ?_) ?_
  · show Steps p.tables e below (T0.setTop (mkF m 0 _ [])) t
    refine XS.iloadN P0.here P0.x rfl (hb hby d_copyOf_0) rfl ?_
    show Steps p.tables e below (T0.setTop (mkF m 1 _ [(.int nl)])) t
    refine XS.aloadN P0.here P0.x rfl (hb hby d_copyOf_1) rfl rfl ?_
    exact kk
  refine wLen P0 A0 (z := z) hz (hb hby d_copyOf_2) rfl ?_
  show Done _ _ _ _ _ _ _ _ _ _ _ _ _ _ _ T0 (mkF m 3 _ [(.int z), (.int nl)])
  by_cases hq : ¬ (nl = z)
  · refine Done.stepL (pc' := 15) (st' := [(.int nl)]) (fun t kk => ?_) ?_
    · show Steps p.tables e below (T0.setTop (mkF m 3 _ [(.int z), (.int nl)])) t
      refine XS.icmpYes P0.here P0.x rfl (pc0 := 3) (pc' := 14) rfl (hb hby d_copyOf_3) rfl (iiW_ne_t hq) (by decide) (by decide) ?_
      show Steps p.tables e below (T0.setTop (mkF m 14 _ [])) t
      refine XS.iloadN P0.here P0.x rfl (hb hby d_copyOf_14) rfl ?_
      exact kk
    refine wNewA (aty := .double) P0 (tw1 hw) (hb hby d_copyOf_15) rfl (N := M) hm (cap := 8) hc (by decide) (by decide) (by decide) (ad := "[D") (by decide) (ty := .double) (dv := (.double (0 : UInt64))) rfl rfl (k' := 1) (n' := 8) rfl rfl (fun T1 h3 b4 g5 lt6 P2 E7 A8 X9 => ?_)
    have ge_b4 : h0.size ≤ b4 := by have := P0.ge; omega
    show Done _ _ _ _ _ _ _ _ _ _ _ _ _ _ _ T1 (mkF m 17 _ [(.ref b4)])
    refine Done.step (T' := T1) (g' := (mkF m 23 #[.val (.ref a), .val (.int nl), .val (.ref b4)] [(.ref a), (.int (0 : Int32)), (.ref b4), (.int (0 : Int32)), (.ref a)])) (fun t kk => ?_) ?_
    · show Steps p.tables e below (T1.setTop (mkF m 17 _ [(.ref b4)])) t
      refine XS.astoreN P2.here P2.x rfl (hb hby d_copyOf_17) rfl rfl (l' := #[.val (.ref a), .val (.int nl), .val (.ref b4)]) rfl ?_
      show Steps p.tables e below (T1.setTop (mkF m 18 _ [])) t
      refine XS.aloadN P2.here P2.x rfl (hb hby d_copyOf_18) rfl rfl ?_
      show Steps p.tables e below (T1.setTop (mkF m 19 _ [(.ref a)])) t
      refine XS.iconst P2.here P2.x rfl (hb hby d_copyOf_19) ?_
      show Steps p.tables e below (T1.setTop (mkF m 20 _ [(.int (0 : Int32)), (.ref a)])) t
      refine XS.aloadN P2.here P2.x rfl (hb hby d_copyOf_20) rfl rfl ?_
      show Steps p.tables e below (T1.setTop (mkF m 21 _ [(.ref b4), (.int (0 : Int32)), (.ref a)])) t
      refine XS.iconst P2.here P2.x rfl (hb hby d_copyOf_21) ?_
      show Steps p.tables e below (T1.setTop (mkF m 22 _ [(.int (0 : Int32)), (.ref b4), (.int (0 : Int32)), (.ref a)])) t
      refine XS.aloadN P2.here P2.x rfl (hb hby d_copyOf_22) rfl rfl ?_
      exact kk
    have f10 := (A0.ext E7)
    refine wLen P2 f10 (z := z) hz (hb hby d_copyOf_23) rfl ?_
    show Done _ _ _ _ _ _ _ _ _ _ _ _ _ _ _ T1 (mkF m 24 _ [(.int z), (.int (0 : Int32)), (.ref b4), (.int (0 : Int32)), (.ref a)])
    refine Done.stepL (pc' := 25) (st' := [(.int nl), (.int z), (.int (0 : Int32)), (.ref b4), (.int (0 : Int32)), (.ref a)]) (fun t kk => ?_) ?_
    · show Steps p.tables e below (T1.setTop (mkF m 24 _ [(.int z), (.int (0 : Int32)), (.ref b4), (.int (0 : Int32)), (.ref a)])) t
      refine XS.iloadN P2.here P2.x rfl (hb hby d_copyOf_24) rfl ?_
      exact kk
    refine wCallS P2 (m_min l Z a0 hw z nl h3) (tw18 hw) (tw19 hw) (tw20 hw) (tw21 hw) (by decide) (by rw [hml]; rfl) (lenOf pd_0 rfl) (argsL := [(.int z), (.int nl)]) (rest := [(.int (0 : Int32)), (.ref b4), (.int (0 : Int32)), (.ref a)]) rfl rfl (W := 4) (Nat.le_of_eq rfl) (by decide) (by decide) (by decide) (by decide) (by simp) (hb hby d_copyOf_25) rfl (k' := 1) (n' := 8) rfl rfl ?_
    rintro T11 _ _ P12 - ⟨rfl, rfl⟩
    show Done _ _ _ _ _ _ _ _ _ _ _ _ _ _ _ T11 (mkF m 28 _ [(.int (if nl < z then nl else z)), (.int (0 : Int32)), (.ref b4), (.int (0 : Int32)), (.ref a)])
    refine wCopyD P12 (f := f) (g := (fun _ => (0 : UInt64))) (K0 := (if M < N then M else N)) f10 A8 (own_min hz hm) (by split <;> omega) (by split <;> omega) ge_b4 (tw22 hw) (tw25 hw) (tw23 hw) (tw24 hw) (by rw [hml]; rfl) (hb hby d_copyOf_28) rfl (by decide) (W := 0) (Nat.le_of_eq rfl) (by decide) (fun T13 h15 P14 K16 A17 => ?_)
    have szh15 : h3.size ≤ h15.size := K16.1
    show Done _ _ _ _ _ _ _ _ _ _ _ _ _ _ _ T13 (mkF m 31 _ [])
    refine Done.stepL (pc' := 32) (st' := [(.ref b4)]) (fun t kk => ?_) ?_
    · show Steps p.tables e below (T13.setTop (mkF m 31 _ [])) t
      refine XS.aloadN P14.here P14.x rfl (hb hby d_copyOf_31) rfl rfl ?_
      exact kk
    have f18 := (X9.keep K16)
    exact wRetA P14 hret rfl rfl (hb hby d_copyOf_32) ⟨b4, rfl, ge_b4, f18.lt, f18, A17.congr fun i hi => by congr 1; by_cases q : i < N <;> by_cases q' : M < N <;> simp [q, q'] <;> omega⟩
  · have hNM : N = M := by have := congrArg Int32.toInt (Decidable.not_not.mp hq); omega
    refine Done.stepL (pc' := 7) (st' := [(.ref a)]) (fun t kk => ?_) ?_
    · show Steps p.tables e below (T0.setTop (mkF m 3 _ [(.int z), (.int nl)])) t
      refine XS.icmpNo P0.here P0.x rfl (hb hby d_copyOf_3) rfl (iiW_ne_f (show ¬ (¬ (nl = z)) from hq)) ?_
      show Steps p.tables e below (T0.setTop (mkF m 6 _ [])) t
      refine XS.aloadN P0.here P0.x rfl (hb hby d_copyOf_6) rfl rfl ?_
      exact kk
    refine wClone P0 (f := f) A0 E0 (tw41 hw) (tw42 hw) (tw46 hw) (tw44 hw) (tw45 hw) (tw47 hw) (by rw [hml]; rfl) (hb hby d_copyOf_7) rfl (by decide) (W := 0) (Nat.le_of_eq rfl) (by decide) (cap := 8) (by omega) (by decide) (by decide) (k' := 1) (n' := 8) rfl rfl (fun T19 h21 b22 g23 lt24 P20 E25 A26 X27 => ?_)
    have ge_b22 : h0.size ≤ b22 := by have := P0.ge; omega
    show Done _ _ _ _ _ _ _ _ _ _ _ _ _ _ _ T19 (mkF m 10 _ [(.ref b22)])
    refine wCast P20 (tw48 hw) (Ins.self X27) (hb hby d_copyOf_10) rfl (fun T28 P29 => ?_)
    show Done _ _ _ _ _ _ _ _ _ _ _ _ _ _ _ T28 (mkF m 13 _ [(.ref b22)])
    exact wRetA P29 hret rfl rfl (hb hby d_copyOf_13) ⟨b22, rfl, ge_b22, X27.lt, X27, (hNM ▸ A26.congr fun i hi => by rw [if_pos hi])⟩
theorem ef_cheb (m : MethodId) (x0 : Addr) (x1 : Addr) (x2 : Addr) : entryFrame m #[(.ref x0), (.ref x1), (.ref x2)] 10 = mkF m 0 #[.val (.ref x0), .val (.ref x1), .val (.ref x2), .unset, .unset, .unset, .unset, .unset, .unset, .unset] [] := by first | (simp [entryFrame, mkF, argsToLocals, Value.category]; done) | rfl
theorem d_cheb_0 : decode prog_19_method_5_code 0 = .ok (.aload_n 2, 1) := by decide +kernel
theorem d_cheb_1 : decode prog_19_method_5_code 1 = .ok (.arraylength, 1) := by decide +kernel
theorem d_cheb_2 : decode prog_19_method_5_code 2 = .ok (.aload_n 0, 1) := by decide +kernel
theorem d_cheb_3 : decode prog_19_method_5_code 3 = .ok (.arraylength, 1) := by decide +kernel
theorem d_cheb_4 : decode prog_19_method_5_code 4 = .ok (.iadd, 1) := by decide +kernel
theorem d_cheb_5 : decode prog_19_method_5_code 5 = .ok (.iconst 2, 1) := by decide +kernel
theorem d_cheb_6 : decode prog_19_method_5_code 6 = .ok (.isub, 1) := by decide +kernel
theorem d_cheb_7 : decode prog_19_method_5_code 7 = .ok (.istore_n 3, 1) := by decide +kernel
theorem d_cheb_8 : decode prog_19_method_5_code 8 = .ok (.iload_n 3, 1) := by decide +kernel
theorem d_cheb_9 : decode prog_19_method_5_code 9 = .ok (.newarray .double, 2) := by decide +kernel
theorem d_cheb_11 : decode prog_19_method_5_code 11 = .ok (.astore 4, 2) := by decide +kernel
theorem d_cheb_13 : decode prog_19_method_5_code 13 = .ok (.aload_n 1, 1) := by decide +kernel
theorem d_cheb_14 : decode prog_19_method_5_code 14 = .ok (.iload_n 3, 1) := by decide +kernel
theorem d_cheb_15 : decode prog_19_method_5_code 15 = .ok (.invokestatic 17, 3) := by decide +kernel
theorem d_cheb_18 : decode prog_19_method_5_code 18 = .ok (.astore 5, 2) := by decide +kernel
theorem d_cheb_20 : decode prog_19_method_5_code 20 = .ok (.aload_n 2, 1) := by decide +kernel
theorem d_cheb_21 : decode prog_19_method_5_code 21 = .ok (.iload_n 3, 1) := by decide +kernel
theorem d_cheb_22 : decode prog_19_method_5_code 22 = .ok (.invokestatic 17, 3) := by decide +kernel
theorem d_cheb_25 : decode prog_19_method_5_code 25 = .ok (.astore 6, 2) := by decide +kernel
theorem d_cheb_27 : decode prog_19_method_5_code 27 = .ok (.iconst 0, 1) := by decide +kernel
theorem d_cheb_28 : decode prog_19_method_5_code 28 = .ok (.istore 7, 2) := by decide +kernel
theorem d_cheb_59 : decode prog_19_method_5_code 59 = .ok (.iload 7, 2) := by decide +kernel
theorem d_cheb_61 : decode prog_19_method_5_code 61 = .ok (.aload_n 0, 1) := by decide +kernel
theorem d_cheb_62 : decode prog_19_method_5_code 62 = .ok (.arraylength, 1) := by decide +kernel
theorem d_cheb_63 : decode prog_19_method_5_code 63 = .ok (.if_icmp .ge 101, 3) := by decide +kernel
theorem d_cheb_164 : decode prog_19_method_5_code 164 = .ok (.aload 4, 2) := by decide +kernel
theorem d_cheb_166 : decode prog_19_method_5_code 166 = .ok (.areturn, 1) := by decide +kernel
theorem d_cheb_66 : decode prog_19_method_5_code 66 = .ok (.iconst 0, 1) := by decide +kernel
theorem os_cheb_67_28 {y0 : Addr} {y1 : Addr} {y2 : Addr} {y3 : Int32} {y4 : Addr} {y5 : Addr} {y6 : Addr} {y7 : Int32} {y8 : Slot} {y9 : Slot} {yy : Int32} (h : One y8) : storeLocals #[.val (.ref y0), .val (.ref y1), .val (.ref y2), .val (.int y3), .val (.ref y4), .val (.ref y5), .val (.ref y6), .val (.int y7), y8, y9] 8 (.int yy) = some #[.val (.ref y0), .val (.ref y1), .val (.ref y2), .val (.int y3), .val (.ref y4), .val (.ref y5), .val (.ref y6), .val (.int y7), .val (.int yy), y9] := by
  rcases h with rfl | ⟨w, rfl, hw⟩
  · rfl
  · cases w <;> first | rfl | (simp [Value.category] at hw)
theorem d_cheb_67 : decode prog_19_method_5_code 67 = .ok (.istore 8, 2) := by decide +kernel
theorem d_cheb_69 : decode prog_19_method_5_code 69 = .ok (.iload 8, 2) := by decide +kernel
theorem d_cheb_71 : decode prog_19_method_5_code 71 = .ok (.iload_n 3, 1) := by decide +kernel
theorem d_cheb_72 : decode prog_19_method_5_code 72 = .ok (.if_icmp .ge 27, 3) := by decide +kernel
theorem d_cheb_99 : decode prog_19_method_5_code 99 = .ok (.iload_n 3, 1) := by decide +kernel
theorem d_cheb_100 : decode prog_19_method_5_code 100 = .ok (.newarray .double, 2) := by decide +kernel
theorem d_cheb_102 : decode prog_19_method_5_code 102 = .ok (.astore 8, 2) := by decide +kernel
theorem d_cheb_104 : decode prog_19_method_5_code 104 = .ok (.iconst 0, 1) := by decide +kernel
theorem os_cheb_105_37 {y0 : Addr} {y1 : Addr} {y2 : Addr} {y3 : Int32} {y4 : Addr} {y5 : Addr} {y6 : Addr} {y7 : Int32} {y8 : Addr} {y9 : Slot} {yy : Int32} (h : One y9) : storeLocals #[.val (.ref y0), .val (.ref y1), .val (.ref y2), .val (.int y3), .val (.ref y4), .val (.ref y5), .val (.ref y6), .val (.int y7), .val (.ref y8), y9] 9 (.int yy) = some #[.val (.ref y0), .val (.ref y1), .val (.ref y2), .val (.int y3), .val (.ref y4), .val (.ref y5), .val (.ref y6), .val (.int y7), .val (.ref y8), .val (.int yy)] := by
  rcases h with rfl | ⟨w, rfl, hw⟩
  · rfl
  · cases w <;> first | rfl | (simp [Value.category] at hw)
theorem d_cheb_105 : decode prog_19_method_5_code 105 = .ok (.istore 9, 2) := by decide +kernel
theorem d_cheb_107 : decode prog_19_method_5_code 107 = .ok (.iload 9, 2) := by decide +kernel
theorem d_cheb_109 : decode prog_19_method_5_code 109 = .ok (.iload_n 3, 1) := by decide +kernel
theorem d_cheb_110 : decode prog_19_method_5_code 110 = .ok (.if_icmp .ge 40, 3) := by decide +kernel
theorem d_cheb_150 : decode prog_19_method_5_code 150 = .ok (.aload 6, 2) := by decide +kernel
theorem d_cheb_152 : decode prog_19_method_5_code 152 = .ok (.astore 5, 2) := by decide +kernel
theorem d_cheb_154 : decode prog_19_method_5_code 154 = .ok (.aload 8, 2) := by decide +kernel
theorem d_cheb_156 : decode prog_19_method_5_code 156 = .ok (.astore 6, 2) := by decide +kernel
theorem d_cheb_158 : decode prog_19_method_5_code 158 = .ok (.iinc 7 1, 3) := by decide +kernel
theorem d_cheb_161 : decode prog_19_method_5_code 161 = .ok (.goto (-102), 3) := by decide +kernel
theorem d_cheb_113 : decode prog_19_method_5_code 113 = .ok (.aload 8, 2) := by decide +kernel
theorem d_cheb_115 : decode prog_19_method_5_code 115 = .ok (.iload 9, 2) := by decide +kernel
theorem d_cheb_117 : decode prog_19_method_5_code 117 = .ok (.iload 9, 2) := by decide +kernel
theorem d_cheb_119 : decode prog_19_method_5_code 119 = .ok (.ifCond .le 17, 3) := by decide +kernel
theorem d_cheb_136 : decode prog_19_method_5_code 136 = .ok (.dconst 0, 1) := by decide +kernel
theorem d_cheb_137 : decode prog_19_method_5_code 137 = .ok (.aload 5, 2) := by decide +kernel
theorem d_cheb_139 : decode prog_19_method_5_code 139 = .ok (.iload 9, 2) := by decide +kernel
theorem d_cheb_141 : decode prog_19_method_5_code 141 = .ok (.daload, 1) := by decide +kernel
theorem d_cheb_142 : decode prog_19_method_5_code 142 = .ok (.dsub, 1) := by decide +kernel
theorem d_cheb_143 : decode prog_19_method_5_code 143 = .ok (.dastore, 1) := by decide +kernel
theorem d_cheb_144 : decode prog_19_method_5_code 144 = .ok (.iinc 9 1, 3) := by decide +kernel
theorem d_cheb_147 : decode prog_19_method_5_code 147 = .ok (.goto (-40), 3) := by decide +kernel
theorem d_cheb_122 : decode prog_19_method_5_code 122 = .ok (.ldc2_w 7, 3) := by decide +kernel
theorem d_cheb_125 : decode prog_19_method_5_code 125 = .ok (.aload 6, 2) := by decide +kernel
theorem d_cheb_127 : decode prog_19_method_5_code 127 = .ok (.iload 9, 2) := by decide +kernel
theorem d_cheb_129 : decode prog_19_method_5_code 129 = .ok (.iconst 1, 1) := by decide +kernel
theorem d_cheb_130 : decode prog_19_method_5_code 130 = .ok (.isub, 1) := by decide +kernel
theorem d_cheb_131 : decode prog_19_method_5_code 131 = .ok (.daload, 1) := by decide +kernel
theorem d_cheb_132 : decode prog_19_method_5_code 132 = .ok (.dmul, 1) := by decide +kernel
theorem d_cheb_133 : decode prog_19_method_5_code 133 = .ok (.goto 4, 3) := by decide +kernel
theorem d_cheb_75 : decode prog_19_method_5_code 75 = .ok (.aload 4, 2) := by decide +kernel
theorem d_cheb_77 : decode prog_19_method_5_code 77 = .ok (.iload 8, 2) := by decide +kernel
theorem d_cheb_79 : decode prog_19_method_5_code 79 = .ok (.dup2, 1) := by decide +kernel
theorem d_cheb_80 : decode prog_19_method_5_code 80 = .ok (.daload, 1) := by decide +kernel
theorem d_cheb_81 : decode prog_19_method_5_code 81 = .ok (.aload_n 0, 1) := by decide +kernel
theorem d_cheb_82 : decode prog_19_method_5_code 82 = .ok (.iload 7, 2) := by decide +kernel
theorem d_cheb_84 : decode prog_19_method_5_code 84 = .ok (.daload, 1) := by decide +kernel
theorem d_cheb_85 : decode prog_19_method_5_code 85 = .ok (.aload 6, 2) := by decide +kernel
theorem d_cheb_87 : decode prog_19_method_5_code 87 = .ok (.iload 8, 2) := by decide +kernel
theorem d_cheb_89 : decode prog_19_method_5_code 89 = .ok (.daload, 1) := by decide +kernel
theorem d_cheb_90 : decode prog_19_method_5_code 90 = .ok (.dmul, 1) := by decide +kernel
theorem d_cheb_91 : decode prog_19_method_5_code 91 = .ok (.dadd, 1) := by decide +kernel
theorem d_cheb_92 : decode prog_19_method_5_code 92 = .ok (.dastore, 1) := by decide +kernel
theorem d_cheb_93 : decode prog_19_method_5_code 93 = .ok (.iinc 8 1, 3) := by decide +kernel
theorem d_cheb_96 : decode prog_19_method_5_code 96 = .ok (.goto (-27), 3) := by decide +kernel
theorem d_cheb_30 : decode prog_19_method_5_code 30 = .ok (.iload 7, 2) := by decide +kernel
theorem d_cheb_32 : decode prog_19_method_5_code 32 = .ok (.iload_n 3, 1) := by decide +kernel
theorem d_cheb_33 : decode prog_19_method_5_code 33 = .ok (.if_icmp .ge 23, 3) := by decide +kernel
theorem d_cheb_56 : decode prog_19_method_5_code 56 = .ok (.iconst 1, 1) := by decide +kernel
theorem d_cheb_57 : decode prog_19_method_5_code 57 = .ok (.istore 7, 2) := by decide +kernel
theorem d_cheb_36 : decode prog_19_method_5_code 36 = .ok (.aload 4, 2) := by decide +kernel
theorem d_cheb_38 : decode prog_19_method_5_code 38 = .ok (.iload 7, 2) := by decide +kernel
theorem d_cheb_40 : decode prog_19_method_5_code 40 = .ok (.aload_n 0, 1) := by decide +kernel
theorem d_cheb_41 : decode prog_19_method_5_code 41 = .ok (.iconst 0, 1) := by decide +kernel
theorem d_cheb_42 : decode prog_19_method_5_code 42 = .ok (.daload, 1) := by decide +kernel
theorem d_cheb_43 : decode prog_19_method_5_code 43 = .ok (.aload 5, 2) := by decide +kernel
theorem d_cheb_45 : decode prog_19_method_5_code 45 = .ok (.iload 7, 2) := by decide +kernel
theorem d_cheb_47 : decode prog_19_method_5_code 47 = .ok (.daload, 1) := by decide +kernel
theorem d_cheb_48 : decode prog_19_method_5_code 48 = .ok (.dmul, 1) := by decide +kernel
theorem d_cheb_49 : decode prog_19_method_5_code 49 = .ok (.dastore, 1) := by decide +kernel
theorem d_cheb_50 : decode prog_19_method_5_code 50 = .ok (.iinc 7 1, 3) := by decide +kernel
theorem d_cheb_53 : decode prog_19_method_5_code 53 = .ok (.goto (-23), 3) := by decide +kernel
set_option maxRecDepth 65536 in
set_option maxHeartbeats 4000000 in
theorem m_cheb (l : Launch) (Z : State) (a0 : Array Value) (hw : ∀ d ∈ tables_1, d.before a0 Z = true) (a b d : Addr) (N A B M : Nat) (cf pf qf : Nat → UInt64) (C Pi Qi : Nat → Int) (h0 : Heap) (Ac : Ar Z h0 a .double N (fun i => .double (cf i))) (Ap : Ar Z h0 b .double A (fun i => .double (pf i))) (Aq : Ar Z h0 d .double B (fun i => .double (qf i))) (Xp : Exa Z h0 b "[D") (Xq : Exa Z h0 d "[D") (hM : M + 2 = B + N) (hMc : M ≤ 8) (hN : N ≤ 8) (hN0 : 1 ≤ N ∨ M = 0) (dC : ∀ i, i < N → DInt (C i) (cf i)) (dP : ∀ i, i < A → DInt (Pi i) (pf i)) (dQ : ∀ i, i < B → DInt (Qi i) (qf i)) (oP : ∀ i, A ≤ i → Pi i = 0) (oQ : ∀ i, B ≤ i → Qi i = 0) (bC : ∀ i, i < N → (C i).natAbs ≤ 34359738368) (bT : ∀ k i, k ≤ N → i < M → (own_T Pi Qi k i).natAbs ≤ 1024) :
    OMet l (⟨"com/example/graticule/graticule/referencing/operation/SineSeries", "chebyshevSum", "([D[D[D)[D"⟩ : MethodName) prog_19_method_5_code 10 (Option.some (FieldType.array FieldType.double)) [] ({ frames := 2, cells := 11, slots := 88, locals := 54 } : Room) Z h0 [] #[(.ref a), (.ref b), (.ref d)] (fun v h' => ∃ (r : Addr) (sf : Nat → UInt64), v = some (.ref r) ∧ h0.size ≤ r ∧ r < h'.size ∧ Ar Z h' r .double M (fun i => .double (sf i)) ∧ (∀ i, i < M → DInt (own_S C Pi Qi N i) (sf i))) := by
  refine OMet.of (own := "com/example/graticule/graticule/referencing/operation/SineSeries") (nm := "chebyshevSum") (plainFor_of_name pn_1) rfl rfl ?_
  intro p e s m below meth c T0 P0 hby hml hret hnm
  refine Done.step (T' := T0) (g' := (mkF m 0 #[.val (.ref a), .val (.ref b), .val (.ref d), .unset, .unset, .unset, .unset, .unset, .unset, .unset] [])) (fun t kk => castTop (ef_cheb m a b d) kk) ?_
  have lta := Ac.ltN
  have ltb := Ap.ltN
  have ltd := Aq.ltN
  have lN := Ac.len
  have lA := Ap.len
  have lB := Aq.len
  refine Done.stepL (pc' := 1) (st' := [(.ref d)]) (fun t kk => ?_) ?_
  · show Steps p.tables e below (T0.setTop (mkF m 0 _ [])) t
    refine XS.aloadN P0.here P0.x rfl (hb hby d_cheb_0) rfl rfl ?_
    exact kk
  refine wLen P0 Aq (z := (Int32.ofNat B)) (own_z Aq.len) (hb hby d_cheb_1) rfl ?_
  show Done _ _ _ _ _ _ _ _ _ _ _ _ _ _ _ T0 (mkF m 2 _ [(.int (Int32.ofNat B))])
  refine Done.stepL (pc' := 3) (st' := [(.ref a), (.int (Int32.ofNat B))]) (fun t kk => ?_) ?_
  · show Steps p.tables e below (T0.setTop (mkF m 2 _ [(.int (Int32.ofNat B))])) t
    refine XS.aloadN P0.here P0.x rfl (hb hby d_cheb_2) rfl rfl ?_
    exact kk
  refine wLen P0 Ac (z := (Int32.ofNat N)) (own_z Ac.len) (hb hby d_cheb_3) rfl ?_
  show Done _ _ _ _ _ _ _ _ _ _ _ _ _ _ _ T0 (mkF m 4 _ [(.int (Int32.ofNat N)), (.int (Int32.ofNat B))])
  refine Done.step (T' := T0) (g' := (mkF m 8 #[.val (.ref a), .val (.ref b), .val (.ref d), .val (.int (((Int32.ofNat B) + (Int32.ofNat N)) - (2 : Int32))), .unset, .unset, .unset, .unset, .unset, .unset] [])) (fun t kk => ?_) ?_
  · show Steps p.tables e below (T0.setTop (mkF m 4 _ [(.int (Int32.ofNat N)), (.int (Int32.ofNat B))])) t
    refine XS.iadd P0.here P0.x rfl (hb hby d_cheb_4) rfl ?_
    show Steps p.tables e below (T0.setTop (mkF m 5 _ [(.int ((Int32.ofNat B) + (Int32.ofNat N)))])) t
    refine XS.iconst P0.here P0.x rfl (hb hby d_cheb_5) ?_
    show Steps p.tables e below (T0.setTop (mkF m 6 _ [(.int (2 : Int32)), (.int ((Int32.ofNat B) + (Int32.ofNat N)))])) t
    refine XS.isub P0.here P0.x rfl (hb hby d_cheb_6) rfl ?_
    show Steps p.tables e below (T0.setTop (mkF m 7 _ [(.int (((Int32.ofNat B) + (Int32.ofNat N)) - (2 : Int32)))])) t
    refine XS.istoreN P0.here P0.x rfl (hb hby d_cheb_7) rfl (l' := #[.val (.ref a), .val (.ref b), .val (.ref d), .val (.int (((Int32.ofNat B) + (Int32.ofNat N)) - (2 : Int32))), .unset, .unset, .unset, .unset, .unset, .unset]) rfl ?_
    exact kk
  generalize g_mv : (((Int32.ofNat B) + (Int32.ofNat N)) - (2 : Int32)) = mv
  have hmv : mv.toInt = (M : Int) := by rw [← g_mv]; exact own_mv hM lB lN (by omega)
  show Done _ _ _ _ _ _ _ _ _ _ _ _ _ _ _ T0 (mkF m 8 _ [])
  refine Done.stepL (pc' := 9) (st' := [(.int mv)]) (fun t kk => ?_) ?_
  · show Steps p.tables e below (T0.setTop (mkF m 8 _ [])) t
    refine XS.iloadN P0.here P0.x rfl (hb hby d_cheb_8) rfl ?_
    exact kk
  refine wNewA (aty := .double) P0 (tw1 hw) (hb hby d_cheb_9) rfl (N := M) hmv (cap := 8) hMc (by decide) (by decide) (by decide) (ad := "[D") (by decide) (ty := .double) (dv := (.double (0 : UInt64))) rfl rfl (k' := 1) (n' := 8) rfl rfl (fun T1 h3 b4 g5 lt6 P2 E7 A8 X9 => ?_)
  have ge_b4 : h0.size ≤ b4 := by have := P0.ge; omega
  show Done _ _ _ _ _ _ _ _ _ _ _ _ _ _ _ T1 (mkF m 11 _ [(.ref b4)])
  refine Done.step (T' := T1) (g' := (mkF m 15 #[.val (.ref a), .val (.ref b), .val (.ref d), .val (.int mv), .val (.ref b4), .unset, .unset, .unset, .unset, .unset] [(.int mv), (.ref b)])) (fun t kk => ?_) ?_
  · show Steps p.tables e below (T1.setTop (mkF m 11 _ [(.ref b4)])) t
    refine XS.astore P2.here P2.x rfl (hb hby d_cheb_11) rfl rfl (l' := #[.val (.ref a), .val (.ref b), .val (.ref d), .val (.int mv), .val (.ref b4), .unset, .unset, .unset, .unset, .unset]) rfl ?_
    show Steps p.tables e below (T1.setTop (mkF m 13 _ [])) t
    refine XS.aloadN P2.here P2.x rfl (hb hby d_cheb_13) rfl rfl ?_
    show Steps p.tables e below (T1.setTop (mkF m 14 _ [(.ref b)])) t
    refine XS.iloadN P2.here P2.x rfl (hb hby d_cheb_14) rfl ?_
    exact kk
  have f17 := (Ap.ext E7)
  have f18 := (Xp.ext E7)
  refine wCallS P2 (m_copyOf l Z a0 hw b mv (Int32.ofNat A) A M pf h3 f17 f18 (own_z Ap.len) hmv hMc) (tw14 hw) (tw15 hw) (tw16 hw) (tw17 hw) (by decide) (by rw [hml]; rfl) (lenOf pd_1 rfl) (argsL := [(.ref b), (.int mv)]) (rest := []) rfl rfl (W := 0) (Nat.le_of_eq rfl) (by decide) (by decide) (by decide) (by decide) (by simp) (hb hby d_cheb_15) rfl (k' := 2) (n' := 16) rfl rfl ?_
  rintro T10 h19 _ P11 K20 ⟨b12, rfl, ge13, lt14, X15, A16⟩
  have szh19 : h3.size ≤ h19.size := K20.1
  show Done _ _ _ _ _ _ _ _ _ _ _ _ _ _ _ T10 (mkF m 18 _ [(.ref b12)])
  refine Done.step (T' := T10) (g' := (mkF m 22 #[.val (.ref a), .val (.ref b), .val (.ref d), .val (.int mv), .val (.ref b4), .val (.ref b12), .unset, .unset, .unset, .unset] [(.int mv), (.ref d)])) (fun t kk => ?_) ?_
  · show Steps p.tables e below (T10.setTop (mkF m 18 _ [(.ref b12)])) t
    refine XS.astore P11.here P11.x rfl (hb hby d_cheb_18) rfl rfl (l' := #[.val (.ref a), .val (.ref b), .val (.ref d), .val (.int mv), .val (.ref b4), .val (.ref b12), .unset, .unset, .unset, .unset]) rfl ?_
    show Steps p.tables e below (T10.setTop (mkF m 20 _ [])) t
    refine XS.aloadN P11.here P11.x rfl (hb hby d_cheb_20) rfl rfl ?_
    show Steps p.tables e below (T10.setTop (mkF m 21 _ [(.ref d)])) t
    refine XS.iloadN P11.here P11.x rfl (hb hby d_cheb_21) rfl ?_
    exact kk
  have f28 := ((Aq.ext E7).keep K20 nin0)
  have f29 := ((Xq.ext E7).keep K20)
  refine wCallS P11 (m_copyOf l Z a0 hw d mv (Int32.ofNat B) B M qf h19 f28 f29 (own_z Aq.len) hmv hMc) (tw14 hw) (tw15 hw) (tw16 hw) (tw17 hw) (by decide) (by rw [hml]; rfl) (lenOf pd_1 rfl) (argsL := [(.ref d), (.int mv)]) (rest := []) rfl rfl (W := 0) (Nat.le_of_eq rfl) (by decide) (by decide) (by decide) (by decide) (by simp) (hb hby d_cheb_22) rfl (k' := 3) (n' := 24) rfl rfl ?_
  rintro T21 h30 _ P22 K31 ⟨b23, rfl, ge24, lt25, X26, A27⟩
  have szh30 : h19.size ≤ h30.size := K31.1
  show Done _ _ _ _ _ _ _ _ _ _ _ _ _ _ _ T21 (mkF m 25 _ [(.ref b23)])
  refine Done.step (T' := T21) (g' := (mkF m 30 #[.val (.ref a), .val (.ref b), .val (.ref d), .val (.int mv), .val (.ref b4), .val (.ref b12), .val (.ref b23), .val (.int (0 : Int32)), .unset, .unset] [])) (fun t kk => ?_) ?_
  · show Steps p.tables e below (T21.setTop (mkF m 25 _ [(.ref b23)])) t
    refine XS.astore P22.here P22.x rfl (hb hby d_cheb_25) rfl rfl (l' := #[.val (.ref a), .val (.ref b), .val (.ref d), .val (.int mv), .val (.ref b4), .val (.ref b12), .val (.ref b23), .unset, .unset, .unset]) rfl ?_
    show Steps p.tables e below (T21.setTop (mkF m 27 _ [])) t
    refine XS.iconst P22.here P22.x rfl (hb hby d_cheb_27) ?_
    show Steps p.tables e below (T21.setTop (mkF m 28 _ [(.int (0 : Int32))])) t
    refine XS.istore P22.here P22.x rfl (hb hby d_cheb_28) rfl (l' := #[.val (.ref a), .val (.ref b), .val (.ref d), .val (.int mv), .val (.ref b4), .val (.ref b12), .val (.ref b23), .val (.int (0 : Int32)), .unset, .unset]) rfl ?_
    exact kk
  have f32 := ((A8.keep K20 nin0).keep K31 nin0)
  have f33 := (A16.keep K31 nin0)
  have f34 := (((Ac.ext E7).keep K20 nin0).keep K31 nin0)
  have dP5 : ∀ i, i < M → DInt (own_T Pi Qi 0 i) ((fun i => if i < A then pf i else 0) i) := fun i hi => own_pad dP oP i
  have dQ6 : ∀ i, i < M → DInt (own_T Pi Qi 1 i) ((fun i => if i < B then qf i else 0) i) := fun i hi => own_pad dQ oQ i
  have ne1 : b12 ≠ b4 ∧ b23 ≠ b4 ∧ a ≠ b4 ∧ h0.size ≤ b4 := by have := ge_b4; refine ⟨?_, ?_, ?_, ?_⟩ <;> first | omega | exact adr_ne (by omega)
  obtain ⟨ne1, ne2, ne3, ge4⟩ := ne1
  have outer : ∀ (r : Nat) (tn : Nat) (T : State) (h : Heap) (iv : Int32) (p5 q6 : Addr) (s8 s9 : Slot) (sf pf' qf' : Nat → UInt64), tn + 1 + r = N → iv.toInt = ((tn + 1 : Nat) : Int) → One s8 → One s9 → Pos p l e ({ frames := 2, cells := 11, slots := 88, locals := 54 } : Room) s m #[(.ref a), (.ref b), (.ref d)] below meth c Z "com/example/graticule/graticule/referencing/operation/SineSeries" [] h0.size T h (3 + tn) (24 + 8 * tn) → Ar Z h a .double N (fun i => .double (cf i)) → Ar Z h b4 .double M (fun i => .double (sf i)) → Ar Z h p5 .double M (fun i => .double (pf' i)) → Ar Z h q6 .double M (fun i => .double (qf' i)) → p5 ≠ b4 → q6 ≠ b4 → (∀ i, i < M → DInt (own_S C Pi Qi (tn + 1) i) (sf i)) → (∀ i, i < M → DInt (own_T Pi Qi tn i) (pf' i)) → (∀ i, i < M → DInt (own_T Pi Qi (tn + 1) i) (qf' i)) → Done p l e ({ frames := 2, cells := 11, slots := 88, locals := 54 } : Room) s m #[(.ref a), (.ref b), (.ref d)] below meth c Z "com/example/graticule/graticule/referencing/operation/SineSeries" [] h0.size (fun v h' => ∃ (r : Addr) (sf : Nat → UInt64), v = some (.ref r) ∧ h0.size ≤ r ∧ r < h'.size ∧ Ar Z h' r .double M (fun i => .double (sf i)) ∧ (∀ i, i < M → DInt (own_S C Pi Qi N i) (sf i))) T (mkF m 59 #[.val (.ref a), .val (.ref b), .val (.ref d), .val (.int mv), .val (.ref b4), .val (.ref p5), .val (.ref q6), .val (.int iv), s8, s9] []) := by
    intro r
    induction r with
    | zero =>
      intro tn T h iv p5 q6 s8 s9 sf pf' qf' hr hiv h8 h9 P Ac' As Ap' Aq' nep neq hS hP hQ
      refine Done.stepL (pc' := 62) (st' := [(.ref a), (.int iv)]) (fun t kk => ?_) ?_
      · show Steps p.tables e below (T.setTop (mkF m 59 _ [])) t
        refine XS.iload P.here P.x rfl (hb hby d_cheb_59) rfl ?_
        show Steps p.tables e below (T.setTop (mkF m 61 _ [(.int iv)])) t
        refine XS.aloadN P.here P.x rfl (hb hby d_cheb_61) rfl rfl ?_
        exact kk
      refine wLen P Ac' (z := (Int32.ofNat N)) (own_z lN) (hb hby d_cheb_62) rfl ?_
      show Done _ _ _ _ _ _ _ _ _ _ _ _ _ _ _ T (mkF m 63 _ [(.int (Int32.ofNat N)), (.int iv)])
      refine Done.stepL (pc' := 166) (st' := [(.ref b4)]) (fun t kk => ?_) ?_
      · show Steps p.tables e below (T.setTop (mkF m 63 _ [(.int (Int32.ofNat N)), (.int iv)])) t
        refine XS.icmpYes P.here P.x rfl (pc0 := 63) (pc' := 164) rfl (hb hby d_cheb_63) rfl (iiW_ge_t (own_ge hiv lN (by omega))) (by decide) (by decide) ?_
        show Steps p.tables e below (T.setTop (mkF m 164 _ [])) t
        refine XS.aload P.here P.x rfl (hb hby d_cheb_164) rfl rfl ?_
        exact kk
      exact wRetA P hret rfl rfl (hb hby d_cheb_166) ⟨b4, sf, rfl, ge4, As.lt, As, fun i hi => by have := hS i hi; rwa [show tn + 1 = N by omega] at this⟩
    | succ r ih =>
      intro tn T h iv p5 q6 s8 s9 sf pf' qf' hr hiv h8 h9 P Ac' As Ap' Aq' nep neq hS hP hQ
      refine Done.stepL (pc' := 62) (st' := [(.ref a), (.int iv)]) (fun t kk => ?_) ?_
      · show Steps p.tables e below (T.setTop (mkF m 59 _ [])) t
        refine XS.iload P.here P.x rfl (hb hby d_cheb_59) rfl ?_
        show Steps p.tables e below (T.setTop (mkF m 61 _ [(.int iv)])) t
        refine XS.aloadN P.here P.x rfl (hb hby d_cheb_61) rfl rfl ?_
        exact kk
      refine wLen P Ac' (z := (Int32.ofNat N)) (own_z lN) (hb hby d_cheb_62) rfl ?_
      show Done _ _ _ _ _ _ _ _ _ _ _ _ _ _ _ T (mkF m 63 _ [(.int (Int32.ofNat N)), (.int iv)])
      refine Done.step (T' := T) (g' := (mkF m 69 #[.val (.ref a), .val (.ref b), .val (.ref d), .val (.int mv), .val (.ref b4), .val (.ref p5), .val (.ref q6), .val (.int iv), .val (.int (0 : Int32)), s9] [])) (fun t kk => ?_) ?_
      · show Steps p.tables e below (T.setTop (mkF m 63 _ [(.int (Int32.ofNat N)), (.int iv)])) t
        refine XS.icmpNo P.here P.x rfl (hb hby d_cheb_63) rfl (iiW_ge_f (not_not_intro (own_lt hiv lN (by omega)))) ?_
        show Steps p.tables e below (T.setTop (mkF m 66 _ [])) t
        refine XS.iconst P.here P.x rfl (hb hby d_cheb_66) ?_
        show Steps p.tables e below (T.setTop (mkF m 67 _ [(.int (0 : Int32))])) t
        refine XS.istore P.here P.x rfl (hb hby d_cheb_67) rfl (l' := #[.val (.ref a), .val (.ref b), .val (.ref d), .val (.int mv), .val (.ref b4), .val (.ref p5), .val (.ref q6), .val (.int iv), .val (.int (0 : Int32)), s9]) (os_cheb_67_28 h8) ?_
        exact kk
      have loopA : ∀ (r : Nat) (j : Nat) (T : State) (h : Heap) (jv : Int32) (sf : Nat → UInt64), j + r = M → jv.toInt = (j : Int) → Pos p l e ({ frames := 2, cells := 11, slots := 88, locals := 54 } : Room) s m #[(.ref a), (.ref b), (.ref d)] below meth c Z "com/example/graticule/graticule/referencing/operation/SineSeries" [] h0.size T h (3 + tn) (24 + 8 * tn) → Ar Z h a .double N (fun i => .double (cf i)) → Ar Z h b4 .double M (fun i => .double (sf i)) → Ar Z h p5 .double M (fun i => .double (pf' i)) → Ar Z h q6 .double M (fun i => .double (qf' i)) → (∀ i, i < j → DInt (own_S C Pi Qi (tn + 2) i) (sf i)) → (∀ i, j ≤ i → i < M → DInt (own_S C Pi Qi (tn + 1) i) (sf i)) → Done p l e ({ frames := 2, cells := 11, slots := 88, locals := 54 } : Room) s m #[(.ref a), (.ref b), (.ref d)] below meth c Z "com/example/graticule/graticule/referencing/operation/SineSeries" [] h0.size (fun v h' => ∃ (r : Addr) (sf : Nat → UInt64), v = some (.ref r) ∧ h0.size ≤ r ∧ r < h'.size ∧ Ar Z h' r .double M (fun i => .double (sf i)) ∧ (∀ i, i < M → DInt (own_S C Pi Qi N i) (sf i))) T (mkF m 69 #[.val (.ref a), .val (.ref b), .val (.ref d), .val (.int mv), .val (.ref b4), .val (.ref p5), .val (.ref q6), .val (.int iv), .val (.int jv), s9] []) := by
        intro r
        induction r with
        | zero =>
          intro j T h jv sf hjr hjv P Ac' As Ap' Aq' hS1 hS2
          refine Done.stepL (pc' := 100) (st' := [(.int mv)]) (fun t kk => ?_) ?_
          · show Steps p.tables e below (T.setTop (mkF m 69 _ [])) t
            refine XS.iload P.here P.x rfl (hb hby d_cheb_69) rfl ?_
            show Steps p.tables e below (T.setTop (mkF m 71 _ [(.int jv)])) t
            refine XS.iloadN P.here P.x rfl (hb hby d_cheb_71) rfl ?_
            show Steps p.tables e below (T.setTop (mkF m 72 _ [(.int mv), (.int jv)])) t
            refine XS.icmpYes P.here P.x rfl (pc0 := 72) (pc' := 99) rfl (hb hby d_cheb_72) rfl (iiW_ge_t (own_ge2 hjv hmv (by omega))) (by decide) (by decide) ?_
            show Steps p.tables e below (T.setTop (mkF m 99 _ [])) t
            refine XS.iloadN P.here P.x rfl (hb hby d_cheb_99) rfl ?_
            exact kk
          refine wNewA (aty := .double) P (tw1 hw) (hb hby d_cheb_100) rfl (N := M) hmv (cap := 8) hMc (by decide) (by show (3 + tn) + 1 ≤ 11; omega) (by show (24 + 8 * tn) + 8 ≤ 88; omega) (ad := "[D") (by decide) (ty := .double) (dv := (.double (0 : UInt64))) rfl rfl (k' := ((3 + tn) + 1)) (n' := ((24 + 8 * tn) + 8)) rfl rfl (fun T35 h37 b38 g39 lt40 P36 E41 A42 X43 => ?_)
          have ge_b38 : h0.size ≤ b38 := by have := P.ge; omega
          show Done _ _ _ _ _ _ _ _ _ _ _ _ _ _ _ T35 (mkF m 102 _ [(.ref b38)])
          refine Done.step (T' := T35) (g' := (mkF m 107 #[.val (.ref a), .val (.ref b), .val (.ref d), .val (.int mv), .val (.ref b4), .val (.ref p5), .val (.ref q6), .val (.int iv), .val (.ref b38), .val (.int (0 : Int32))] [])) (fun t kk => ?_) ?_
          · show Steps p.tables e below (T35.setTop (mkF m 102 _ [(.ref b38)])) t
            refine XS.astore P36.here P36.x rfl (hb hby d_cheb_102) rfl rfl (l' := #[.val (.ref a), .val (.ref b), .val (.ref d), .val (.int mv), .val (.ref b4), .val (.ref p5), .val (.ref q6), .val (.int iv), .val (.ref b38), s9]) rfl ?_
            show Steps p.tables e below (T35.setTop (mkF m 104 _ [])) t
            refine XS.iconst P36.here P36.x rfl (hb hby d_cheb_104) ?_
            show Steps p.tables e below (T35.setTop (mkF m 105 _ [(.int (0 : Int32))])) t
            refine XS.istore P36.here P36.x rfl (hb hby d_cheb_105) rfl (l' := #[.val (.ref a), .val (.ref b), .val (.ref d), .val (.int mv), .val (.ref b4), .val (.ref p5), .val (.ref q6), .val (.int iv), .val (.ref b38), .val (.int (0 : Int32))]) (os_cheb_105_37 h9) ?_
            exact kk
          have ltr : @LT.lt Nat instLTNat b38 h37.size := A42.ltN
          have ner : b38 ≠ p5 ∧ b38 ≠ q6 ∧ b38 ≠ b4 ∧ b38 ≠ a ∧ h0.size ≤ b38 := by have := Ap'.ltN; have := Aq'.ltN; have := As.ltN; have := Ac'.ltN; have := ge_b38; refine ⟨?_, ?_, ?_, ?_, ?_⟩ <;> first | omega | exact adr_ne (by omega)
          obtain ⟨ner1, ner2, ner3, ner4, ger⟩ := ner
          have loopB : ∀ (r : Nat) (j : Nat) (T : State) (h : Heap) (jv : Int32) (rf : Nat → UInt64), j + r = M → jv.toInt = (j : Int) → Pos p l e ({ frames := 2, cells := 11, slots := 88, locals := 54 } : Room) s m #[(.ref a), (.ref b), (.ref d)] below meth c Z "com/example/graticule/graticule/referencing/operation/SineSeries" [] h0.size T h ((3 + tn) + 1) ((24 + 8 * tn) + 8) → Ar Z h a .double N (fun i => .double (cf i)) → Ar Z h b4 .double M (fun i => .double (sf i)) → Ar Z h p5 .double M (fun i => .double (pf' i)) → Ar Z h q6 .double M (fun i => .double (qf' i)) → Ar Z h b38 .double M (fun i => .double (rf i)) → (∀ i, i < j → DInt (own_T Pi Qi (tn + 2) i) (rf i)) → Done p l e ({ frames := 2, cells := 11, slots := 88, locals := 54 } : Room) s m #[(.ref a), (.ref b), (.ref d)] below meth c Z "com/example/graticule/graticule/referencing/operation/SineSeries" [] h0.size (fun v h' => ∃ (r : Addr) (sf : Nat → UInt64), v = some (.ref r) ∧ h0.size ≤ r ∧ r < h'.size ∧ Ar Z h' r .double M (fun i => .double (sf i)) ∧ (∀ i, i < M → DInt (own_S C Pi Qi N i) (sf i))) T (mkF m 107 #[.val (.ref a), .val (.ref b), .val (.ref d), .val (.int mv), .val (.ref b4), .val (.ref p5), .val (.ref q6), .val (.int iv), .val (.ref b38), .val (.int jv)] []) := by
            intro r
            induction r with
            | zero =>
              intro j T h jv rf hjr hjv P Ac' As Ap' Aq' Ar8 hR
              refine Done.step (T' := T) (g' := (mkF m 59 #[.val (.ref a), .val (.ref b), .val (.ref d), .val (.int mv), .val (.ref b4), .val (.ref q6), .val (.ref b38), .val (.int (iv + (1 : Int32))), .val (.ref b38), .val (.int jv)] [])) (fun t kk => ?_) ?_
              · show Steps p.tables e below (T.setTop (mkF m 107 _ [])) t
                refine XS.iload P.here P.x rfl (hb hby d_cheb_107) rfl ?_
                show Steps p.tables e below (T.setTop (mkF m 109 _ [(.int jv)])) t
                refine XS.iloadN P.here P.x rfl (hb hby d_cheb_109) rfl ?_
                show Steps p.tables e below (T.setTop (mkF m 110 _ [(.int mv), (.int jv)])) t
                refine XS.icmpYes P.here P.x rfl (pc0 := 110) (pc' := 150) rfl (hb hby d_cheb_110) rfl (iiW_ge_t (own_ge2 hjv hmv (by omega))) (by decide) (by decide) ?_
                show Steps p.tables e below (T.setTop (mkF m 150 _ [])) t
                refine XS.aload P.here P.x rfl (hb hby d_cheb_150) rfl rfl ?_
                show Steps p.tables e below (T.setTop (mkF m 152 _ [(.ref q6)])) t
                refine XS.astore P.here P.x rfl (hb hby d_cheb_152) rfl rfl (l' := #[.val (.ref a), .val (.ref b), .val (.ref d), .val (.int mv), .val (.ref b4), .val (.ref q6), .val (.ref q6), .val (.int iv), .val (.ref b38), .val (.int jv)]) rfl ?_
                show Steps p.tables e below (T.setTop (mkF m 154 _ [])) t
                refine XS.aload P.here P.x rfl (hb hby d_cheb_154) rfl rfl ?_
                show Steps p.tables e below (T.setTop (mkF m 156 _ [(.ref b38)])) t
                refine XS.astore P.here P.x rfl (hb hby d_cheb_156) rfl rfl (l' := #[.val (.ref a), .val (.ref b), .val (.ref d), .val (.int mv), .val (.ref b4), .val (.ref q6), .val (.ref b38), .val (.int iv), .val (.ref b38), .val (.int jv)]) rfl ?_
                show Steps p.tables e below (T.setTop (mkF m 158 _ [])) t
                refine XS.iinc P.here P.x rfl (hb hby d_cheb_158) rfl (l' := #[.val (.ref a), .val (.ref b), .val (.ref d), .val (.int mv), .val (.ref b4), .val (.ref q6), .val (.ref b38), .val (.int (iv + (1 : Int32))), .val (.ref b38), .val (.int jv)]) rfl ?_
                show Steps p.tables e below (T.setTop (mkF m 161 _ [])) t
                refine XS.goto P.here P.x rfl (pc0 := 161) (pc' := 59) rfl (hb hby d_cheb_161) (by decide) (by decide) ?_
                exact kk
              exact ih (tn + 1) _ _ _ q6 b38 _ _ sf qf' rf (by omega) (own_i1 hiv lN (by omega)) (One.val rfl) (One.val rfl) (Pos.cast P (by omega) (by omega)) Ac' As Aq' Ar8 neq ner3 (fun i hi => hS1 i (by omega)) hQ (fun i hi => hR i (by omega))
            | succ r ih =>
              intro j T h jv rf hjr hjv P Ac' As Ap' Aq' Ar8 hR
              refine Done.stepL (pc' := 119) (st' := [(.int jv), (.int jv), (.ref b38)]) (fun t kk => ?_) ?_
              · show Steps p.tables e below (T.setTop (mkF m 107 _ [])) t
                refine XS.iload P.here P.x rfl (hb hby d_cheb_107) rfl ?_
                show Steps p.tables e below (T.setTop (mkF m 109 _ [(.int jv)])) t
                refine XS.iloadN P.here P.x rfl (hb hby d_cheb_109) rfl ?_
                show Steps p.tables e below (T.setTop (mkF m 110 _ [(.int mv), (.int jv)])) t
                refine XS.icmpNo P.here P.x rfl (hb hby d_cheb_110) rfl (iiW_ge_f (not_not_intro (own_lt2 hjv hmv (by omega)))) ?_
                show Steps p.tables e below (T.setTop (mkF m 113 _ [])) t
                refine XS.aload P.here P.x rfl (hb hby d_cheb_113) rfl rfl ?_
                show Steps p.tables e below (T.setTop (mkF m 115 _ [(.ref b38)])) t
                refine XS.iload P.here P.x rfl (hb hby d_cheb_115) rfl ?_
                show Steps p.tables e below (T.setTop (mkF m 117 _ [(.int jv), (.ref b38)])) t
                refine XS.iload P.here P.x rfl (hb hby d_cheb_117) rfl ?_
                exact kk
              by_cases hc : ¬ ((0 : Int32) < jv)
              · have hj0 : j = 0 := own_j0 hjv hc
                refine Done.stepL (pc' := 141) (st' := [(.int jv), (.ref p5), (.double FP.dconst0), (.int jv), (.ref b38)]) (fun t kk => ?_) ?_
                · show Steps p.tables e below (T.setTop (mkF m 119 _ [(.int jv), (.int jv), (.ref b38)])) t
                  refine XS.ifYes P.here P.x rfl (pc0 := 119) (pc' := 136) rfl (hb hby d_cheb_119) rfl (i0W_le_t hc) (by decide) (by decide) ?_
                  show Steps p.tables e below (T.setTop (mkF m 136 _ [(.int jv), (.ref b38)])) t
                  refine XS.dconst0 P.here P.x rfl (hb hby d_cheb_136) rfl ?_
                  show Steps p.tables e below (T.setTop (mkF m 137 _ [(.double FP.dconst0), (.int jv), (.ref b38)])) t
                  refine XS.aload P.here P.x rfl (hb hby d_cheb_137) rfl rfl ?_
                  show Steps p.tables e below (T.setTop (mkF m 139 _ [(.ref p5), (.double FP.dconst0), (.int jv), (.ref b38)])) t
                  refine XS.iload P.here P.x rfl (hb hby d_cheb_139) rfl ?_
                  exact kk
                refine wDaload P Ap' (j := jv) (i := j) hjv (by omega) (v := (.double (pf' j))) rfl (hb hby d_cheb_141) rfl ?_
                show Done _ _ _ _ _ _ _ _ _ _ _ _ _ _ _ T (mkF m 142 _ [(.double (pf' j)), (.double FP.dconst0), (.int jv), (.ref b38)])
                refine Done.stepL (pc' := 143) (st' := [(.double (FP.dsub FP.dconst0 (pf' j))), (.int jv), (.ref b38)]) (fun t kk => ?_) ?_
                · show Steps p.tables e below (T.setTop (mkF m 142 _ [(.double (pf' j)), (.double FP.dconst0), (.int jv), (.ref b38)])) t
                  refine XS.dsubS P.here P.x rfl (hb hby d_cheb_142) rfl (nnD (dsub_int dint_c0 (hP j (by omega)) (by have := bT tn j (by omega) (by omega); omega))) rfl ?_
                  exact kk
                refine wDastore P (f := rf) Ar8 (j := jv) (i := j) hjv (by omega) (Or.inr ger) (hb hby d_cheb_143) rfl (fun T44 h46 P45 W47 A48 => ?_)
                have szh46 : h46.size = h.size := W47.size
                show Done _ _ _ _ _ _ _ _ _ _ _ _ _ _ _ T44 (mkF m 144 _ [])
                refine Done.step (T' := T44) (g' := (mkF m 107 #[.val (.ref a), .val (.ref b), .val (.ref d), .val (.int mv), .val (.ref b4), .val (.ref p5), .val (.ref q6), .val (.int iv), .val (.ref b38), .val (.int (jv + (1 : Int32)))] [])) (fun t kk => ?_) ?_
                · show Steps p.tables e below (T44.setTop (mkF m 144 _ [])) t
                  refine XS.iinc P45.here P45.x rfl (hb hby d_cheb_144) rfl (l' := #[.val (.ref a), .val (.ref b), .val (.ref d), .val (.int mv), .val (.ref b4), .val (.ref p5), .val (.ref q6), .val (.int iv), .val (.ref b38), .val (.int (jv + (1 : Int32)))]) rfl ?_
                  show Steps p.tables e below (T44.setTop (mkF m 147 _ [])) t
                  refine XS.goto P45.here P45.x rfl (pc0 := 147) (pc' := 107) rfl (hb hby d_cheb_147) (by decide) (by decide) ?_
                  exact kk
                have f49 := (Ac'.other W47 (by first | assumption | exact Ne.symm (by assumption) | exact adr_ne (by omega) | omega))
                have f50 := (As.other W47 (by first | assumption | exact Ne.symm (by assumption) | exact adr_ne (by omega) | omega))
                have f51 := (Ap'.other W47 (by first | assumption | exact Ne.symm (by assumption) | exact adr_ne (by omega) | omega))
                have f52 := (Aq'.other W47 (by first | assumption | exact Ne.symm (by assumption) | exact adr_ne (by omega) | omega))
                exact ih _ _ _ _ _ (by omega) (own_i1 hjv (N := M) (by omega) (by omega)) P45 f49 f50 f51 f52 A48 (fun i hi => own_upd hR (by subst hj0; rw [show own_T Pi Qi (tn + 2) 0 = 2 * 0 - own_T Pi Qi tn 0 from rfl, Int.mul_zero]; exact dsub_int dint_c0 (hP 0 (by omega)) (by have := bT tn 0 (by omega) (by omega); omega)) i hi)
              · obtain ⟨j', rfl⟩ : ∃ j', j = j' + 1 := ⟨j - 1, by have := own_j1 hjv hc; omega⟩
                have b1 := bT (tn + 1) j' (by omega) (by omega)
                have b2 := bT tn (j' + 1) (by omega) (by omega)
                have d1 : DInt (2 * own_T Pi Qi (tn + 1) j') (FP.dmul (4611686018427387904 : UInt64) (qf' j')) := dmul_int (lit_dy (n := 2) (by decide +kernel)) (hQ j' (by omega)) (by omega)
                have d2 : DInt (2 * own_T Pi Qi (tn + 1) j' - own_T Pi Qi tn (j' + 1)) (FP.dsub (FP.dmul (4611686018427387904 : UInt64) (qf' j')) (pf' (j' + 1))) := dsub_int d1 (hP (j' + 1) (by omega)) (by omega)
                refine Done.stepL (pc' := 131) (st' := [(.int (jv - (1 : Int32))), (.ref q6), (.double (4611686018427387904 : UInt64)), (.int jv), (.ref b38)]) (fun t kk => ?_) ?_
                · show Steps p.tables e below (T.setTop (mkF m 119 _ [(.int jv), (.int jv), (.ref b38)])) t
                  refine XS.ifNo P.here P.x rfl (hb hby d_cheb_119) rfl (i0W_le_f (show ¬ (¬ ((0 : Int32) < jv)) from hc)) ?_
                  show Steps p.tables e below (T.setTop (mkF m 122 _ [(.int jv), (.ref b38)])) t
                  refine pLdcD P (tw10 hw) (hb hby d_cheb_122) rfl ?_
                  show Steps p.tables e below (T.setTop (mkF m 125 _ [(.double (4611686018427387904 : UInt64)), (.int jv), (.ref b38)])) t
                  refine XS.aload P.here P.x rfl (hb hby d_cheb_125) rfl rfl ?_
                  show Steps p.tables e below (T.setTop (mkF m 127 _ [(.ref q6), (.double (4611686018427387904 : UInt64)), (.int jv), (.ref b38)])) t
                  refine XS.iload P.here P.x rfl (hb hby d_cheb_127) rfl ?_
                  show Steps p.tables e below (T.setTop (mkF m 129 _ [(.int jv), (.ref q6), (.double (4611686018427387904 : UInt64)), (.int jv), (.ref b38)])) t
                  refine XS.iconst P.here P.x rfl (hb hby d_cheb_129) ?_
                  show Steps p.tables e below (T.setTop (mkF m 130 _ [(.int (1 : Int32)), (.int jv), (.ref q6), (.double (4611686018427387904 : UInt64)), (.int jv), (.ref b38)])) t
                  refine XS.isub P.here P.x rfl (hb hby d_cheb_130) rfl ?_
                  exact kk
                refine wDaload P Aq' (j := (jv - (1 : Int32))) (i := j') (own_dec hjv) (by omega) (v := (.double (qf' j'))) rfl (hb hby d_cheb_131) rfl ?_
                show Done _ _ _ _ _ _ _ _ _ _ _ _ _ _ _ T (mkF m 132 _ [(.double (qf' j')), (.double (4611686018427387904 : UInt64)), (.int jv), (.ref b38)])
                refine Done.stepL (pc' := 141) (st' := [(.int jv), (.ref p5), (.double (FP.dmul (4611686018427387904 : UInt64) (qf' j'))), (.int jv), (.ref b38)]) (fun t kk => ?_) ?_
                · show Steps p.tables e below (T.setTop (mkF m 132 _ [(.double (qf' j')), (.double (4611686018427387904 : UInt64)), (.int jv), (.ref b38)])) t
                  refine XS.dmulS P.here P.x rfl (hb hby d_cheb_132) rfl (nnD d1) rfl ?_
                  show Steps p.tables e below (T.setTop (mkF m 133 _ [(.double (FP.dmul (4611686018427387904 : UInt64) (qf' j'))), (.int jv), (.ref b38)])) t
                  refine XS.goto P.here P.x rfl (pc0 := 133) (pc' := 137) rfl (hb hby d_cheb_133) (by decide) (by decide) ?_
                  show Steps p.tables e below (T.setTop (mkF m 137 _ [(.double (FP.dmul (4611686018427387904 : UInt64) (qf' j'))), (.int jv), (.ref b38)])) t
                  refine XS.aload P.here P.x rfl (hb hby d_cheb_137) rfl rfl ?_
                  show Steps p.tables e below (T.setTop (mkF m 139 _ [(.ref p5), (.double (FP.dmul (4611686018427387904 : UInt64) (qf' j'))), (.int jv), (.ref b38)])) t
                  refine XS.iload P.here P.x rfl (hb hby d_cheb_139) rfl ?_
                  exact kk
                refine wDaload P Ap' (j := jv) (i := (j' + 1)) hjv (by omega) (v := (.double (pf' (j' + 1)))) rfl (hb hby d_cheb_141) rfl ?_
                show Done _ _ _ _ _ _ _ _ _ _ _ _ _ _ _ T (mkF m 142 _ [(.double (pf' (j' + 1))), (.double (FP.dmul (4611686018427387904 : UInt64) (qf' j'))), (.int jv), (.ref b38)])
                refine Done.stepL (pc' := 143) (st' := [(.double (FP.dsub (FP.dmul (4611686018427387904 : UInt64) (qf' j')) (pf' (j' + 1)))), (.int jv), (.ref b38)]) (fun t kk => ?_) ?_
                · show Steps p.tables e below (T.setTop (mkF m 142 _ [(.double (pf' (j' + 1))), (.double (FP.dmul (4611686018427387904 : UInt64) (qf' j'))), (.int jv), (.ref b38)])) t
                  refine XS.dsubS P.here P.x rfl (hb hby d_cheb_142) rfl (nnD d2) rfl ?_
                  exact kk
                refine wDastore P (f := rf) Ar8 (j := jv) (i := (j' + 1)) hjv (by omega) (Or.inr ger) (hb hby d_cheb_143) rfl (fun T53 h55 P54 W56 A57 => ?_)
                have szh55 : h55.size = h.size := W56.size
                show Done _ _ _ _ _ _ _ _ _ _ _ _ _ _ _ T53 (mkF m 144 _ [])
                refine Done.step (T' := T53) (g' := (mkF m 107 #[.val (.ref a), .val (.ref b), .val (.ref d), .val (.int mv), .val (.ref b4), .val (.ref p5), .val (.ref q6), .val (.int iv), .val (.ref b38), .val (.int (jv + (1 : Int32)))] [])) (fun t kk => ?_) ?_
                · show Steps p.tables e below (T53.setTop (mkF m 144 _ [])) t
                  refine XS.iinc P54.here P54.x rfl (hb hby d_cheb_144) rfl (l' := #[.val (.ref a), .val (.ref b), .val (.ref d), .val (.int mv), .val (.ref b4), .val (.ref p5), .val (.ref q6), .val (.int iv), .val (.ref b38), .val (.int (jv + (1 : Int32)))]) rfl ?_
                  show Steps p.tables e below (T53.setTop (mkF m 147 _ [])) t
                  refine XS.goto P54.here P54.x rfl (pc0 := 147) (pc' := 107) rfl (hb hby d_cheb_147) (by decide) (by decide) ?_
                  exact kk
                have f58 := (Ac'.other W56 (by first | assumption | exact Ne.symm (by assumption) | exact adr_ne (by omega) | omega))
                have f59 := (As.other W56 (by first | assumption | exact Ne.symm (by assumption) | exact adr_ne (by omega) | omega))
                have f60 := (Ap'.other W56 (by first | assumption | exact Ne.symm (by assumption) | exact adr_ne (by omega) | omega))
                have f61 := (Aq'.other W56 (by first | assumption | exact Ne.symm (by assumption) | exact adr_ne (by omega) | omega))
                exact ih _ _ _ _ _ (by omega) (own_i1 hjv (N := M) (by omega) (by omega)) P54 f58 f59 f60 f61 A57 (fun i hi => own_upd hR (d2) i hi)
          have f62 := (Ac'.ext E41)
          have f63 := (As.ext E41)
          have f64 := (Ap'.ext E41)
          have f65 := (Aq'.ext E41)
          exact loopB M 0 _ _ _ _ (by omega) rfl P36 f62 f63 f64 f65 A42 (fun i hi => absurd hi (by omega))
        | succ r ih =>
          intro j T h jv sf hjr hjv P Ac' As Ap' Aq' hS1 hS2
          have e1 := dmul_int (dC (tn + 1) (by omega)) (hQ j (by omega)) (by have := nab_mul (bC (tn + 1) (by omega)) (bT (tn + 1) j (by omega) (by omega)); omega)
          have e2 : DInt (own_S C Pi Qi (tn + 2) j) (FP.dadd (sf j) (FP.dmul (cf (tn + 1)) (qf' j))) := dadd_int (hS2 j (Nat.le_refl _) (by omega)) e1 (by have h5 := own_Sb bC bT (tn + 2) j (by omega) (by omega); have h6 : tn ≤ 7 := (by omega); exact Nat.le_trans h5 (by omega))
          refine Done.stepL (pc' := 80) (st' := [(.int jv), (.ref b4), (.int jv), (.ref b4)]) (fun t kk => ?_) ?_
          · show Steps p.tables e below (T.setTop (mkF m 69 _ [])) t
            refine XS.iload P.here P.x rfl (hb hby d_cheb_69) rfl ?_
            show Steps p.tables e below (T.setTop (mkF m 71 _ [(.int jv)])) t
            refine XS.iloadN P.here P.x rfl (hb hby d_cheb_71) rfl ?_
            show Steps p.tables e below (T.setTop (mkF m 72 _ [(.int mv), (.int jv)])) t
            refine XS.icmpNo P.here P.x rfl (hb hby d_cheb_72) rfl (iiW_ge_f (not_not_intro (own_lt2 hjv hmv (by omega)))) ?_
            show Steps p.tables e below (T.setTop (mkF m 75 _ [])) t
            refine XS.aload P.here P.x rfl (hb hby d_cheb_75) rfl rfl ?_
            show Steps p.tables e below (T.setTop (mkF m 77 _ [(.ref b4)])) t
            refine XS.iload P.here P.x rfl (hb hby d_cheb_77) rfl ?_
            show Steps p.tables e below (T.setTop (mkF m 79 _ [(.int jv), (.ref b4)])) t
            refine XT.dup2 P.here P.x rfl (hb hby d_cheb_79) rfl rfl rfl ?_
            exact kk
          refine wDaload P As (j := jv) (i := j) hjv (by omega) (v := (.double (sf j))) rfl (hb hby d_cheb_80) rfl ?_
          show Done _ _ _ _ _ _ _ _ _ _ _ _ _ _ _ T (mkF m 81 _ [(.double (sf j)), (.int jv), (.ref b4)])
          refine Done.stepL (pc' := 84) (st' := [(.int iv), (.ref a), (.double (sf j)), (.int jv), (.ref b4)]) (fun t kk => ?_) ?_
          · show Steps p.tables e below (T.setTop (mkF m 81 _ [(.double (sf j)), (.int jv), (.ref b4)])) t
            refine XS.aloadN P.here P.x rfl (hb hby d_cheb_81) rfl rfl ?_
            show Steps p.tables e below (T.setTop (mkF m 82 _ [(.ref a), (.double (sf j)), (.int jv), (.ref b4)])) t
            refine XS.iload P.here P.x rfl (hb hby d_cheb_82) rfl ?_
            exact kk
          refine wDaload P Ac' (j := iv) (i := (tn + 1)) hiv (by omega) (v := (.double (cf (tn + 1)))) rfl (hb hby d_cheb_84) rfl ?_
          show Done _ _ _ _ _ _ _ _ _ _ _ _ _ _ _ T (mkF m 85 _ [(.double (cf (tn + 1))), (.double (sf j)), (.int jv), (.ref b4)])
          refine Done.stepL (pc' := 89) (st' := [(.int jv), (.ref q6), (.double (cf (tn + 1))), (.double (sf j)), (.int jv), (.ref b4)]) (fun t kk => ?_) ?_
          · show Steps p.tables e below (T.setTop (mkF m 85 _ [(.double (cf (tn + 1))), (.double (sf j)), (.int jv), (.ref b4)])) t
            refine XS.aload P.here P.x rfl (hb hby d_cheb_85) rfl rfl ?_
            show Steps p.tables e below (T.setTop (mkF m 87 _ [(.ref q6), (.double (cf (tn + 1))), (.double (sf j)), (.int jv), (.ref b4)])) t
            refine XS.iload P.here P.x rfl (hb hby d_cheb_87) rfl ?_
            exact kk
          refine wDaload P Aq' (j := jv) (i := j) hjv (by omega) (v := (.double (qf' j))) rfl (hb hby d_cheb_89) rfl ?_
          show Done _ _ _ _ _ _ _ _ _ _ _ _ _ _ _ T (mkF m 90 _ [(.double (qf' j)), (.double (cf (tn + 1))), (.double (sf j)), (.int jv), (.ref b4)])
          refine Done.stepL (pc' := 92) (st' := [(.double (FP.dadd (sf j) (FP.dmul (cf (tn + 1)) (qf' j)))), (.int jv), (.ref b4)]) (fun t kk => ?_) ?_
          · show Steps p.tables e below (T.setTop (mkF m 90 _ [(.double (qf' j)), (.double (cf (tn + 1))), (.double (sf j)), (.int jv), (.ref b4)])) t
            refine XS.dmulS P.here P.x rfl (hb hby d_cheb_90) rfl (nnD e1) rfl ?_
            show Steps p.tables e below (T.setTop (mkF m 91 _ [(.double (FP.dmul (cf (tn + 1)) (qf' j))), (.double (sf j)), (.int jv), (.ref b4)])) t
            refine XS.daddS P.here P.x rfl (hb hby d_cheb_91) rfl (nnD e2) rfl ?_
            exact kk
          refine wDastore P (f := sf) As (j := jv) (i := j) hjv (by omega) (Or.inr ge4) (hb hby d_cheb_92) rfl (fun T66 h68 P67 W69 A70 => ?_)
          have szh68 : h68.size = h.size := W69.size
          show Done _ _ _ _ _ _ _ _ _ _ _ _ _ _ _ T66 (mkF m 93 _ [])
          refine Done.step (T' := T66) (g' := (mkF m 69 #[.val (.ref a), .val (.ref b), .val (.ref d), .val (.int mv), .val (.ref b4), .val (.ref p5), .val (.ref q6), .val (.int iv), .val (.int (jv + (1 : Int32))), s9] [])) (fun t kk => ?_) ?_
          · show Steps p.tables e below (T66.setTop (mkF m 93 _ [])) t
            refine XS.iinc P67.here P67.x rfl (hb hby d_cheb_93) rfl (l' := #[.val (.ref a), .val (.ref b), .val (.ref d), .val (.int mv), .val (.ref b4), .val (.ref p5), .val (.ref q6), .val (.int iv), .val (.int (jv + (1 : Int32))), s9]) rfl ?_
            show Steps p.tables e below (T66.setTop (mkF m 96 _ [])) t
            refine XS.goto P67.here P67.x rfl (pc0 := 96) (pc' := 69) rfl (hb hby d_cheb_96) (by decide) (by decide) ?_
            exact kk
          have f71 := (Ac'.other W69 (by first | assumption | exact Ne.symm (by assumption) | exact adr_ne (by omega) | omega))
          have f72 := (Ap'.other W69 (by first | assumption | exact Ne.symm (by assumption) | exact adr_ne (by omega) | omega))
          have f73 := (Aq'.other W69 (by first | assumption | exact Ne.symm (by assumption) | exact adr_ne (by omega) | omega))
          exact ih _ _ _ _ _ (by omega) (own_i1 hjv (N := M) (by omega) (by omega)) P67 f71 A70 f72 f73 (fun i hi => own_upd hS1 e2 i hi) (fun i hi hi' => by rw [oupd_ne (by omega)]; exact hS2 i (by omega) hi')
      exact loopA M 0 _ _ _ sf (by omega) rfl P Ac' As Ap' Aq' (fun i hi => absurd hi (by omega)) (fun i _ hi => hS i hi)
  have loop1 : ∀ (r : Nat) (j : Nat) (T : State) (h : Heap) (jv : Int32) (sf : Nat → UInt64), j + r = M → jv.toInt = (j : Int) → Pos p l e ({ frames := 2, cells := 11, slots := 88, locals := 54 } : Room) s m #[(.ref a), (.ref b), (.ref d)] below meth c Z "com/example/graticule/graticule/referencing/operation/SineSeries" [] h0.size T h 3 24 → Ar Z h a .double N (fun i => .double (cf i)) → Ar Z h b4 .double M (fun i => .double (sf i)) → Ar Z h b12 .double M (fun i => .double ((fun i => if i < A then pf i else 0) i)) → Ar Z h b23 .double M (fun i => .double ((fun i => if i < B then qf i else 0) i)) → (∀ i, i < j → DInt (own_S C Pi Qi 1 i) (sf i)) → Done p l e ({ frames := 2, cells := 11, slots := 88, locals := 54 } : Room) s m #[(.ref a), (.ref b), (.ref d)] below meth c Z "com/example/graticule/graticule/referencing/operation/SineSeries" [] h0.size (fun v h' => ∃ (r : Addr) (sf : Nat → UInt64), v = some (.ref r) ∧ h0.size ≤ r ∧ r < h'.size ∧ Ar Z h' r .double M (fun i => .double (sf i)) ∧ (∀ i, i < M → DInt (own_S C Pi Qi N i) (sf i))) T (mkF m 30 #[.val (.ref a), .val (.ref b), .val (.ref d), .val (.int mv), .val (.ref b4), .val (.ref b12), .val (.ref b23), .val (.int jv), .unset, .unset] []) := by
    intro r
    induction r with
    | zero =>
      intro j T h jv sf hjr hjv P Ac' As Ap' Aq' hS1
      refine Done.step (T' := T) (g' := (mkF m 59 #[.val (.ref a), .val (.ref b), .val (.ref d), .val (.int mv), .val (.ref b4), .val (.ref b12), .val (.ref b23), .val (.int (1 : Int32)), .unset, .unset] [])) (fun t kk => ?_) ?_
      · show Steps p.tables e below (T.setTop (mkF m 30 _ [])) t
        refine XS.iload P.here P.x rfl (hb hby d_cheb_30) rfl ?_
        show Steps p.tables e below (T.setTop (mkF m 32 _ [(.int jv)])) t
        refine XS.iloadN P.here P.x rfl (hb hby d_cheb_32) rfl ?_
        show Steps p.tables e below (T.setTop (mkF m 33 _ [(.int mv), (.int jv)])) t
        refine XS.icmpYes P.here P.x rfl (pc0 := 33) (pc' := 56) rfl (hb hby d_cheb_33) rfl (iiW_ge_t (own_ge2 hjv hmv (by omega))) (by decide) (by decide) ?_
        show Steps p.tables e below (T.setTop (mkF m 56 _ [])) t
        refine XS.iconst P.here P.x rfl (hb hby d_cheb_56) ?_
        show Steps p.tables e below (T.setTop (mkF m 57 _ [(.int (1 : Int32))])) t
        refine XS.istore P.here P.x rfl (hb hby d_cheb_57) rfl (l' := #[.val (.ref a), .val (.ref b), .val (.ref d), .val (.int mv), .val (.ref b4), .val (.ref b12), .val (.ref b23), .val (.int (1 : Int32)), .unset, .unset]) rfl ?_
        exact kk
      by_cases hN0' : N = 0
      · refine Done.stepL (pc' := 62) (st' := [(.ref a), (.int (1 : Int32))]) (fun t kk => ?_) ?_
        · show Steps p.tables e below (T.setTop (mkF m 59 _ [])) t
          refine XS.iload P.here P.x rfl (hb hby d_cheb_59) rfl ?_
          show Steps p.tables e below (T.setTop (mkF m 61 _ [(.int (1 : Int32))])) t
          refine XS.aloadN P.here P.x rfl (hb hby d_cheb_61) rfl rfl ?_
          exact kk
        refine wLen P Ac' (z := (Int32.ofNat N)) (own_z lN) (hb hby d_cheb_62) rfl ?_
        show Done _ _ _ _ _ _ _ _ _ _ _ _ _ _ _ T (mkF m 63 _ [(.int (Int32.ofNat N)), (.int (1 : Int32))])
        refine Done.stepL (pc' := 166) (st' := [(.ref b4)]) (fun t kk => ?_) ?_
        · show Steps p.tables e below (T.setTop (mkF m 63 _ [(.int (Int32.ofNat N)), (.int (1 : Int32))])) t
          refine XS.icmpYes P.here P.x rfl (pc0 := 63) (pc' := 164) rfl (hb hby d_cheb_63) rfl (iiW_ge_t (own_ge (t := 0) (N := N) (by decide) lN (by omega))) (by decide) (by decide) ?_
          show Steps p.tables e below (T.setTop (mkF m 164 _ [])) t
          refine XS.aload P.here P.x rfl (hb hby d_cheb_164) rfl rfl ?_
          exact kk
        exact wRetA P hret rfl rfl (hb hby d_cheb_166) ⟨b4, sf, rfl, ge4, As.lt, As, fun i hi => absurd hi (by omega)⟩
      · show Done _ _ _ _ _ _ _ _ _ _ _ _ _ _ _ T (mkF m 59 _ [])
        exact outer (N - 1) 0 _ _ _ b12 b23 _ _ sf _ _ (by omega) (by decide) One.u One.u P Ac' As Ap' Aq' ne1 ne2 (fun i hi => hS1 i (by omega)) dP5 dQ6
    | succ r ih =>
      intro j T h jv sf hjr hjv P Ac' As Ap' Aq' hS1
      have e1 : DInt (own_S C Pi Qi 1 j) (FP.dmul (cf 0) ((fun i => if i < A then pf i else 0) j)) := by show DInt (0 + C 0 * own_T Pi Qi 0 j) _; rw [Int.zero_add]; exact dmul_int (dC 0 (by omega)) (dP5 j (by omega)) (by have := nab_mul (bC 0 (by omega)) (bT 0 j (by omega) (by omega)); omega)
      refine Done.stepL (pc' := 42) (st' := [(.int (0 : Int32)), (.ref a), (.int jv), (.ref b4)]) (fun t kk => ?_) ?_
      · show Steps p.tables e below (T.setTop (mkF m 30 _ [])) t
        refine XS.iload P.here P.x rfl (hb hby d_cheb_30) rfl ?_
        show Steps p.tables e below (T.setTop (mkF m 32 _ [(.int jv)])) t
        refine XS.iloadN P.here P.x rfl (hb hby d_cheb_32) rfl ?_
        show Steps p.tables e below (T.setTop (mkF m 33 _ [(.int mv), (.int jv)])) t
        refine XS.icmpNo P.here P.x rfl (hb hby d_cheb_33) rfl (iiW_ge_f (not_not_intro (own_lt2 hjv hmv (by omega)))) ?_
        show Steps p.tables e below (T.setTop (mkF m 36 _ [])) t
        refine XS.aload P.here P.x rfl (hb hby d_cheb_36) rfl rfl ?_
        show Steps p.tables e below (T.setTop (mkF m 38 _ [(.ref b4)])) t
        refine XS.iload P.here P.x rfl (hb hby d_cheb_38) rfl ?_
        show Steps p.tables e below (T.setTop (mkF m 40 _ [(.int jv), (.ref b4)])) t
        refine XS.aloadN P.here P.x rfl (hb hby d_cheb_40) rfl rfl ?_
        show Steps p.tables e below (T.setTop (mkF m 41 _ [(.ref a), (.int jv), (.ref b4)])) t
        refine XS.iconst P.here P.x rfl (hb hby d_cheb_41) ?_
        exact kk
      refine wDaload P Ac' (j := (0 : Int32)) (i := 0) rfl (by omega) (v := (.double (cf 0))) rfl (hb hby d_cheb_42) rfl ?_
      show Done _ _ _ _ _ _ _ _ _ _ _ _ _ _ _ T (mkF m 43 _ [(.double (cf 0)), (.int jv), (.ref b4)])
      refine Done.stepL (pc' := 47) (st' := [(.int jv), (.ref b12), (.double (cf 0)), (.int jv), (.ref b4)]) (fun t kk => ?_) ?_
      · show Steps p.tables e below (T.setTop (mkF m 43 _ [(.double (cf 0)), (.int jv), (.ref b4)])) t
        refine XS.aload P.here P.x rfl (hb hby d_cheb_43) rfl rfl ?_
        show Steps p.tables e below (T.setTop (mkF m 45 _ [(.ref b12), (.double (cf 0)), (.int jv), (.ref b4)])) t
        refine XS.iload P.here P.x rfl (hb hby d_cheb_45) rfl ?_
        exact kk
      refine wDaload P Ap' (j := jv) (i := j) hjv (by omega) (v := (.double ((fun i => if i < A then pf i else 0) j))) rfl (hb hby d_cheb_47) rfl ?_
      show Done _ _ _ _ _ _ _ _ _ _ _ _ _ _ _ T (mkF m 48 _ [(.double ((fun i => if i < A then pf i else 0) j)), (.double (cf 0)), (.int jv), (.ref b4)])
      refine Done.stepL (pc' := 49) (st' := [(.double (FP.dmul (cf 0) ((fun i => if i < A then pf i else 0) j))), (.int jv), (.ref b4)]) (fun t kk => ?_) ?_
      · show Steps p.tables e below (T.setTop (mkF m 48 _ [(.double ((fun i => if i < A then pf i else 0) j)), (.double (cf 0)), (.int jv), (.ref b4)])) t
        refine XS.dmulS P.here P.x rfl (hb hby d_cheb_48) rfl (nnD e1) rfl ?_
        exact kk
      refine wDastore P (f := sf) As (j := jv) (i := j) hjv (by omega) (Or.inr ge4) (hb hby d_cheb_49) rfl (fun T74 h76 P75 W77 A78 => ?_)
      have szh76 : h76.size = h.size := W77.size
      show Done _ _ _ _ _ _ _ _ _ _ _ _ _ _ _ T74 (mkF m 50 _ [])
      refine Done.step (T' := T74) (g' := (mkF m 30 #[.val (.ref a), .val (.ref b), .val (.ref d), .val (.int mv), .val (.ref b4), .val (.ref b12), .val (.ref b23), .val (.int (jv + (1 : Int32))), .unset, .unset] [])) (fun t kk => ?_) ?_
      · show Steps p.tables e below (T74.setTop (mkF m 50 _ [])) t
        refine XS.iinc P75.here P75.x rfl (hb hby d_cheb_50) rfl (l' := #[.val (.ref a), .val (.ref b), .val (.ref d), .val (.int mv), .val (.ref b4), .val (.ref b12), .val (.ref b23), .val (.int (jv + (1 : Int32))), .unset, .unset]) rfl ?_
        show Steps p.tables e below (T74.setTop (mkF m 53 _ [])) t
        refine XS.goto P75.here P75.x rfl (pc0 := 53) (pc' := 30) rfl (hb hby d_cheb_53) (by decide) (by decide) ?_
        exact kk
      have f79 := (Ac'.other W77 (by first | assumption | exact Ne.symm (by assumption) | exact adr_ne (by omega) | omega))
      have f80 := (Ap'.other W77 (by first | assumption | exact Ne.symm (by assumption) | exact adr_ne (by omega) | omega))
      have f81 := (Aq'.other W77 (by first | assumption | exact Ne.symm (by assumption) | exact adr_ne (by omega) | omega))
      exact ih _ _ _ _ _ (by omega) (own_i1 hjv (N := M) (by omega) (by omega)) P75 f79 A78 f80 f81 (fun i hi => own_upd hS1 e1 i hi)
  exact loop1 M 0 _ _ _ _ (by omega) rfl P22 f34 f32 f33 A27 (fun i hi => absurd hi (by omega))
theorem ef_put (m : MethodId) (x0 : Addr) (x1 : Int32) (x2 : Int64) : entryFrame m #[(.ref x0), (.int x1), (.long x2)] 4 = mkF m 0 #[.val (.ref x0), .val (.int x1), .val (.long x2), .second] [] := by first | (simp [entryFrame, mkF, argsToLocals, Value.category]; done) | rfl
theorem d_put_0 : decode method_3_code 0 = .ok (.iload_n 1, 1) := by decide +kernel
theorem d_put_1 : decode method_3_code 1 = .ok (.aload_n 0, 1) := by decide +kernel
theorem d_put_2 : decode method_3_code 2 = .ok (.arraylength, 1) := by decide +kernel
theorem d_put_3 : decode method_3_code 3 = .ok (.if_icmp .ge 8, 3) := by decide +kernel
theorem d_put_11 : decode method_3_code 11 = .ok (.return_, 1) := by decide +kernel
theorem d_put_6 : decode method_3_code 6 = .ok (.aload_n 0, 1) := by decide +kernel
theorem d_put_7 : decode method_3_code 7 = .ok (.iload_n 1, 1) := by decide +kernel
theorem d_put_8 : decode method_3_code 8 = .ok (.lload_n 2, 1) := by decide +kernel
theorem d_put_9 : decode method_3_code 9 = .ok (.l2d, 1) := by decide +kernel
theorem d_put_10 : decode method_3_code 10 = .ok (.dastore, 1) := by decide +kernel
set_option maxRecDepth 65536 in
set_option maxHeartbeats 4000000 in
theorem m_put (l : Launch) (Z : State) (a0 : Array Value) (hw : ∀ d ∈ tables_1, d.before a0 Z = true) (a : Addr) (iv : Int32) (q : Int64) (i N : Nat) (f : Nat → UInt64) (h0 : Heap) (Aa : Ar Z h0 a .double N (fun j => .double (f j))) (hiv : iv.toInt = (i : Int)) :
    OMet l (⟨"com/example/graticule/graticule/referencing/operation/SineSeriesPolynomialPinLaw", "put", "([DIJ)V"⟩ : MethodName) method_3_code 4 (Option.none : Option FieldType) [] ({ frames := 0, cells := 0, slots := 0, locals := 0 } : Room) Z h0 [a] #[(.ref a), (.int iv), (.long q)] (fun v h' => v = none ∧ Ar Z h' a .double N (fun j => .double (oupd f i (FP.l2d q) j))) := by
  refine OMet.of (own := "com/example/graticule/graticule/referencing/operation/SineSeriesPolynomialPinLaw") (nm := "put") (plainFor_of_name pn_2) rfl rfl ?_
  intro p e s m below meth c T0 P0 hby hml hret hnm
  refine Done.step (T' := T0) (g' := (mkF m 0 #[.val (.ref a), .val (.int iv), .val (.long q), .second] [])) (fun t kk => castTop (ef_put m a iv q) kk) ?_
  have lN := Aa.len
  refine Done.stepL (pc' := 2) (st' := [(.ref a), (.int iv)]) (fun t kk => ?_) ?_
  · show Steps p.tables e below (T0.setTop (mkF m 0 _ [])) t
    refine XS.iloadN P0.here P0.x rfl (hb hby d_put_0) rfl ?_
    show Steps p.tables e below (T0.setTop (mkF m 1 _ [(.int iv)])) t
    refine XS.aloadN P0.here P0.x rfl (hb hby d_put_1) rfl rfl ?_
    exact kk
  refine wLen P0 Aa (z := (Int32.ofNat N)) (own_z lN) (hb hby d_put_2) rfl ?_
  show Done _ _ _ _ _ _ _ _ _ _ _ _ _ _ _ T0 (mkF m 3 _ [(.int (Int32.ofNat N)), (.int iv)])
  by_cases hc : ¬ (iv < (Int32.ofNat N))
  · have hi := own_geN hiv lN hc
    refine Done.stepL (pc' := 11) (st' := []) (fun t kk => ?_) ?_
    · show Steps p.tables e below (T0.setTop (mkF m 3 _ [(.int (Int32.ofNat N)), (.int iv)])) t
      refine XS.icmpYes P0.here P0.x rfl (pc0 := 3) (pc' := 11) rfl (hb hby d_put_3) rfl (iiW_ge_t hc) (by decide) (by decide) ?_
      exact kk
    exact wRetV P0 hret (hb hby d_put_11) ⟨rfl, Aa.congr fun j hj => by rw [oupd_ne (by omega)]⟩
  · have hi := own_ltN hiv lN hc
    refine Done.stepL (pc' := 10) (st' := [(.double (FP.l2d q)), (.int iv), (.ref a)]) (fun t kk => ?_) ?_
    · show Steps p.tables e below (T0.setTop (mkF m 3 _ [(.int (Int32.ofNat N)), (.int iv)])) t
      refine XS.icmpNo P0.here P0.x rfl (hb hby d_put_3) rfl (iiW_ge_f (show ¬ (¬ (iv < (Int32.ofNat N))) from hc)) ?_
      show Steps p.tables e below (T0.setTop (mkF m 6 _ [])) t
      refine XS.aloadN P0.here P0.x rfl (hb hby d_put_6) rfl rfl ?_
      show Steps p.tables e below (T0.setTop (mkF m 7 _ [(.ref a)])) t
      refine XS.iloadN P0.here P0.x rfl (hb hby d_put_7) rfl ?_
      show Steps p.tables e below (T0.setTop (mkF m 8 _ [(.int iv), (.ref a)])) t
      refine XS.lloadN P0.here P0.x rfl (hb hby d_put_8) rfl ?_
      show Steps p.tables e below (T0.setTop (mkF m 9 _ [(.long q), (.int iv), (.ref a)])) t
      refine XS.l2dS P0.here P0.x rfl (hb hby d_put_9) rfl rfl ?_
      exact kk
    refine wDastore P0 (f := f) Aa (j := iv) (i := i) hiv hi (Or.inl (by simp)) (hb hby d_put_10) rfl (fun T1 h3 P2 W4 A5 => ?_)
    have szh3 : h3.size = h0.size := W4.size
    show Done _ _ _ _ _ _ _ _ _ _ _ _ _ _ _ T1 (mkF m 11 _ [])
    exact wRetV P2 hret (hb hby d_put_11) ⟨rfl, A5⟩
theorem ef_at (m : MethodId) (x0 : Addr) (x1 : Int32) (x2 : Int64) : entryFrame m #[(.ref x0), (.int x1), (.long x2)] 4 = mkF m 0 #[.val (.ref x0), .val (.int x1), .val (.long x2), .second] [] := by first | (simp [entryFrame, mkF, argsToLocals, Value.category]; done) | rfl
theorem d_at_0 : decode method_4_code 0 = .ok (.iload_n 1, 1) := by decide +kernel
theorem d_at_1 : decode method_4_code 1 = .ok (.aload_n 0, 1) := by decide +kernel
theorem d_at_2 : decode method_4_code 2 = .ok (.arraylength, 1) := by decide +kernel
theorem d_at_3 : decode method_4_code 3 = .ok (.if_icmp .ge 12, 3) := by decide +kernel
theorem d_at_15 : decode method_4_code 15 = .ok (.iconst 1, 1) := by decide +kernel
theorem d_at_16 : decode method_4_code 16 = .ok (.goto 4, 3) := by decide +kernel
theorem d_at_20 : decode method_4_code 20 = .ok (.ireturn, 1) := by decide +kernel
theorem d_at_6 : decode method_4_code 6 = .ok (.aload_n 0, 1) := by decide +kernel
theorem d_at_7 : decode method_4_code 7 = .ok (.iload_n 1, 1) := by decide +kernel
theorem d_at_8 : decode method_4_code 8 = .ok (.daload, 1) := by decide +kernel
theorem d_at_9 : decode method_4_code 9 = .ok (.lload_n 2, 1) := by decide +kernel
theorem d_at_10 : decode method_4_code 10 = .ok (.l2d, 1) := by decide +kernel
theorem d_at_11 : decode method_4_code 11 = .ok (.dcmp .l, 1) := by decide +kernel
theorem d_at_12 : decode method_4_code 12 = .ok (.ifCond .ne 7, 3) := by decide +kernel
set_option maxRecDepth 65536 in
set_option maxHeartbeats 4000000 in
theorem m_at (l : Launch) (Z : State) (a0 : Array Value) (hw : ∀ d ∈ tables_1, d.before a0 Z = true) (a : Addr) (iv : Int32) (q : Int64) (i N : Nat) (f : Nat → UInt64) (h0 : Heap) (Aa : Ar Z h0 a .double N (fun j => .double (f j))) (hiv : iv.toInt = (i : Int)) (hq : i < N → cmpValue (FP.dcmp (f i) (FP.l2d q)) .l = (0 : Int32)) :
    OMet l (⟨"com/example/graticule/graticule/referencing/operation/SineSeriesPolynomialPinLaw", "at", "([DIJ)Z"⟩ : MethodName) method_4_code 4 (Option.some FieldType.boolean) [] ({ frames := 0, cells := 0, slots := 0, locals := 0 } : Room) Z h0 [] #[(.ref a), (.int iv), (.long q)] (fun v h' => v = some (.int 1) ∧ h0 = h') := by
  refine OMet.of (own := "com/example/graticule/graticule/referencing/operation/SineSeriesPolynomialPinLaw") (nm := "at") (plainFor_of_name pn_2) rfl rfl ?_
  intro p e s m below meth c T0 P0 hby hml hret hnm
  refine Done.step (T' := T0) (g' := (mkF m 0 #[.val (.ref a), .val (.int iv), .val (.long q), .second] [])) (fun t kk => castTop (ef_at m a iv q) kk) ?_
  have lN := Aa.len
  refine Done.stepL (pc' := 2) (st' := [(.ref a), (.int iv)]) (fun t kk => ?_) ?_
  · show Steps p.tables e below (T0.setTop (mkF m 0 _ [])) t
    refine XS.iloadN P0.here P0.x rfl (hb hby d_at_0) rfl ?_
    show Steps p.tables e below (T0.setTop (mkF m 1 _ [(.int iv)])) t
    refine XS.aloadN P0.here P0.x rfl (hb hby d_at_1) rfl rfl ?_
    exact kk
  refine wLen P0 Aa (z := (Int32.ofNat N)) (own_z lN) (hb hby d_at_2) rfl ?_
  show Done _ _ _ _ _ _ _ _ _ _ _ _ _ _ _ T0 (mkF m 3 _ [(.int (Int32.ofNat N)), (.int iv)])
  by_cases hc : ¬ (iv < (Int32.ofNat N))
  · refine Done.stepL (pc' := 20) (st' := [(.int (1 : Int32))]) (fun t kk => ?_) ?_
    · show Steps p.tables e below (T0.setTop (mkF m 3 _ [(.int (Int32.ofNat N)), (.int iv)])) t
      refine XS.icmpYes P0.here P0.x rfl (pc0 := 3) (pc' := 15) rfl (hb hby d_at_3) rfl (iiW_ge_t hc) (by decide) (by decide) ?_
      show Steps p.tables e below (T0.setTop (mkF m 15 _ [])) t
      refine XS.iconst P0.here P0.x rfl (hb hby d_at_15) ?_
      show Steps p.tables e below (T0.setTop (mkF m 16 _ [(.int (1 : Int32))])) t
      refine XS.goto P0.here P0.x rfl (pc0 := 16) (pc' := 20) rfl (hb hby d_at_16) (by decide) (by decide) ?_
      exact kk
    exact wRet P0 (t := .boolean) hret (narrow_01 (Or.inr rfl)) (Or.inl ⟨rfl, Or.inr (Or.inl rfl), _, rfl⟩) (hb hby d_at_20) ⟨rfl, rfl⟩
  · have hi := own_ltN hiv lN hc
    refine Done.stepL (pc' := 8) (st' := [(.int iv), (.ref a)]) (fun t kk => ?_) ?_
    · show Steps p.tables e below (T0.setTop (mkF m 3 _ [(.int (Int32.ofNat N)), (.int iv)])) t
      refine XS.icmpNo P0.here P0.x rfl (hb hby d_at_3) rfl (iiW_ge_f (show ¬ (¬ (iv < (Int32.ofNat N))) from hc)) ?_
      show Steps p.tables e below (T0.setTop (mkF m 6 _ [])) t
      refine XS.aloadN P0.here P0.x rfl (hb hby d_at_6) rfl rfl ?_
      show Steps p.tables e below (T0.setTop (mkF m 7 _ [(.ref a)])) t
      refine XS.iloadN P0.here P0.x rfl (hb hby d_at_7) rfl ?_
      exact kk
    refine wDaload P0 Aa (j := iv) (i := i) hiv hi (v := (.double (f i))) rfl (hb hby d_at_8) rfl ?_
    show Done _ _ _ _ _ _ _ _ _ _ _ _ _ _ _ T0 (mkF m 9 _ [(.double (f i))])
    refine Done.stepL (pc' := 20) (st' := [(.int (1 : Int32))]) (fun t kk => ?_) ?_
    · show Steps p.tables e below (T0.setTop (mkF m 9 _ [(.double (f i))])) t
      refine XS.lloadN P0.here P0.x rfl (hb hby d_at_9) rfl ?_
      show Steps p.tables e below (T0.setTop (mkF m 10 _ [(.long q), (.double (f i))])) t
      refine XS.l2dS P0.here P0.x rfl (hb hby d_at_10) rfl rfl ?_
      show Steps p.tables e below (T0.setTop (mkF m 11 _ [(.double (FP.l2d q)), (.double (f i))])) t
      refine XS.dcmpS P0.here P0.x rfl (hb hby d_at_11) rfl (hq hi) ?_
      show Steps p.tables e below (T0.setTop (mkF m 12 _ [(.int (0 : Int32))])) t
      refine XS.ifNo P0.here P0.x rfl (hb hby d_at_12) rfl (i0W_ne_f (by decide)) ?_
      show Steps p.tables e below (T0.setTop (mkF m 15 _ [])) t
      refine XS.iconst P0.here P0.x rfl (hb hby d_at_15) ?_
      show Steps p.tables e below (T0.setTop (mkF m 16 _ [(.int (1 : Int32))])) t
      refine XS.goto P0.here P0.x rfl (pc0 := 16) (pc' := 20) rfl (hb hby d_at_16) (by decide) (by decide) ?_
      exact kk
    exact wRet P0 (t := .boolean) hret (narrow_01 (Or.inr rfl)) (Or.inl ⟨rfl, Or.inr (Or.inl rfl), _, rfl⟩) (hb hby d_at_20) ⟨rfl, rfl⟩
theorem ef_poly (m : MethodId) (x0 : Addr) : entryFrame m #[(.ref x0)] 1 = mkF m 0 #[.val (.ref x0)] [] := by first | (simp [entryFrame, mkF, argsToLocals, Value.category]; done) | rfl
theorem d_poly_0 : decode prog_19_method_2_code 0 = .ok (.aload_n 0, 1) := by decide +kernel
theorem d_poly_1 : decode prog_19_method_2_code 1 = .ok (.iconst 1, 1) := by decide +kernel
theorem d_poly_2 : decode prog_19_method_2_code 2 = .ok (.newarray .double, 2) := by decide +kernel
theorem d_poly_4 : decode prog_19_method_2_code 4 = .ok (.dup, 1) := by decide +kernel
theorem d_poly_5 : decode prog_19_method_2_code 5 = .ok (.iconst 0, 1) := by decide +kernel
theorem d_poly_6 : decode prog_19_method_2_code 6 = .ok (.dconst 1, 1) := by decide +kernel
theorem d_poly_7 : decode prog_19_method_2_code 7 = .ok (.dastore, 1) := by decide +kernel
theorem d_poly_8 : decode prog_19_method_2_code 8 = .ok (.iconst 2, 1) := by decide +kernel
theorem d_poly_9 : decode prog_19_method_2_code 9 = .ok (.newarray .double, 2) := by decide +kernel
theorem d_poly_11 : decode prog_19_method_2_code 11 = .ok (.dup, 1) := by decide +kernel
theorem d_poly_12 : decode prog_19_method_2_code 12 = .ok (.iconst 0, 1) := by decide +kernel
theorem d_poly_13 : decode prog_19_method_2_code 13 = .ok (.dconst 0, 1) := by decide +kernel
theorem d_poly_14 : decode prog_19_method_2_code 14 = .ok (.dastore, 1) := by decide +kernel
theorem d_poly_15 : decode prog_19_method_2_code 15 = .ok (.dup, 1) := by decide +kernel
theorem d_poly_16 : decode prog_19_method_2_code 16 = .ok (.iconst 1, 1) := by decide +kernel
theorem d_poly_17 : decode prog_19_method_2_code 17 = .ok (.ldc2_w 7, 3) := by decide +kernel
theorem d_poly_20 : decode prog_19_method_2_code 20 = .ok (.dastore, 1) := by decide +kernel
theorem d_poly_21 : decode prog_19_method_2_code 21 = .ok (.invokestatic 9, 3) := by decide +kernel
theorem d_poly_24 : decode prog_19_method_2_code 24 = .ok (.areturn, 1) := by decide +kernel
set_option maxRecDepth 65536 in
set_option maxHeartbeats 4000000 in
theorem m_poly (l : Launch) (Z : State) (a0 : Array Value) (hw : ∀ d ∈ tables_1, d.before a0 Z = true) (a : Addr) (N : Nat) (f : Nat → UInt64) (c0 : Nat → Int) (h0 : Heap) (Aa : Ar Z h0 a .double N (fun i => .double (f i))) (hN : N ≤ 8) (da : ∀ i, i < N → DInt (c0 i) (f i)) (ba : ∀ i, i < N → (c0 i).natAbs ≤ 2147483648) :
    OMet l (⟨"com/example/graticule/graticule/referencing/operation/SineSeries", "polynomial", "([D)[D"⟩ : MethodName) prog_19_method_2_code 1 (Option.some (FieldType.array FieldType.double)) [] ({ frames := 3, cells := 13, slots := 91, locals := 75 } : Room) Z h0 [] #[(.ref a)] (fun v h' => ∃ (r : Addr) (sf : Nat → UInt64), v = some (.ref r) ∧ r < h'.size ∧ Ar Z h' r .double N (fun i => .double (sf i)) ∧ (∀ i, i < N → DInt (own_S c0 own_P own_Q N i) (sf i))) := by
  refine OMet.of (own := "com/example/graticule/graticule/referencing/operation/SineSeries") (nm := "polynomial") (plainFor_of_name pn_1) rfl rfl ?_
  intro p e s m below meth c T0 P0 hby hml hret hnm
  refine Done.step (T' := T0) (g' := (mkF m 0 #[.val (.ref a)] [])) (fun t kk => castTop (ef_poly m a) kk) ?_
  have lta := Aa.ltN
  have lN := Aa.len
  refine Done.stepL (pc' := 2) (st' := [(.int (1 : Int32)), (.ref a)]) (fun t kk => ?_) ?_
  · show Steps p.tables e below (T0.setTop (mkF m 0 _ [])) t
    refine XS.aloadN P0.here P0.x rfl (hb hby d_poly_0) rfl rfl ?_
    show Steps p.tables e below (T0.setTop (mkF m 1 _ [(.ref a)])) t
    refine XS.iconst P0.here P0.x rfl (hb hby d_poly_1) ?_
    exact kk
  refine wNewA (aty := .double) P0 (tw1 hw) (hb hby d_poly_2) rfl (N := 1) rfl (cap := 1) (Nat.le_refl _) (by decide) (by decide) (by decide) (ad := "[D") (by decide) (ty := .double) (dv := (.double (0 : UInt64))) rfl rfl (k' := 1) (n' := 1) rfl rfl (fun T1 h3 b4 g5 lt6 P2 E7 A8 X9 => ?_)
  have ge_b4 : h0.size ≤ b4 := by have := P0.ge; omega
  show Done _ _ _ _ _ _ _ _ _ _ _ _ _ _ _ T1 (mkF m 4 _ [(.ref b4), (.ref a)])
  refine Done.stepL (pc' := 7) (st' := [(.double FP.dconst1), (.int (0 : Int32)), (.ref b4), (.ref b4), (.ref a)]) (fun t kk => ?_) ?_
  · show Steps p.tables e below (T1.setTop (mkF m 4 _ [(.ref b4), (.ref a)])) t
    refine XS.dup P2.here P2.x rfl (hb hby d_poly_4) rfl rfl ?_
    show Steps p.tables e below (T1.setTop (mkF m 5 _ [(.ref b4), (.ref b4), (.ref a)])) t
    refine XS.iconst P2.here P2.x rfl (hb hby d_poly_5) ?_
    show Steps p.tables e below (T1.setTop (mkF m 6 _ [(.int (0 : Int32)), (.ref b4), (.ref b4), (.ref a)])) t
    refine XS.dconst1 P2.here P2.x rfl (hb hby d_poly_6) rfl ?_
    exact kk
  refine wDastore P2 (f := (fun _ => (0 : UInt64))) A8 (j := (0 : Int32)) (i := 0) rfl (by decide) (Or.inr ge_b4) (hb hby d_poly_7) rfl (fun T10 h12 P11 W13 A14 => ?_)
  have szh12 : h12.size = h3.size := W13.size
  show Done _ _ _ _ _ _ _ _ _ _ _ _ _ _ _ T10 (mkF m 8 _ [(.ref b4), (.ref a)])
  refine Done.stepL (pc' := 9) (st' := [(.int (2 : Int32)), (.ref b4), (.ref a)]) (fun t kk => ?_) ?_
  · show Steps p.tables e below (T10.setTop (mkF m 8 _ [(.ref b4), (.ref a)])) t
    refine XS.iconst P11.here P11.x rfl (hb hby d_poly_8) ?_
    exact kk
  refine wNewA (aty := .double) P11 (tw1 hw) (hb hby d_poly_9) rfl (N := 2) rfl (cap := 2) (Nat.le_refl _) (by decide) (by decide) (by decide) (ad := "[D") (by decide) (ty := .double) (dv := (.double (0 : UInt64))) rfl rfl (k' := 2) (n' := 3) rfl rfl (fun T15 h17 b18 g19 lt20 P16 E21 A22 X23 => ?_)
  have ge_b18 : h0.size ≤ b18 := by have := P11.ge; omega
  show Done _ _ _ _ _ _ _ _ _ _ _ _ _ _ _ T15 (mkF m 11 _ [(.ref b18), (.ref b4), (.ref a)])
  refine Done.stepL (pc' := 14) (st' := [(.double FP.dconst0), (.int (0 : Int32)), (.ref b18), (.ref b18), (.ref b4), (.ref a)]) (fun t kk => ?_) ?_
  · show Steps p.tables e below (T15.setTop (mkF m 11 _ [(.ref b18), (.ref b4), (.ref a)])) t
    refine XS.dup P16.here P16.x rfl (hb hby d_poly_11) rfl rfl ?_
    show Steps p.tables e below (T15.setTop (mkF m 12 _ [(.ref b18), (.ref b18), (.ref b4), (.ref a)])) t
    refine XS.iconst P16.here P16.x rfl (hb hby d_poly_12) ?_
    show Steps p.tables e below (T15.setTop (mkF m 13 _ [(.int (0 : Int32)), (.ref b18), (.ref b18), (.ref b4), (.ref a)])) t
    refine XS.dconst0 P16.here P16.x rfl (hb hby d_poly_13) rfl ?_
    exact kk
  refine wDastore P16 (f := (fun _ => (0 : UInt64))) A22 (j := (0 : Int32)) (i := 0) rfl (by decide) (Or.inr ge_b18) (hb hby d_poly_14) rfl (fun T24 h26 P25 W27 A28 => ?_)
  have szh26 : h26.size = h17.size := W27.size
  show Done _ _ _ _ _ _ _ _ _ _ _ _ _ _ _ T24 (mkF m 15 _ [(.ref b18), (.ref b4), (.ref a)])
  refine Done.stepL (pc' := 20) (st' := [(.double (4611686018427387904 : UInt64)), (.int (1 : Int32)), (.ref b18), (.ref b18), (.ref b4), (.ref a)]) (fun t kk => ?_) ?_
  · show Steps p.tables e below (T24.setTop (mkF m 15 _ [(.ref b18), (.ref b4), (.ref a)])) t
    refine XS.dup P25.here P25.x rfl (hb hby d_poly_15) rfl rfl ?_
    show Steps p.tables e below (T24.setTop (mkF m 16 _ [(.ref b18), (.ref b18), (.ref b4), (.ref a)])) t
    refine XS.iconst P25.here P25.x rfl (hb hby d_poly_16) ?_
    show Steps p.tables e below (T24.setTop (mkF m 17 _ [(.int (1 : Int32)), (.ref b18), (.ref b18), (.ref b4), (.ref a)])) t
    refine pLdcD P25 (tw10 hw) (hb hby d_poly_17) rfl ?_
    exact kk
  refine wDastore P25 (f := (oupd (fun _ => (0 : UInt64)) 0 FP.dconst0)) A28 (j := (1 : Int32)) (i := 1) rfl (by decide) (Or.inr ge_b18) (hb hby d_poly_20) rfl (fun T29 h31 P30 W32 A33 => ?_)
  have szh31 : h31.size = h26.size := W32.size
  show Done _ _ _ _ _ _ _ _ _ _ _ _ _ _ _ T29 (mkF m 21 _ [(.ref b18), (.ref b4), (.ref a)])
  have f42 := (((((Aa.ext E7).other W13 (by first | assumption | exact Ne.symm (by assumption) | exact adr_ne (by omega) | omega)).ext E21).other W27 (by first | assumption | exact Ne.symm (by assumption) | exact adr_ne (by omega) | omega)).other W32 (by first | assumption | exact Ne.symm (by assumption) | exact adr_ne (by omega) | omega))
  have f43 := (((A14.ext E21).other W27 (by first | assumption | exact Ne.symm (by assumption) | exact adr_ne (by omega) | omega)).other W32 (by first | assumption | exact Ne.symm (by assumption) | exact adr_ne (by omega) | omega))
  have f44 := ((((X9.wr W13).ext E21).wr W27).wr W32)
  have f45 := ((X23.wr W27).wr W32)
  refine wCallS P30 (m_cheb l Z a0 hw a b4 b18 N 1 2 N f (oupd (fun _ => (0 : UInt64)) 0 FP.dconst1) (oupd (oupd (fun _ => (0 : UInt64)) 0 FP.dconst0) 1 (4611686018427387904 : UInt64)) c0 own_P own_Q h31 f42 f43 A33 f44 f45 (by omega) (by omega) (by omega) (by omega) da (own_allS (P := fun i => DInt (own_P i) ((oupd (fun _ => (0 : UInt64)) 0 FP.dconst1) i)) (n := 0) (own_all0 (P := fun i => DInt (own_P i) ((oupd (fun _ => (0 : UInt64)) 0 FP.dconst1) i))) dint_c1) (own_allS (P := fun i => DInt (own_Q i) ((oupd (oupd (fun _ => (0 : UInt64)) 0 FP.dconst0) 1 (4611686018427387904 : UInt64)) i)) (n := 1) (own_allS (P := fun i => DInt (own_Q i) ((oupd (oupd (fun _ => (0 : UInt64)) 0 FP.dconst0) 1 (4611686018427387904 : UInt64)) i)) (n := 0) (own_all0 (P := fun i => DInt (own_Q i) ((oupd (oupd (fun _ => (0 : UInt64)) 0 FP.dconst0) 1 (4611686018427387904 : UInt64)) i))) dint_c0) (lit_dy (n := 2) (by decide +kernel))) own_oP own_oQ (fun i hi => Nat.le_trans (ba i hi) (by decide)) (fun k i hk hi => own_bT k i (by omega) (by omega))) (tw11 hw) (tw12 hw) (tw8 hw) (tw13 hw) (by decide) (by rw [hml]; rfl) (lenOf pd_2 rfl) (argsL := [(.ref a), (.ref b4), (.ref b18)]) (rest := []) rfl rfl (W := 0) (Nat.le_of_eq rfl) (by decide) (by decide) (by decide) (by decide) (by simp) (hb hby d_poly_21) rfl (k' := 13) (n' := 91) rfl rfl ?_
  rintro T34 h46 _ P35 K47 ⟨b36, sf37, rfl, ge38, lt39, A40, hS41⟩
  have szh46 : h31.size ≤ h46.size := K47.1
  show Done _ _ _ _ _ _ _ _ _ _ _ _ _ _ _ T34 (mkF m 24 _ [(.ref b36)])
  exact wRetA P35 hret rfl rfl (hb hby d_poly_24) ⟨b36, sf37, rfl, A40.lt, A40, hS41⟩
theorem ef_law (m : MethodId) (x0 : Int64) (x1 : Int64) (x2 : Int64) (x3 : Int64) (x4 : Int32) : entryFrame m #[(.long x0), (.long x1), (.long x2), (.long x3), (.int x4)] maxLocals = mkF m 0 #[.val (.long x0), .second, .val (.long x1), .second, .val (.long x2), .second, .val (.long x3), .second, .val (.int x4), .unset, .unset, .unset, .unset, .unset, .unset, .unset, .unset, .unset, .unset, .unset, .unset, .unset, .unset, .unset, .unset, .unset, .unset, .unset, .unset, .unset, .unset, .unset, .unset, .unset, .unset, .unset, .unset, .unset, .unset, .unset, .unset, .unset, .unset, .unset] [] := by first | (simp [entryFrame, mkF, argsToLocals, Value.category, maxLocals]; done) | rfl
set_option maxRecDepth 65536 in
set_option maxHeartbeats 4000000 in
theorem m_law (l : Launch) (Z : State) (a0 : Array Value) (hw : ∀ d ∈ tables_1, d.before a0 Z = true) (p0 p1 p2 p3 : Int64) (p4 : Int32) (h0 : Heap)  :
    OMet l x code maxLocals ret tables_1 room_1 Z h0 [] #[(.long p0), (.long p1), (.long p2), (.long p3), (.int p4)] (fun v h' => v = some (.int 1)) := by
  refine OMet.of (own := "com/example/graticule/graticule/referencing/operation/SineSeriesPolynomialPinLaw") (nm := "law") (plainFor_of_name pn_2) rfl rfl ?_
  intro p e s m below meth c T0 P0 hby hml hret hnm
  refine Done.step (T' := T0) (g' := (mkF m 0 #[.val (.long p0), .second, .val (.long p1), .second, .val (.long p2), .second, .val (.long p3), .second, .val (.int p4), .unset, .unset, .unset, .unset, .unset, .unset, .unset, .unset, .unset, .unset, .unset, .unset, .unset, .unset, .unset, .unset, .unset, .unset, .unset, .unset, .unset, .unset, .unset, .unset, .unset, .unset, .unset, .unset, .unset, .unset, .unset, .unset, .unset, .unset, .unset] [])) (fun t kk => castTop (ef_law m p0 p1 p2 p3 p4) kk) ?_
  refine Done.step (T' := T0) (g' := (mkF m 10 #[.val (.long p0), .second, .val (.long p1), .second, .val (.long p2), .second, .val (.long p3), .second, .val (.int p4), .val (.int ((p4 &&& (2147483647 : Int32)) - ((p4 &&& (2147483647 : Int32)) / (9 : Int32)) * (9 : Int32))), .unset, .unset, .unset, .unset, .unset, .unset, .unset, .unset, .unset, .unset, .unset, .unset, .unset, .unset, .unset, .unset, .unset, .unset, .unset, .unset, .unset, .unset, .unset, .unset, .unset, .unset, .unset, .unset, .unset, .unset, .unset, .unset, .unset, .unset] [])) (fun t kk => ?_) ?_
  · show Steps p.tables e below (T0.setTop (mkF m 0 _ [])) t
    refine XS.iload P0.here P0.x rfl (hb hby at_0) rfl ?_
    show Steps p.tables e below (T0.setTop (mkF m 2 _ [(.int p4)])) t
    refine pLdcI P0 (tw0 hw) (hb hby at_2) rfl ?_
    show Steps p.tables e below (T0.setTop (mkF m 4 _ [(.int (2147483647 : Int32)), (.int p4)])) t
    refine XS.iand P0.here P0.x rfl (hb hby at_4) rfl ?_
    show Steps p.tables e below (T0.setTop (mkF m 5 _ [(.int (p4 &&& (2147483647 : Int32)))])) t
    refine XS.bipush P0.here P0.x rfl (hb hby at_5) ?_
    show Steps p.tables e below (T0.setTop (mkF m 7 _ [(.int (9 : Int32)), (.int (p4 &&& (2147483647 : Int32)))])) t
    refine XS.irem P0.here P0.x rfl (hb hby at_7) rfl (by decide) ?_
    show Steps p.tables e below (T0.setTop (mkF m 8 _ [(.int ((p4 &&& (2147483647 : Int32)) - ((p4 &&& (2147483647 : Int32)) / (9 : Int32)) * (9 : Int32)))])) t
    refine XS.istore P0.here P0.x rfl (hb hby at_8) rfl (l' := #[.val (.long p0), .second, .val (.long p1), .second, .val (.long p2), .second, .val (.long p3), .second, .val (.int p4), .val (.int ((p4 &&& (2147483647 : Int32)) - ((p4 &&& (2147483647 : Int32)) / (9 : Int32)) * (9 : Int32))), .unset, .unset, .unset, .unset, .unset, .unset, .unset, .unset, .unset, .unset, .unset, .unset, .unset, .unset, .unset, .unset, .unset, .unset, .unset, .unset, .unset, .unset, .unset, .unset, .unset, .unset, .unset, .unset, .unset, .unset, .unset, .unset, .unset, .unset]) rfl ?_
    exact kk
  have tail : ∀ (N : Nat) (nv : Int32) (z0 z1 z2 z3 z4 z5 z6 z7 : Int64), nv.toInt = (N : Int) → N ≤ 8 → z0.toInt.natAbs ≤ 2147483648 → z1.toInt.natAbs ≤ 2147483648 → z2.toInt.natAbs ≤ 2147483648 → z3.toInt.natAbs ≤ 2147483648 → z4.toInt.natAbs ≤ 2147483648 → z5.toInt.natAbs ≤ 2147483648 → z6.toInt.natAbs ≤ 2147483648 → z7.toInt.natAbs ≤ 2147483648 → (N ≤ 0 → z0.toInt = 0) → (N ≤ 1 → z1.toInt = 0) → (N ≤ 2 → z2.toInt = 0) → (N ≤ 3 → z3.toInt = 0) → (N ≤ 4 → z4.toInt = 0) → (N ≤ 5 → z5.toInt = 0) → (N ≤ 6 → z6.toInt = 0) → (N ≤ 7 → z7.toInt = 0) → Done p l e room_1 s m #[(.long p0), (.long p1), (.long p2), (.long p3), (.int p4)] below meth c Z "com/example/graticule/graticule/referencing/operation/SineSeriesPolynomialPinLaw" [] h0.size (fun v h' => v = some (.int 1)) T0 (mkF m 149 #[.val (.long p0), .second, .val (.long p1), .second, .val (.long p2), .second, .val (.long p3), .second, .val (.int p4), .val (.int nv), .val (.long z0), .second, .val (.long z1), .second, .val (.long z2), .second, .val (.long z3), .second, .val (.long z4), .second, .val (.long z5), .second, .val (.long z6), .second, .val (.long z7), .second, .unset, .unset, .unset, .unset, .unset, .unset, .unset, .unset, .unset, .unset, .unset, .unset, .unset, .unset, .unset, .unset, .unset, .unset] []) := by
    intro N nv z0 z1 z2 z3 z4 z5 z6 z7 hnv hN8 bd_z0 bd_z1 bd_z2 bd_z3 bd_z4 bd_z5 bd_z6 bd_z7 q0 q1 q2 q3 q4 q5 q6 q7
    have hz0 : ∀ k, N ≤ k → (own_L [z0.toInt, z1.toInt, z2.toInt, z3.toInt, z4.toInt, z5.toInt, z6.toInt, z7.toInt]) k = 0 := own_Lz q0 q1 q2 q3 q4 q5 q6 q7
    refine Done.stepL (pc' := 151) (st' := [(.int nv)]) (fun t kk => ?_) ?_
    · show Steps p.tables e below (T0.setTop (mkF m 149 _ [])) t
      refine XS.iload P0.here P0.x rfl (hb hby at_149) rfl ?_
      exact kk
    refine wNewA (aty := .double) P0 (tw1 hw) (hb hby at_151) rfl (N := N) hnv (cap := 8) hN8 (by decide) (by decide) (by decide) (ad := "[D") (by decide) (ty := .double) (dv := (.double (0 : UInt64))) rfl rfl (k' := 1) (n' := 8) rfl rfl (fun T1 h3 b4 g5 lt6 P2 E7 A8 X9 => ?_)
    have ge_b4 : h0.size ≤ b4 := by have := P0.ge; omega
    show Done _ _ _ _ _ _ _ _ _ _ _ _ _ _ _ T1 (mkF m 153 _ [(.ref b4)])
    refine Done.step (T' := T1) (g' := (mkF m 160 #[.val (.long p0), .second, .val (.long p1), .second, .val (.long p2), .second, .val (.long p3), .second, .val (.int p4), .val (.int nv), .val (.long z0), .second, .val (.long z1), .second, .val (.long z2), .second, .val (.long z3), .second, .val (.long z4), .second, .val (.long z5), .second, .val (.long z6), .second, .val (.long z7), .second, .val (.ref b4), .unset, .unset, .unset, .unset, .unset, .unset, .unset, .unset, .unset, .unset, .unset, .unset, .unset, .unset, .unset, .unset, .unset] [(.long z0), (.int (0 : Int32)), (.ref b4)])) (fun t kk => ?_) ?_
    · show Steps p.tables e below (T1.setTop (mkF m 153 _ [(.ref b4)])) t
      refine XS.astore P2.here P2.x rfl (hb hby at_153) rfl rfl (l' := #[.val (.long p0), .second, .val (.long p1), .second, .val (.long p2), .second, .val (.long p3), .second, .val (.int p4), .val (.int nv), .val (.long z0), .second, .val (.long z1), .second, .val (.long z2), .second, .val (.long z3), .second, .val (.long z4), .second, .val (.long z5), .second, .val (.long z6), .second, .val (.long z7), .second, .val (.ref b4), .unset, .unset, .unset, .unset, .unset, .unset, .unset, .unset, .unset, .unset, .unset, .unset, .unset, .unset, .unset, .unset, .unset]) rfl ?_
      show Steps p.tables e below (T1.setTop (mkF m 155 _ [])) t
      refine XS.aload P2.here P2.x rfl (hb hby at_155) rfl rfl ?_
      show Steps p.tables e below (T1.setTop (mkF m 157 _ [(.ref b4)])) t
      refine XS.iconst P2.here P2.x rfl (hb hby at_157) ?_
      show Steps p.tables e below (T1.setTop (mkF m 158 _ [(.int (0 : Int32)), (.ref b4)])) t
      refine XS.lload P2.here P2.x rfl (hb hby at_158) rfl ?_
      exact kk
    refine wCallS P2 (m_put l Z a0 hw b4 (0 : Int32) z0 0 N (fun _ => (0 : UInt64)) h3 A8 rfl) (tw2 hw) (tw3 hw) (tw4 hw) (tw5 hw) (by decide) (by rw [hml]; rfl) (lenOf pd_3 rfl) (argsL := [(.ref b4), (.int (0 : Int32)), (.long z0)]) (rest := []) rfl rfl (W := 0) (Nat.le_of_eq rfl) (by decide) (by decide) (by decide) (by decide) (allS (Or.inr ge_b4) all0) (hb hby at_160) rfl (k' := 1) (n' := 8) rfl rfl ?_
    rintro T10 h13 _ P11 K14 ⟨rfl, A12⟩
    have szh13 : h3.size ≤ h13.size := K14.1
    show Done _ _ _ _ _ _ _ _ _ _ _ _ _ _ _ T10 (mkF m 163 _ [])
    refine Done.stepL (pc' := 168) (st' := [(.long z1), (.int (1 : Int32)), (.ref b4)]) (fun t kk => ?_) ?_
    · show Steps p.tables e below (T10.setTop (mkF m 163 _ [])) t
      refine XS.aload P11.here P11.x rfl (hb hby at_163) rfl rfl ?_
      show Steps p.tables e below (T10.setTop (mkF m 165 _ [(.ref b4)])) t
      refine XS.iconst P11.here P11.x rfl (hb hby at_165) ?_
      show Steps p.tables e below (T10.setTop (mkF m 166 _ [(.int (1 : Int32)), (.ref b4)])) t
      refine XS.lload P11.here P11.x rfl (hb hby at_166) rfl ?_
      exact kk
    refine wCallS P11 (m_put l Z a0 hw b4 (1 : Int32) z1 1 N (oupd (fun _ => (0 : UInt64)) 0 (FP.l2d z0)) h13 A12 rfl) (tw2 hw) (tw3 hw) (tw4 hw) (tw5 hw) (by decide) (by rw [hml]; rfl) (lenOf pd_3 rfl) (argsL := [(.ref b4), (.int (1 : Int32)), (.long z1)]) (rest := []) rfl rfl (W := 0) (Nat.le_of_eq rfl) (by decide) (by decide) (by decide) (by decide) (allS (Or.inr ge_b4) all0) (hb hby at_168) rfl (k' := 1) (n' := 8) rfl rfl ?_
    rintro T15 h18 _ P16 K19 ⟨rfl, A17⟩
    have szh18 : h13.size ≤ h18.size := K19.1
    show Done _ _ _ _ _ _ _ _ _ _ _ _ _ _ _ T15 (mkF m 171 _ [])
    refine Done.stepL (pc' := 176) (st' := [(.long z2), (.int (2 : Int32)), (.ref b4)]) (fun t kk => ?_) ?_
    · show Steps p.tables e below (T15.setTop (mkF m 171 _ [])) t
      refine XS.aload P16.here P16.x rfl (hb hby at_171) rfl rfl ?_
      show Steps p.tables e below (T15.setTop (mkF m 173 _ [(.ref b4)])) t
      refine XS.iconst P16.here P16.x rfl (hb hby at_173) ?_
      show Steps p.tables e below (T15.setTop (mkF m 174 _ [(.int (2 : Int32)), (.ref b4)])) t
      refine XS.lload P16.here P16.x rfl (hb hby at_174) rfl ?_
      exact kk
    refine wCallS P16 (m_put l Z a0 hw b4 (2 : Int32) z2 2 N (oupd (oupd (fun _ => (0 : UInt64)) 0 (FP.l2d z0)) 1 (FP.l2d z1)) h18 A17 rfl) (tw2 hw) (tw3 hw) (tw4 hw) (tw5 hw) (by decide) (by rw [hml]; rfl) (lenOf pd_3 rfl) (argsL := [(.ref b4), (.int (2 : Int32)), (.long z2)]) (rest := []) rfl rfl (W := 0) (Nat.le_of_eq rfl) (by decide) (by decide) (by decide) (by decide) (allS (Or.inr ge_b4) all0) (hb hby at_176) rfl (k' := 1) (n' := 8) rfl rfl ?_
    rintro T20 h23 _ P21 K24 ⟨rfl, A22⟩
    have szh23 : h18.size ≤ h23.size := K24.1
    show Done _ _ _ _ _ _ _ _ _ _ _ _ _ _ _ T20 (mkF m 179 _ [])
    refine Done.stepL (pc' := 184) (st' := [(.long z3), (.int (3 : Int32)), (.ref b4)]) (fun t kk => ?_) ?_
    · show Steps p.tables e below (T20.setTop (mkF m 179 _ [])) t
      refine XS.aload P21.here P21.x rfl (hb hby at_179) rfl rfl ?_
      show Steps p.tables e below (T20.setTop (mkF m 181 _ [(.ref b4)])) t
      refine XS.iconst P21.here P21.x rfl (hb hby at_181) ?_
      show Steps p.tables e below (T20.setTop (mkF m 182 _ [(.int (3 : Int32)), (.ref b4)])) t
      refine XS.lload P21.here P21.x rfl (hb hby at_182) rfl ?_
      exact kk
    refine wCallS P21 (m_put l Z a0 hw b4 (3 : Int32) z3 3 N (oupd (oupd (oupd (fun _ => (0 : UInt64)) 0 (FP.l2d z0)) 1 (FP.l2d z1)) 2 (FP.l2d z2)) h23 A22 rfl) (tw2 hw) (tw3 hw) (tw4 hw) (tw5 hw) (by decide) (by rw [hml]; rfl) (lenOf pd_3 rfl) (argsL := [(.ref b4), (.int (3 : Int32)), (.long z3)]) (rest := []) rfl rfl (W := 0) (Nat.le_of_eq rfl) (by decide) (by decide) (by decide) (by decide) (allS (Or.inr ge_b4) all0) (hb hby at_184) rfl (k' := 1) (n' := 8) rfl rfl ?_
    rintro T25 h28 _ P26 K29 ⟨rfl, A27⟩
    have szh28 : h23.size ≤ h28.size := K29.1
    show Done _ _ _ _ _ _ _ _ _ _ _ _ _ _ _ T25 (mkF m 187 _ [])
    refine Done.stepL (pc' := 192) (st' := [(.long z4), (.int (4 : Int32)), (.ref b4)]) (fun t kk => ?_) ?_
    · show Steps p.tables e below (T25.setTop (mkF m 187 _ [])) t
      refine XS.aload P26.here P26.x rfl (hb hby at_187) rfl rfl ?_
      show Steps p.tables e below (T25.setTop (mkF m 189 _ [(.ref b4)])) t
      refine XS.iconst P26.here P26.x rfl (hb hby at_189) ?_
      show Steps p.tables e below (T25.setTop (mkF m 190 _ [(.int (4 : Int32)), (.ref b4)])) t
      refine XS.lload P26.here P26.x rfl (hb hby at_190) rfl ?_
      exact kk
    refine wCallS P26 (m_put l Z a0 hw b4 (4 : Int32) z4 4 N (oupd (oupd (oupd (oupd (fun _ => (0 : UInt64)) 0 (FP.l2d z0)) 1 (FP.l2d z1)) 2 (FP.l2d z2)) 3 (FP.l2d z3)) h28 A27 rfl) (tw2 hw) (tw3 hw) (tw4 hw) (tw5 hw) (by decide) (by rw [hml]; rfl) (lenOf pd_3 rfl) (argsL := [(.ref b4), (.int (4 : Int32)), (.long z4)]) (rest := []) rfl rfl (W := 0) (Nat.le_of_eq rfl) (by decide) (by decide) (by decide) (by decide) (allS (Or.inr ge_b4) all0) (hb hby at_192) rfl (k' := 1) (n' := 8) rfl rfl ?_
    rintro T30 h33 _ P31 K34 ⟨rfl, A32⟩
    have szh33 : h28.size ≤ h33.size := K34.1
    show Done _ _ _ _ _ _ _ _ _ _ _ _ _ _ _ T30 (mkF m 195 _ [])
    refine Done.stepL (pc' := 200) (st' := [(.long z5), (.int (5 : Int32)), (.ref b4)]) (fun t kk => ?_) ?_
    · show Steps p.tables e below (T30.setTop (mkF m 195 _ [])) t
      refine XS.aload P31.here P31.x rfl (hb hby at_195) rfl rfl ?_
      show Steps p.tables e below (T30.setTop (mkF m 197 _ [(.ref b4)])) t
      refine XS.iconst P31.here P31.x rfl (hb hby at_197) ?_
      show Steps p.tables e below (T30.setTop (mkF m 198 _ [(.int (5 : Int32)), (.ref b4)])) t
      refine XS.lload P31.here P31.x rfl (hb hby at_198) rfl ?_
      exact kk
    refine wCallS P31 (m_put l Z a0 hw b4 (5 : Int32) z5 5 N (oupd (oupd (oupd (oupd (oupd (fun _ => (0 : UInt64)) 0 (FP.l2d z0)) 1 (FP.l2d z1)) 2 (FP.l2d z2)) 3 (FP.l2d z3)) 4 (FP.l2d z4)) h33 A32 rfl) (tw2 hw) (tw3 hw) (tw4 hw) (tw5 hw) (by decide) (by rw [hml]; rfl) (lenOf pd_3 rfl) (argsL := [(.ref b4), (.int (5 : Int32)), (.long z5)]) (rest := []) rfl rfl (W := 0) (Nat.le_of_eq rfl) (by decide) (by decide) (by decide) (by decide) (allS (Or.inr ge_b4) all0) (hb hby at_200) rfl (k' := 1) (n' := 8) rfl rfl ?_
    rintro T35 h38 _ P36 K39 ⟨rfl, A37⟩
    have szh38 : h33.size ≤ h38.size := K39.1
    show Done _ _ _ _ _ _ _ _ _ _ _ _ _ _ _ T35 (mkF m 203 _ [])
    refine Done.stepL (pc' := 209) (st' := [(.long z6), (.int (6 : Int32)), (.ref b4)]) (fun t kk => ?_) ?_
    · show Steps p.tables e below (T35.setTop (mkF m 203 _ [])) t
      refine XS.aload P36.here P36.x rfl (hb hby at_203) rfl rfl ?_
      show Steps p.tables e below (T35.setTop (mkF m 205 _ [(.ref b4)])) t
      refine XS.bipush P36.here P36.x rfl (hb hby at_205) ?_
      show Steps p.tables e below (T35.setTop (mkF m 207 _ [(.int (6 : Int32)), (.ref b4)])) t
      refine XS.lload P36.here P36.x rfl (hb hby at_207) rfl ?_
      exact kk
    refine wCallS P36 (m_put l Z a0 hw b4 (6 : Int32) z6 6 N (oupd (oupd (oupd (oupd (oupd (oupd (fun _ => (0 : UInt64)) 0 (FP.l2d z0)) 1 (FP.l2d z1)) 2 (FP.l2d z2)) 3 (FP.l2d z3)) 4 (FP.l2d z4)) 5 (FP.l2d z5)) h38 A37 rfl) (tw2 hw) (tw3 hw) (tw4 hw) (tw5 hw) (by decide) (by rw [hml]; rfl) (lenOf pd_3 rfl) (argsL := [(.ref b4), (.int (6 : Int32)), (.long z6)]) (rest := []) rfl rfl (W := 0) (Nat.le_of_eq rfl) (by decide) (by decide) (by decide) (by decide) (allS (Or.inr ge_b4) all0) (hb hby at_209) rfl (k' := 1) (n' := 8) rfl rfl ?_
    rintro T40 h43 _ P41 K44 ⟨rfl, A42⟩
    have szh43 : h38.size ≤ h43.size := K44.1
    show Done _ _ _ _ _ _ _ _ _ _ _ _ _ _ _ T40 (mkF m 212 _ [])
    refine Done.stepL (pc' := 218) (st' := [(.long z7), (.int (7 : Int32)), (.ref b4)]) (fun t kk => ?_) ?_
    · show Steps p.tables e below (T40.setTop (mkF m 212 _ [])) t
      refine XS.aload P41.here P41.x rfl (hb hby at_212) rfl rfl ?_
      show Steps p.tables e below (T40.setTop (mkF m 214 _ [(.ref b4)])) t
      refine XS.bipush P41.here P41.x rfl (hb hby at_214) ?_
      show Steps p.tables e below (T40.setTop (mkF m 216 _ [(.int (7 : Int32)), (.ref b4)])) t
      refine XS.lload P41.here P41.x rfl (hb hby at_216) rfl ?_
      exact kk
    refine wCallS P41 (m_put l Z a0 hw b4 (7 : Int32) z7 7 N (oupd (oupd (oupd (oupd (oupd (oupd (oupd (fun _ => (0 : UInt64)) 0 (FP.l2d z0)) 1 (FP.l2d z1)) 2 (FP.l2d z2)) 3 (FP.l2d z3)) 4 (FP.l2d z4)) 5 (FP.l2d z5)) 6 (FP.l2d z6)) h43 A42 rfl) (tw2 hw) (tw3 hw) (tw4 hw) (tw5 hw) (by decide) (by rw [hml]; rfl) (lenOf pd_3 rfl) (argsL := [(.ref b4), (.int (7 : Int32)), (.long z7)]) (rest := []) rfl rfl (W := 0) (Nat.le_of_eq rfl) (by decide) (by decide) (by decide) (by decide) (allS (Or.inr ge_b4) all0) (hb hby at_218) rfl (k' := 1) (n' := 8) rfl rfl ?_
    rintro T45 h48 _ P46 K49 ⟨rfl, A47⟩
    have szh48 : h43.size ≤ h48.size := K49.1
    show Done _ _ _ _ _ _ _ _ _ _ _ _ _ _ _ T45 (mkF m 221 _ [])
    refine Done.stepL (pc' := 223) (st' := [(.ref b4)]) (fun t kk => ?_) ?_
    · show Steps p.tables e below (T45.setTop (mkF m 221 _ [])) t
      refine XS.aload P46.here P46.x rfl (hb hby at_221) rfl rfl ?_
      exact kk
    have hda : ∀ i, i < 8 → DInt ((own_L [z0.toInt, z1.toInt, z2.toInt, z3.toInt, z4.toInt, z5.toInt, z6.toInt, z7.toInt]) i) ((oupd (oupd (oupd (oupd (oupd (oupd (oupd (oupd (fun _ => (0 : UInt64)) 0 (FP.l2d z0)) 1 (FP.l2d z1)) 2 (FP.l2d z2)) 3 (FP.l2d z3)) 4 (FP.l2d z4)) 5 (FP.l2d z5)) 6 (FP.l2d z6)) 7 (FP.l2d z7)) i) := (own_allS (P := fun i => DInt ((own_L [z0.toInt, z1.toInt, z2.toInt, z3.toInt, z4.toInt, z5.toInt, z6.toInt, z7.toInt]) i) ((oupd (oupd (oupd (oupd (oupd (oupd (oupd (oupd (fun _ => (0 : UInt64)) 0 (FP.l2d z0)) 1 (FP.l2d z1)) 2 (FP.l2d z2)) 3 (FP.l2d z3)) 4 (FP.l2d z4)) 5 (FP.l2d z5)) 6 (FP.l2d z6)) 7 (FP.l2d z7)) i)) (n := 7) (own_allS (P := fun i => DInt ((own_L [z0.toInt, z1.toInt, z2.toInt, z3.toInt, z4.toInt, z5.toInt, z6.toInt, z7.toInt]) i) ((oupd (oupd (oupd (oupd (oupd (oupd (oupd (oupd (fun _ => (0 : UInt64)) 0 (FP.l2d z0)) 1 (FP.l2d z1)) 2 (FP.l2d z2)) 3 (FP.l2d z3)) 4 (FP.l2d z4)) 5 (FP.l2d z5)) 6 (FP.l2d z6)) 7 (FP.l2d z7)) i)) (n := 6) (own_allS (P := fun i => DInt ((own_L [z0.toInt, z1.toInt, z2.toInt, z3.toInt, z4.toInt, z5.toInt, z6.toInt, z7.toInt]) i) ((oupd (oupd (oupd (oupd (oupd (oupd (oupd (oupd (fun _ => (0 : UInt64)) 0 (FP.l2d z0)) 1 (FP.l2d z1)) 2 (FP.l2d z2)) 3 (FP.l2d z3)) 4 (FP.l2d z4)) 5 (FP.l2d z5)) 6 (FP.l2d z6)) 7 (FP.l2d z7)) i)) (n := 5) (own_allS (P := fun i => DInt ((own_L [z0.toInt, z1.toInt, z2.toInt, z3.toInt, z4.toInt, z5.toInt, z6.toInt, z7.toInt]) i) ((oupd (oupd (oupd (oupd (oupd (oupd (oupd (oupd (fun _ => (0 : UInt64)) 0 (FP.l2d z0)) 1 (FP.l2d z1)) 2 (FP.l2d z2)) 3 (FP.l2d z3)) 4 (FP.l2d z4)) 5 (FP.l2d z5)) 6 (FP.l2d z6)) 7 (FP.l2d z7)) i)) (n := 4) (own_allS (P := fun i => DInt ((own_L [z0.toInt, z1.toInt, z2.toInt, z3.toInt, z4.toInt, z5.toInt, z6.toInt, z7.toInt]) i) ((oupd (oupd (oupd (oupd (oupd (oupd (oupd (oupd (fun _ => (0 : UInt64)) 0 (FP.l2d z0)) 1 (FP.l2d z1)) 2 (FP.l2d z2)) 3 (FP.l2d z3)) 4 (FP.l2d z4)) 5 (FP.l2d z5)) 6 (FP.l2d z6)) 7 (FP.l2d z7)) i)) (n := 3) (own_allS (P := fun i => DInt ((own_L [z0.toInt, z1.toInt, z2.toInt, z3.toInt, z4.toInt, z5.toInt, z6.toInt, z7.toInt]) i) ((oupd (oupd (oupd (oupd (oupd (oupd (oupd (oupd (fun _ => (0 : UInt64)) 0 (FP.l2d z0)) 1 (FP.l2d z1)) 2 (FP.l2d z2)) 3 (FP.l2d z3)) 4 (FP.l2d z4)) 5 (FP.l2d z5)) 6 (FP.l2d z6)) 7 (FP.l2d z7)) i)) (n := 2) (own_allS (P := fun i => DInt ((own_L [z0.toInt, z1.toInt, z2.toInt, z3.toInt, z4.toInt, z5.toInt, z6.toInt, z7.toInt]) i) ((oupd (oupd (oupd (oupd (oupd (oupd (oupd (oupd (fun _ => (0 : UInt64)) 0 (FP.l2d z0)) 1 (FP.l2d z1)) 2 (FP.l2d z2)) 3 (FP.l2d z3)) 4 (FP.l2d z4)) 5 (FP.l2d z5)) 6 (FP.l2d z6)) 7 (FP.l2d z7)) i)) (n := 1) (own_allS (P := fun i => DInt ((own_L [z0.toInt, z1.toInt, z2.toInt, z3.toInt, z4.toInt, z5.toInt, z6.toInt, z7.toInt]) i) ((oupd (oupd (oupd (oupd (oupd (oupd (oupd (oupd (fun _ => (0 : UInt64)) 0 (FP.l2d z0)) 1 (FP.l2d z1)) 2 (FP.l2d z2)) 3 (FP.l2d z3)) 4 (FP.l2d z4)) 5 (FP.l2d z5)) 6 (FP.l2d z6)) 7 (FP.l2d z7)) i)) (n := 0) (own_all0 (P := fun i => DInt ((own_L [z0.toInt, z1.toInt, z2.toInt, z3.toInt, z4.toInt, z5.toInt, z6.toInt, z7.toInt]) i) ((oupd (oupd (oupd (oupd (oupd (oupd (oupd (oupd (fun _ => (0 : UInt64)) 0 (FP.l2d z0)) 1 (FP.l2d z1)) 2 (FP.l2d z2)) 3 (FP.l2d z3)) 4 (FP.l2d z4)) 5 (FP.l2d z5)) 6 (FP.l2d z6)) 7 (FP.l2d z7)) i))) (show DInt z0.toInt (FP.l2d z0) from l2d_int (Nat.le_trans bd_z0 (by decide)))) (show DInt z1.toInt (FP.l2d z1) from l2d_int (Nat.le_trans bd_z1 (by decide)))) (show DInt z2.toInt (FP.l2d z2) from l2d_int (Nat.le_trans bd_z2 (by decide)))) (show DInt z3.toInt (FP.l2d z3) from l2d_int (Nat.le_trans bd_z3 (by decide)))) (show DInt z4.toInt (FP.l2d z4) from l2d_int (Nat.le_trans bd_z4 (by decide)))) (show DInt z5.toInt (FP.l2d z5) from l2d_int (Nat.le_trans bd_z5 (by decide)))) (show DInt z6.toInt (FP.l2d z6) from l2d_int (Nat.le_trans bd_z6 (by decide)))) (show DInt z7.toInt (FP.l2d z7) from l2d_int (Nat.le_trans bd_z7 (by decide))))
    have hba : ∀ i, i < 8 → ((own_L [z0.toInt, z1.toInt, z2.toInt, z3.toInt, z4.toInt, z5.toInt, z6.toInt, z7.toInt]) i).natAbs ≤ 2147483648 := (own_allS (P := fun i => ((own_L [z0.toInt, z1.toInt, z2.toInt, z3.toInt, z4.toInt, z5.toInt, z6.toInt, z7.toInt]) i).natAbs ≤ 2147483648) (n := 7) (own_allS (P := fun i => ((own_L [z0.toInt, z1.toInt, z2.toInt, z3.toInt, z4.toInt, z5.toInt, z6.toInt, z7.toInt]) i).natAbs ≤ 2147483648) (n := 6) (own_allS (P := fun i => ((own_L [z0.toInt, z1.toInt, z2.toInt, z3.toInt, z4.toInt, z5.toInt, z6.toInt, z7.toInt]) i).natAbs ≤ 2147483648) (n := 5) (own_allS (P := fun i => ((own_L [z0.toInt, z1.toInt, z2.toInt, z3.toInt, z4.toInt, z5.toInt, z6.toInt, z7.toInt]) i).natAbs ≤ 2147483648) (n := 4) (own_allS (P := fun i => ((own_L [z0.toInt, z1.toInt, z2.toInt, z3.toInt, z4.toInt, z5.toInt, z6.toInt, z7.toInt]) i).natAbs ≤ 2147483648) (n := 3) (own_allS (P := fun i => ((own_L [z0.toInt, z1.toInt, z2.toInt, z3.toInt, z4.toInt, z5.toInt, z6.toInt, z7.toInt]) i).natAbs ≤ 2147483648) (n := 2) (own_allS (P := fun i => ((own_L [z0.toInt, z1.toInt, z2.toInt, z3.toInt, z4.toInt, z5.toInt, z6.toInt, z7.toInt]) i).natAbs ≤ 2147483648) (n := 1) (own_allS (P := fun i => ((own_L [z0.toInt, z1.toInt, z2.toInt, z3.toInt, z4.toInt, z5.toInt, z6.toInt, z7.toInt]) i).natAbs ≤ 2147483648) (n := 0) (own_all0 (P := fun i => ((own_L [z0.toInt, z1.toInt, z2.toInt, z3.toInt, z4.toInt, z5.toInt, z6.toInt, z7.toInt]) i).natAbs ≤ 2147483648)) bd_z0) bd_z1) bd_z2) bd_z3) bd_z4) bd_z5) bd_z6) bd_z7)
    refine wCallS P46 (m_poly l Z a0 hw b4 N (oupd (oupd (oupd (oupd (oupd (oupd (oupd (oupd (fun _ => (0 : UInt64)) 0 (FP.l2d z0)) 1 (FP.l2d z1)) 2 (FP.l2d z2)) 3 (FP.l2d z3)) 4 (FP.l2d z4)) 5 (FP.l2d z5)) 6 (FP.l2d z6)) 7 (FP.l2d z7)) (own_L [z0.toInt, z1.toInt, z2.toInt, z3.toInt, z4.toInt, z5.toInt, z6.toInt, z7.toInt]) h48 A47 hN8 (fun i hi => hda i (Nat.lt_of_lt_of_le hi hN8)) (fun i hi => hba i (Nat.lt_of_lt_of_le hi hN8))) (tw6 hw) (tw7 hw) (tw8 hw) (tw9 hw) (by decide) (by rw [hml]; rfl) (lenOf pd_4 rfl) (argsL := [(.ref b4)]) (rest := []) rfl rfl (W := 0) (Nat.le_of_eq rfl) (by decide) (by decide) (by decide) (by decide) (by simp) (hb hby at_223) rfl (k' := 14) (n' := 99) rfl rfl ?_
    rintro T50 h53 _ P51 K54 ⟨r, sf, rfl, ltr, A52, hS⟩
    have szh53 : h48.size ≤ h53.size := K54.1
    show Done _ _ _ _ _ _ _ _ _ _ _ _ _ _ _ T50 (mkF m 226 _ [(.ref r)])
    refine Done.step (T' := T50) (g' := (mkF m 235 #[.val (.long p0), .second, .val (.long p1), .second, .val (.long p2), .second, .val (.long p3), .second, .val (.int p4), .val (.int nv), .val (.long z0), .second, .val (.long z1), .second, .val (.long z2), .second, .val (.long z3), .second, .val (.long z4), .second, .val (.long z5), .second, .val (.long z6), .second, .val (.long z7), .second, .val (.ref b4), .val (.ref r), .unset, .unset, .unset, .unset, .unset, .unset, .unset, .unset, .unset, .unset, .unset, .unset, .unset, .unset, .unset, .unset] [(.ref r)])) (fun t kk => ?_) ?_
    · show Steps p.tables e below (T50.setTop (mkF m 226 _ [(.ref r)])) t
      refine XS.astore P51.here P51.x rfl (hb hby at_226) rfl rfl (l' := #[.val (.long p0), .second, .val (.long p1), .second, .val (.long p2), .second, .val (.long p3), .second, .val (.int p4), .val (.int nv), .val (.long z0), .second, .val (.long z1), .second, .val (.long z2), .second, .val (.long z3), .second, .val (.long z4), .second, .val (.long z5), .second, .val (.long z6), .second, .val (.long z7), .second, .val (.ref b4), .val (.ref r), .unset, .unset, .unset, .unset, .unset, .unset, .unset, .unset, .unset, .unset, .unset, .unset, .unset, .unset, .unset, .unset]) rfl ?_
      show Steps p.tables e below (T50.setTop (mkF m 228 _ [])) t
      refine XS.aload P51.here P51.x rfl (hb hby at_228) rfl rfl ?_
      show Steps p.tables e below (T50.setTop (mkF m 230 _ [(.ref r)])) t
      refine XS.ifnullNo P51.here P51.x rfl (hb hby at_230) rfl ?_
      show Steps p.tables e below (T50.setTop (mkF m 233 _ [])) t
      refine XS.aload P51.here P51.x rfl (hb hby at_233) rfl rfl ?_
      exact kk
    refine wLen P51 A52 (z := nv) hnv (hb hby at_235) rfl ?_
    show Done _ _ _ _ _ _ _ _ _ _ _ _ _ _ _ T50 (mkF m 236 _ [(.int nv)])
    refine Done.step (T' := T50) (g' := (mkF m 380 #[.val (.long p0), .second, .val (.long p1), .second, .val (.long p2), .second, .val (.long p3), .second, .val (.int p4), .val (.int nv), .val (.long z0), .second, .val (.long z1), .second, .val (.long z2), .second, .val (.long z3), .second, .val (.long z4), .second, .val (.long z5), .second, .val (.long z6), .second, .val (.long z7), .second, .val (.ref b4), .val (.ref r), .val (.long (((z0 - z2) + z4) - z6)), .second, .val (.long (((((2 : Int64) * z1) - ((4 : Int64) * z3)) + ((6 : Int64) * z5)) - ((8 : Int64) * z7))), .second, .val (.long ((((4 : Int64) * z2) - ((12 : Int64) * z4)) + ((24 : Int64) * z6))), .second, .val (.long ((((8 : Int64) * z3) - ((32 : Int64) * z5)) + ((80 : Int64) * z7))), .second, .val (.long (((16 : Int64) * z4) - ((80 : Int64) * z6))), .second, .val (.long (((32 : Int64) * z5) - ((192 : Int64) * z7))), .second, .val (.long ((64 : Int64) * z6)), .second, .val (.long ((128 : Int64) * z7)), .second] [(.long (((z0 - z2) + z4) - z6)), (.int (0 : Int32)), (.ref r)])) (fun t kk => ?_) ?_
    · show Steps p.tables e below (T50.setTop (mkF m 236 _ [(.int nv)])) t
      refine XS.iload P51.here P51.x rfl (hb hby at_236) rfl ?_
      show Steps p.tables e below (T50.setTop (mkF m 238 _ [(.int nv), (.int nv)])) t
      refine XS.icmpYes P51.here P51.x rfl (pc0 := 238) (pc' := 243) rfl (hb hby at_238) rfl (iiW_eq_t rfl) (by decide) (by decide) ?_
      show Steps p.tables e below (T50.setTop (mkF m 243 _ [])) t
      refine XS.lload P51.here P51.x rfl (hb hby at_243) rfl ?_
      show Steps p.tables e below (T50.setTop (mkF m 245 _ [(.long z0)])) t
      refine XS.lload P51.here P51.x rfl (hb hby at_245) rfl ?_
      show Steps p.tables e below (T50.setTop (mkF m 247 _ [(.long z2), (.long z0)])) t
      refine XS.lsub P51.here P51.x rfl (hb hby at_247) rfl ?_
      show Steps p.tables e below (T50.setTop (mkF m 248 _ [(.long (z0 - z2))])) t
      refine XS.lload P51.here P51.x rfl (hb hby at_248) rfl ?_
      show Steps p.tables e below (T50.setTop (mkF m 250 _ [(.long z4), (.long (z0 - z2))])) t
      refine XS.ladd P51.here P51.x rfl (hb hby at_250) rfl ?_
      show Steps p.tables e below (T50.setTop (mkF m 251 _ [(.long ((z0 - z2) + z4))])) t
      refine XS.lload P51.here P51.x rfl (hb hby at_251) rfl ?_
      show Steps p.tables e below (T50.setTop (mkF m 253 _ [(.long z6), (.long ((z0 - z2) + z4))])) t
      refine XS.lsub P51.here P51.x rfl (hb hby at_253) rfl ?_
      show Steps p.tables e below (T50.setTop (mkF m 254 _ [(.long (((z0 - z2) + z4) - z6))])) t
      refine XS.lstore P51.here P51.x rfl (hb hby at_254) rfl (l' := #[.val (.long p0), .second, .val (.long p1), .second, .val (.long p2), .second, .val (.long p3), .second, .val (.int p4), .val (.int nv), .val (.long z0), .second, .val (.long z1), .second, .val (.long z2), .second, .val (.long z3), .second, .val (.long z4), .second, .val (.long z5), .second, .val (.long z6), .second, .val (.long z7), .second, .val (.ref b4), .val (.ref r), .val (.long (((z0 - z2) + z4) - z6)), .second, .unset, .unset, .unset, .unset, .unset, .unset, .unset, .unset, .unset, .unset, .unset, .unset, .unset, .unset]) rfl ?_
      show Steps p.tables e below (T50.setTop (mkF m 256 _ [])) t
      refine pLdcJ P51 (tw26 hw) (hb hby at_256) rfl ?_
      show Steps p.tables e below (T50.setTop (mkF m 259 _ [(.long (2 : Int64))])) t
      refine XS.lload P51.here P51.x rfl (hb hby at_259) rfl ?_
      show Steps p.tables e below (T50.setTop (mkF m 261 _ [(.long z1), (.long (2 : Int64))])) t
      refine XS.lmul P51.here P51.x rfl (hb hby at_261) rfl ?_
      show Steps p.tables e below (T50.setTop (mkF m 262 _ [(.long ((2 : Int64) * z1))])) t
      refine pLdcJ P51 (tw27 hw) (hb hby at_262) rfl ?_
      show Steps p.tables e below (T50.setTop (mkF m 265 _ [(.long (4 : Int64)), (.long ((2 : Int64) * z1))])) t
      refine XS.lload P51.here P51.x rfl (hb hby at_265) rfl ?_
      show Steps p.tables e below (T50.setTop (mkF m 267 _ [(.long z3), (.long (4 : Int64)), (.long ((2 : Int64) * z1))])) t
      refine XS.lmul P51.here P51.x rfl (hb hby at_267) rfl ?_
      show Steps p.tables e below (T50.setTop (mkF m 268 _ [(.long ((4 : Int64) * z3)), (.long ((2 : Int64) * z1))])) t
      refine XS.lsub P51.here P51.x rfl (hb hby at_268) rfl ?_
      show Steps p.tables e below (T50.setTop (mkF m 269 _ [(.long (((2 : Int64) * z1) - ((4 : Int64) * z3)))])) t
      refine pLdcJ P51 (tw28 hw) (hb hby at_269) rfl ?_
      show Steps p.tables e below (T50.setTop (mkF m 272 _ [(.long (6 : Int64)), (.long (((2 : Int64) * z1) - ((4 : Int64) * z3)))])) t
      refine XS.lload P51.here P51.x rfl (hb hby at_272) rfl ?_
      show Steps p.tables e below (T50.setTop (mkF m 274 _ [(.long z5), (.long (6 : Int64)), (.long (((2 : Int64) * z1) - ((4 : Int64) * z3)))])) t
      refine XS.lmul P51.here P51.x rfl (hb hby at_274) rfl ?_
      show Steps p.tables e below (T50.setTop (mkF m 275 _ [(.long ((6 : Int64) * z5)), (.long (((2 : Int64) * z1) - ((4 : Int64) * z3)))])) t
      refine XS.ladd P51.here P51.x rfl (hb hby at_275) rfl ?_
      show Steps p.tables e below (T50.setTop (mkF m 276 _ [(.long ((((2 : Int64) * z1) - ((4 : Int64) * z3)) + ((6 : Int64) * z5)))])) t
      refine pLdcJ P51 (tw29 hw) (hb hby at_276) rfl ?_
      show Steps p.tables e below (T50.setTop (mkF m 279 _ [(.long (8 : Int64)), (.long ((((2 : Int64) * z1) - ((4 : Int64) * z3)) + ((6 : Int64) * z5)))])) t
      refine XS.lload P51.here P51.x rfl (hb hby at_279) rfl ?_
      show Steps p.tables e below (T50.setTop (mkF m 281 _ [(.long z7), (.long (8 : Int64)), (.long ((((2 : Int64) * z1) - ((4 : Int64) * z3)) + ((6 : Int64) * z5)))])) t
      refine XS.lmul P51.here P51.x rfl (hb hby at_281) rfl ?_
      show Steps p.tables e below (T50.setTop (mkF m 282 _ [(.long ((8 : Int64) * z7)), (.long ((((2 : Int64) * z1) - ((4 : Int64) * z3)) + ((6 : Int64) * z5)))])) t
      refine XS.lsub P51.here P51.x rfl (hb hby at_282) rfl ?_
      show Steps p.tables e below (T50.setTop (mkF m 283 _ [(.long (((((2 : Int64) * z1) - ((4 : Int64) * z3)) + ((6 : Int64) * z5)) - ((8 : Int64) * z7)))])) t
      refine XS.lstore P51.here P51.x rfl (hb hby at_283) rfl (l' := #[.val (.long p0), .second, .val (.long p1), .second, .val (.long p2), .second, .val (.long p3), .second, .val (.int p4), .val (.int nv), .val (.long z0), .second, .val (.long z1), .second, .val (.long z2), .second, .val (.long z3), .second, .val (.long z4), .second, .val (.long z5), .second, .val (.long z6), .second, .val (.long z7), .second, .val (.ref b4), .val (.ref r), .val (.long (((z0 - z2) + z4) - z6)), .second, .val (.long (((((2 : Int64) * z1) - ((4 : Int64) * z3)) + ((6 : Int64) * z5)) - ((8 : Int64) * z7))), .second, .unset, .unset, .unset, .unset, .unset, .unset, .unset, .unset, .unset, .unset, .unset, .unset]) rfl ?_
      show Steps p.tables e below (T50.setTop (mkF m 285 _ [])) t
      refine pLdcJ P51 (tw27 hw) (hb hby at_285) rfl ?_
      show Steps p.tables e below (T50.setTop (mkF m 288 _ [(.long (4 : Int64))])) t
      refine XS.lload P51.here P51.x rfl (hb hby at_288) rfl ?_
      show Steps p.tables e below (T50.setTop (mkF m 290 _ [(.long z2), (.long (4 : Int64))])) t
      refine XS.lmul P51.here P51.x rfl (hb hby at_290) rfl ?_
      show Steps p.tables e below (T50.setTop (mkF m 291 _ [(.long ((4 : Int64) * z2))])) t
      refine pLdcJ P51 (tw30 hw) (hb hby at_291) rfl ?_
      show Steps p.tables e below (T50.setTop (mkF m 294 _ [(.long (12 : Int64)), (.long ((4 : Int64) * z2))])) t
      refine XS.lload P51.here P51.x rfl (hb hby at_294) rfl ?_
      show Steps p.tables e below (T50.setTop (mkF m 296 _ [(.long z4), (.long (12 : Int64)), (.long ((4 : Int64) * z2))])) t
      refine XS.lmul P51.here P51.x rfl (hb hby at_296) rfl ?_
      show Steps p.tables e below (T50.setTop (mkF m 297 _ [(.long ((12 : Int64) * z4)), (.long ((4 : Int64) * z2))])) t
      refine XS.lsub P51.here P51.x rfl (hb hby at_297) rfl ?_
      show Steps p.tables e below (T50.setTop (mkF m 298 _ [(.long (((4 : Int64) * z2) - ((12 : Int64) * z4)))])) t
      refine pLdcJ P51 (tw31 hw) (hb hby at_298) rfl ?_
      show Steps p.tables e below (T50.setTop (mkF m 301 _ [(.long (24 : Int64)), (.long (((4 : Int64) * z2) - ((12 : Int64) * z4)))])) t
      refine XS.lload P51.here P51.x rfl (hb hby at_301) rfl ?_
      show Steps p.tables e below (T50.setTop (mkF m 303 _ [(.long z6), (.long (24 : Int64)), (.long (((4 : Int64) * z2) - ((12 : Int64) * z4)))])) t
      refine XS.lmul P51.here P51.x rfl (hb hby at_303) rfl ?_
      show Steps p.tables e below (T50.setTop (mkF m 304 _ [(.long ((24 : Int64) * z6)), (.long (((4 : Int64) * z2) - ((12 : Int64) * z4)))])) t
      refine XS.ladd P51.here P51.x rfl (hb hby at_304) rfl ?_
      show Steps p.tables e below (T50.setTop (mkF m 305 _ [(.long ((((4 : Int64) * z2) - ((12 : Int64) * z4)) + ((24 : Int64) * z6)))])) t
      refine XS.lstore P51.here P51.x rfl (hb hby at_305) rfl (l' := #[.val (.long p0), .second, .val (.long p1), .second, .val (.long p2), .second, .val (.long p3), .second, .val (.int p4), .val (.int nv), .val (.long z0), .second, .val (.long z1), .second, .val (.long z2), .second, .val (.long z3), .second, .val (.long z4), .second, .val (.long z5), .second, .val (.long z6), .second, .val (.long z7), .second, .val (.ref b4), .val (.ref r), .val (.long (((z0 - z2) + z4) - z6)), .second, .val (.long (((((2 : Int64) * z1) - ((4 : Int64) * z3)) + ((6 : Int64) * z5)) - ((8 : Int64) * z7))), .second, .val (.long ((((4 : Int64) * z2) - ((12 : Int64) * z4)) + ((24 : Int64) * z6))), .second, .unset, .unset, .unset, .unset, .unset, .unset, .unset, .unset, .unset, .unset]) rfl ?_
      show Steps p.tables e below (T50.setTop (mkF m 307 _ [])) t
      refine pLdcJ P51 (tw29 hw) (hb hby at_307) rfl ?_
      show Steps p.tables e below (T50.setTop (mkF m 310 _ [(.long (8 : Int64))])) t
      refine XS.lload P51.here P51.x rfl (hb hby at_310) rfl ?_
      show Steps p.tables e below (T50.setTop (mkF m 312 _ [(.long z3), (.long (8 : Int64))])) t
      refine XS.lmul P51.here P51.x rfl (hb hby at_312) rfl ?_
      show Steps p.tables e below (T50.setTop (mkF m 313 _ [(.long ((8 : Int64) * z3))])) t
      refine pLdcJ P51 (tw32 hw) (hb hby at_313) rfl ?_
      show Steps p.tables e below (T50.setTop (mkF m 316 _ [(.long (32 : Int64)), (.long ((8 : Int64) * z3))])) t
      refine XS.lload P51.here P51.x rfl (hb hby at_316) rfl ?_
      show Steps p.tables e below (T50.setTop (mkF m 318 _ [(.long z5), (.long (32 : Int64)), (.long ((8 : Int64) * z3))])) t
      refine XS.lmul P51.here P51.x rfl (hb hby at_318) rfl ?_
      show Steps p.tables e below (T50.setTop (mkF m 319 _ [(.long ((32 : Int64) * z5)), (.long ((8 : Int64) * z3))])) t
      refine XS.lsub P51.here P51.x rfl (hb hby at_319) rfl ?_
      show Steps p.tables e below (T50.setTop (mkF m 320 _ [(.long (((8 : Int64) * z3) - ((32 : Int64) * z5)))])) t
      refine pLdcJ P51 (tw33 hw) (hb hby at_320) rfl ?_
      show Steps p.tables e below (T50.setTop (mkF m 323 _ [(.long (80 : Int64)), (.long (((8 : Int64) * z3) - ((32 : Int64) * z5)))])) t
      refine XS.lload P51.here P51.x rfl (hb hby at_323) rfl ?_
      show Steps p.tables e below (T50.setTop (mkF m 325 _ [(.long z7), (.long (80 : Int64)), (.long (((8 : Int64) * z3) - ((32 : Int64) * z5)))])) t
      refine XS.lmul P51.here P51.x rfl (hb hby at_325) rfl ?_
      show Steps p.tables e below (T50.setTop (mkF m 326 _ [(.long ((80 : Int64) * z7)), (.long (((8 : Int64) * z3) - ((32 : Int64) * z5)))])) t
      refine XS.ladd P51.here P51.x rfl (hb hby at_326) rfl ?_
      show Steps p.tables e below (T50.setTop (mkF m 327 _ [(.long ((((8 : Int64) * z3) - ((32 : Int64) * z5)) + ((80 : Int64) * z7)))])) t
      refine XS.lstore P51.here P51.x rfl (hb hby at_327) rfl (l' := #[.val (.long p0), .second, .val (.long p1), .second, .val (.long p2), .second, .val (.long p3), .second, .val (.int p4), .val (.int nv), .val (.long z0), .second, .val (.long z1), .second, .val (.long z2), .second, .val (.long z3), .second, .val (.long z4), .second, .val (.long z5), .second, .val (.long z6), .second, .val (.long z7), .second, .val (.ref b4), .val (.ref r), .val (.long (((z0 - z2) + z4) - z6)), .second, .val (.long (((((2 : Int64) * z1) - ((4 : Int64) * z3)) + ((6 : Int64) * z5)) - ((8 : Int64) * z7))), .second, .val (.long ((((4 : Int64) * z2) - ((12 : Int64) * z4)) + ((24 : Int64) * z6))), .second, .val (.long ((((8 : Int64) * z3) - ((32 : Int64) * z5)) + ((80 : Int64) * z7))), .second, .unset, .unset, .unset, .unset, .unset, .unset, .unset, .unset]) rfl ?_
      show Steps p.tables e below (T50.setTop (mkF m 329 _ [])) t
      refine pLdcJ P51 (tw34 hw) (hb hby at_329) rfl ?_
      show Steps p.tables e below (T50.setTop (mkF m 332 _ [(.long (16 : Int64))])) t
      refine XS.lload P51.here P51.x rfl (hb hby at_332) rfl ?_
      show Steps p.tables e below (T50.setTop (mkF m 334 _ [(.long z4), (.long (16 : Int64))])) t
      refine XS.lmul P51.here P51.x rfl (hb hby at_334) rfl ?_
      show Steps p.tables e below (T50.setTop (mkF m 335 _ [(.long ((16 : Int64) * z4))])) t
      refine pLdcJ P51 (tw33 hw) (hb hby at_335) rfl ?_
      show Steps p.tables e below (T50.setTop (mkF m 338 _ [(.long (80 : Int64)), (.long ((16 : Int64) * z4))])) t
      refine XS.lload P51.here P51.x rfl (hb hby at_338) rfl ?_
      show Steps p.tables e below (T50.setTop (mkF m 340 _ [(.long z6), (.long (80 : Int64)), (.long ((16 : Int64) * z4))])) t
      refine XS.lmul P51.here P51.x rfl (hb hby at_340) rfl ?_
      show Steps p.tables e below (T50.setTop (mkF m 341 _ [(.long ((80 : Int64) * z6)), (.long ((16 : Int64) * z4))])) t
      refine XS.lsub P51.here P51.x rfl (hb hby at_341) rfl ?_
      show Steps p.tables e below (T50.setTop (mkF m 342 _ [(.long (((16 : Int64) * z4) - ((80 : Int64) * z6)))])) t
      refine XS.lstore P51.here P51.x rfl (hb hby at_342) rfl (l' := #[.val (.long p0), .second, .val (.long p1), .second, .val (.long p2), .second, .val (.long p3), .second, .val (.int p4), .val (.int nv), .val (.long z0), .second, .val (.long z1), .second, .val (.long z2), .second, .val (.long z3), .second, .val (.long z4), .second, .val (.long z5), .second, .val (.long z6), .second, .val (.long z7), .second, .val (.ref b4), .val (.ref r), .val (.long (((z0 - z2) + z4) - z6)), .second, .val (.long (((((2 : Int64) * z1) - ((4 : Int64) * z3)) + ((6 : Int64) * z5)) - ((8 : Int64) * z7))), .second, .val (.long ((((4 : Int64) * z2) - ((12 : Int64) * z4)) + ((24 : Int64) * z6))), .second, .val (.long ((((8 : Int64) * z3) - ((32 : Int64) * z5)) + ((80 : Int64) * z7))), .second, .val (.long (((16 : Int64) * z4) - ((80 : Int64) * z6))), .second, .unset, .unset, .unset, .unset, .unset, .unset]) rfl ?_
      show Steps p.tables e below (T50.setTop (mkF m 344 _ [])) t
      refine pLdcJ P51 (tw32 hw) (hb hby at_344) rfl ?_
      show Steps p.tables e below (T50.setTop (mkF m 347 _ [(.long (32 : Int64))])) t
      refine XS.lload P51.here P51.x rfl (hb hby at_347) rfl ?_
      show Steps p.tables e below (T50.setTop (mkF m 349 _ [(.long z5), (.long (32 : Int64))])) t
      refine XS.lmul P51.here P51.x rfl (hb hby at_349) rfl ?_
      show Steps p.tables e below (T50.setTop (mkF m 350 _ [(.long ((32 : Int64) * z5))])) t
      refine pLdcJ P51 (tw35 hw) (hb hby at_350) rfl ?_
      show Steps p.tables e below (T50.setTop (mkF m 353 _ [(.long (192 : Int64)), (.long ((32 : Int64) * z5))])) t
      refine XS.lload P51.here P51.x rfl (hb hby at_353) rfl ?_
      show Steps p.tables e below (T50.setTop (mkF m 355 _ [(.long z7), (.long (192 : Int64)), (.long ((32 : Int64) * z5))])) t
      refine XS.lmul P51.here P51.x rfl (hb hby at_355) rfl ?_
      show Steps p.tables e below (T50.setTop (mkF m 356 _ [(.long ((192 : Int64) * z7)), (.long ((32 : Int64) * z5))])) t
      refine XS.lsub P51.here P51.x rfl (hb hby at_356) rfl ?_
      show Steps p.tables e below (T50.setTop (mkF m 357 _ [(.long (((32 : Int64) * z5) - ((192 : Int64) * z7)))])) t
      refine XS.lstore P51.here P51.x rfl (hb hby at_357) rfl (l' := #[.val (.long p0), .second, .val (.long p1), .second, .val (.long p2), .second, .val (.long p3), .second, .val (.int p4), .val (.int nv), .val (.long z0), .second, .val (.long z1), .second, .val (.long z2), .second, .val (.long z3), .second, .val (.long z4), .second, .val (.long z5), .second, .val (.long z6), .second, .val (.long z7), .second, .val (.ref b4), .val (.ref r), .val (.long (((z0 - z2) + z4) - z6)), .second, .val (.long (((((2 : Int64) * z1) - ((4 : Int64) * z3)) + ((6 : Int64) * z5)) - ((8 : Int64) * z7))), .second, .val (.long ((((4 : Int64) * z2) - ((12 : Int64) * z4)) + ((24 : Int64) * z6))), .second, .val (.long ((((8 : Int64) * z3) - ((32 : Int64) * z5)) + ((80 : Int64) * z7))), .second, .val (.long (((16 : Int64) * z4) - ((80 : Int64) * z6))), .second, .val (.long (((32 : Int64) * z5) - ((192 : Int64) * z7))), .second, .unset, .unset, .unset, .unset]) rfl ?_
      show Steps p.tables e below (T50.setTop (mkF m 359 _ [])) t
      refine pLdcJ P51 (tw36 hw) (hb hby at_359) rfl ?_
      show Steps p.tables e below (T50.setTop (mkF m 362 _ [(.long (64 : Int64))])) t
      refine XS.lload P51.here P51.x rfl (hb hby at_362) rfl ?_
      show Steps p.tables e below (T50.setTop (mkF m 364 _ [(.long z6), (.long (64 : Int64))])) t
      refine XS.lmul P51.here P51.x rfl (hb hby at_364) rfl ?_
      show Steps p.tables e below (T50.setTop (mkF m 365 _ [(.long ((64 : Int64) * z6))])) t
      refine XS.lstore P51.here P51.x rfl (hb hby at_365) rfl (l' := #[.val (.long p0), .second, .val (.long p1), .second, .val (.long p2), .second, .val (.long p3), .second, .val (.int p4), .val (.int nv), .val (.long z0), .second, .val (.long z1), .second, .val (.long z2), .second, .val (.long z3), .second, .val (.long z4), .second, .val (.long z5), .second, .val (.long z6), .second, .val (.long z7), .second, .val (.ref b4), .val (.ref r), .val (.long (((z0 - z2) + z4) - z6)), .second, .val (.long (((((2 : Int64) * z1) - ((4 : Int64) * z3)) + ((6 : Int64) * z5)) - ((8 : Int64) * z7))), .second, .val (.long ((((4 : Int64) * z2) - ((12 : Int64) * z4)) + ((24 : Int64) * z6))), .second, .val (.long ((((8 : Int64) * z3) - ((32 : Int64) * z5)) + ((80 : Int64) * z7))), .second, .val (.long (((16 : Int64) * z4) - ((80 : Int64) * z6))), .second, .val (.long (((32 : Int64) * z5) - ((192 : Int64) * z7))), .second, .val (.long ((64 : Int64) * z6)), .second, .unset, .unset]) rfl ?_
      show Steps p.tables e below (T50.setTop (mkF m 367 _ [])) t
      refine pLdcJ P51 (tw37 hw) (hb hby at_367) rfl ?_
      show Steps p.tables e below (T50.setTop (mkF m 370 _ [(.long (128 : Int64))])) t
      refine XS.lload P51.here P51.x rfl (hb hby at_370) rfl ?_
      show Steps p.tables e below (T50.setTop (mkF m 372 _ [(.long z7), (.long (128 : Int64))])) t
      refine XS.lmul P51.here P51.x rfl (hb hby at_372) rfl ?_
      show Steps p.tables e below (T50.setTop (mkF m 373 _ [(.long ((128 : Int64) * z7))])) t
      refine XS.lstore P51.here P51.x rfl (hb hby at_373) rfl (l' := #[.val (.long p0), .second, .val (.long p1), .second, .val (.long p2), .second, .val (.long p3), .second, .val (.int p4), .val (.int nv), .val (.long z0), .second, .val (.long z1), .second, .val (.long z2), .second, .val (.long z3), .second, .val (.long z4), .second, .val (.long z5), .second, .val (.long z6), .second, .val (.long z7), .second, .val (.ref b4), .val (.ref r), .val (.long (((z0 - z2) + z4) - z6)), .second, .val (.long (((((2 : Int64) * z1) - ((4 : Int64) * z3)) + ((6 : Int64) * z5)) - ((8 : Int64) * z7))), .second, .val (.long ((((4 : Int64) * z2) - ((12 : Int64) * z4)) + ((24 : Int64) * z6))), .second, .val (.long ((((8 : Int64) * z3) - ((32 : Int64) * z5)) + ((80 : Int64) * z7))), .second, .val (.long (((16 : Int64) * z4) - ((80 : Int64) * z6))), .second, .val (.long (((32 : Int64) * z5) - ((192 : Int64) * z7))), .second, .val (.long ((64 : Int64) * z6)), .second, .val (.long ((128 : Int64) * z7)), .second]) rfl ?_
      show Steps p.tables e below (T50.setTop (mkF m 375 _ [])) t
      refine XS.aload P51.here P51.x rfl (hb hby at_375) rfl rfl ?_
      show Steps p.tables e below (T50.setTop (mkF m 377 _ [(.ref r)])) t
      refine XS.iconst P51.here P51.x rfl (hb hby at_377) ?_
      show Steps p.tables e below (T50.setTop (mkF m 378 _ [(.int (0 : Int32)), (.ref r)])) t
      refine XS.lload P51.here P51.x rfl (hb hby at_378) rfl ?_
      exact kk
    refine wCallS P51 (m_at l Z a0 hw r (0 : Int32) (((z0 - z2) + z4) - z6) 0 N sf h53 A52 rfl (fun hi => own_fin8_0 z0 z1 z2 z3 z4 z5 z6 z7 bd_z0 bd_z1 bd_z2 bd_z3 bd_z4 bd_z5 bd_z6 bd_z7 (own_SzD hN8 hz0 (hS 0 hi)))) (tw38 hw) (tw39 hw) (tw4 hw) (tw40 hw) (by decide) (by rw [hml]; rfl) (lenOf pd_5 rfl) (argsL := [(.ref r), (.int (0 : Int32)), (.long (((z0 - z2) + z4) - z6))]) (rest := []) rfl rfl (W := 0) (Nat.le_of_eq rfl) (by decide) (by decide) (by decide) (by decide) (by simp) (hb hby at_380) rfl (k' := 14) (n' := 99) rfl rfl ?_
    rintro T55 _ _ P56 - ⟨rfl, rfl⟩
    show Done _ _ _ _ _ _ _ _ _ _ _ _ _ _ _ T55 (mkF m 383 _ [(.int (1 : Int32))])
    refine Done.stepL (pc' := 391) (st' := [(.long (((((2 : Int64) * z1) - ((4 : Int64) * z3)) + ((6 : Int64) * z5)) - ((8 : Int64) * z7))), (.int (1 : Int32)), (.ref r)]) (fun t kk => ?_) ?_
    · show Steps p.tables e below (T55.setTop (mkF m 383 _ [(.int (1 : Int32))])) t
      refine XS.ifNo P56.here P56.x rfl (hb hby at_383) rfl (i0W_eq_f (by decide)) ?_
      show Steps p.tables e below (T55.setTop (mkF m 386 _ [])) t
      refine XS.aload P56.here P56.x rfl (hb hby at_386) rfl rfl ?_
      show Steps p.tables e below (T55.setTop (mkF m 388 _ [(.ref r)])) t
      refine XS.iconst P56.here P56.x rfl (hb hby at_388) ?_
      show Steps p.tables e below (T55.setTop (mkF m 389 _ [(.int (1 : Int32)), (.ref r)])) t
      refine XS.lload P56.here P56.x rfl (hb hby at_389) rfl ?_
      exact kk
    refine wCallS P56 (m_at l Z a0 hw r (1 : Int32) (((((2 : Int64) * z1) - ((4 : Int64) * z3)) + ((6 : Int64) * z5)) - ((8 : Int64) * z7)) 1 N sf h53 A52 rfl (fun hi => own_fin8_1 z0 z1 z2 z3 z4 z5 z6 z7 bd_z0 bd_z1 bd_z2 bd_z3 bd_z4 bd_z5 bd_z6 bd_z7 (own_SzD hN8 hz0 (hS 1 hi)))) (tw38 hw) (tw39 hw) (tw4 hw) (tw40 hw) (by decide) (by rw [hml]; rfl) (lenOf pd_5 rfl) (argsL := [(.ref r), (.int (1 : Int32)), (.long (((((2 : Int64) * z1) - ((4 : Int64) * z3)) + ((6 : Int64) * z5)) - ((8 : Int64) * z7)))]) (rest := []) rfl rfl (W := 0) (Nat.le_of_eq rfl) (by decide) (by decide) (by decide) (by decide) (by simp) (hb hby at_391) rfl (k' := 14) (n' := 99) rfl rfl ?_
    rintro T57 _ _ P58 - ⟨rfl, rfl⟩
    show Done _ _ _ _ _ _ _ _ _ _ _ _ _ _ _ T57 (mkF m 394 _ [(.int (1 : Int32))])
    refine Done.stepL (pc' := 402) (st' := [(.long ((((4 : Int64) * z2) - ((12 : Int64) * z4)) + ((24 : Int64) * z6))), (.int (2 : Int32)), (.ref r)]) (fun t kk => ?_) ?_
    · show Steps p.tables e below (T57.setTop (mkF m 394 _ [(.int (1 : Int32))])) t
      refine XS.ifNo P58.here P58.x rfl (hb hby at_394) rfl (i0W_eq_f (by decide)) ?_
      show Steps p.tables e below (T57.setTop (mkF m 397 _ [])) t
      refine XS.aload P58.here P58.x rfl (hb hby at_397) rfl rfl ?_
      show Steps p.tables e below (T57.setTop (mkF m 399 _ [(.ref r)])) t
      refine XS.iconst P58.here P58.x rfl (hb hby at_399) ?_
      show Steps p.tables e below (T57.setTop (mkF m 400 _ [(.int (2 : Int32)), (.ref r)])) t
      refine XS.lload P58.here P58.x rfl (hb hby at_400) rfl ?_
      exact kk
    refine wCallS P58 (m_at l Z a0 hw r (2 : Int32) ((((4 : Int64) * z2) - ((12 : Int64) * z4)) + ((24 : Int64) * z6)) 2 N sf h53 A52 rfl (fun hi => own_fin8_2 z0 z1 z2 z3 z4 z5 z6 z7 bd_z0 bd_z1 bd_z2 bd_z3 bd_z4 bd_z5 bd_z6 bd_z7 (own_SzD hN8 hz0 (hS 2 hi)))) (tw38 hw) (tw39 hw) (tw4 hw) (tw40 hw) (by decide) (by rw [hml]; rfl) (lenOf pd_5 rfl) (argsL := [(.ref r), (.int (2 : Int32)), (.long ((((4 : Int64) * z2) - ((12 : Int64) * z4)) + ((24 : Int64) * z6)))]) (rest := []) rfl rfl (W := 0) (Nat.le_of_eq rfl) (by decide) (by decide) (by decide) (by decide) (by simp) (hb hby at_402) rfl (k' := 14) (n' := 99) rfl rfl ?_
    rintro T59 _ _ P60 - ⟨rfl, rfl⟩
    show Done _ _ _ _ _ _ _ _ _ _ _ _ _ _ _ T59 (mkF m 405 _ [(.int (1 : Int32))])
    refine Done.stepL (pc' := 413) (st' := [(.long ((((8 : Int64) * z3) - ((32 : Int64) * z5)) + ((80 : Int64) * z7))), (.int (3 : Int32)), (.ref r)]) (fun t kk => ?_) ?_
    · show Steps p.tables e below (T59.setTop (mkF m 405 _ [(.int (1 : Int32))])) t
      refine XS.ifNo P60.here P60.x rfl (hb hby at_405) rfl (i0W_eq_f (by decide)) ?_
      show Steps p.tables e below (T59.setTop (mkF m 408 _ [])) t
      refine XS.aload P60.here P60.x rfl (hb hby at_408) rfl rfl ?_
      show Steps p.tables e below (T59.setTop (mkF m 410 _ [(.ref r)])) t
      refine XS.iconst P60.here P60.x rfl (hb hby at_410) ?_
      show Steps p.tables e below (T59.setTop (mkF m 411 _ [(.int (3 : Int32)), (.ref r)])) t
      refine XS.lload P60.here P60.x rfl (hb hby at_411) rfl ?_
      exact kk
    refine wCallS P60 (m_at l Z a0 hw r (3 : Int32) ((((8 : Int64) * z3) - ((32 : Int64) * z5)) + ((80 : Int64) * z7)) 3 N sf h53 A52 rfl (fun hi => own_fin8_3 z0 z1 z2 z3 z4 z5 z6 z7 bd_z0 bd_z1 bd_z2 bd_z3 bd_z4 bd_z5 bd_z6 bd_z7 (own_SzD hN8 hz0 (hS 3 hi)))) (tw38 hw) (tw39 hw) (tw4 hw) (tw40 hw) (by decide) (by rw [hml]; rfl) (lenOf pd_5 rfl) (argsL := [(.ref r), (.int (3 : Int32)), (.long ((((8 : Int64) * z3) - ((32 : Int64) * z5)) + ((80 : Int64) * z7)))]) (rest := []) rfl rfl (W := 0) (Nat.le_of_eq rfl) (by decide) (by decide) (by decide) (by decide) (by simp) (hb hby at_413) rfl (k' := 14) (n' := 99) rfl rfl ?_
    rintro T61 _ _ P62 - ⟨rfl, rfl⟩
    show Done _ _ _ _ _ _ _ _ _ _ _ _ _ _ _ T61 (mkF m 416 _ [(.int (1 : Int32))])
    refine Done.stepL (pc' := 424) (st' := [(.long (((16 : Int64) * z4) - ((80 : Int64) * z6))), (.int (4 : Int32)), (.ref r)]) (fun t kk => ?_) ?_
    · show Steps p.tables e below (T61.setTop (mkF m 416 _ [(.int (1 : Int32))])) t
      refine XS.ifNo P62.here P62.x rfl (hb hby at_416) rfl (i0W_eq_f (by decide)) ?_
      show Steps p.tables e below (T61.setTop (mkF m 419 _ [])) t
      refine XS.aload P62.here P62.x rfl (hb hby at_419) rfl rfl ?_
      show Steps p.tables e below (T61.setTop (mkF m 421 _ [(.ref r)])) t
      refine XS.iconst P62.here P62.x rfl (hb hby at_421) ?_
      show Steps p.tables e below (T61.setTop (mkF m 422 _ [(.int (4 : Int32)), (.ref r)])) t
      refine XS.lload P62.here P62.x rfl (hb hby at_422) rfl ?_
      exact kk
    refine wCallS P62 (m_at l Z a0 hw r (4 : Int32) (((16 : Int64) * z4) - ((80 : Int64) * z6)) 4 N sf h53 A52 rfl (fun hi => own_fin8_4 z0 z1 z2 z3 z4 z5 z6 z7 bd_z0 bd_z1 bd_z2 bd_z3 bd_z4 bd_z5 bd_z6 bd_z7 (own_SzD hN8 hz0 (hS 4 hi)))) (tw38 hw) (tw39 hw) (tw4 hw) (tw40 hw) (by decide) (by rw [hml]; rfl) (lenOf pd_5 rfl) (argsL := [(.ref r), (.int (4 : Int32)), (.long (((16 : Int64) * z4) - ((80 : Int64) * z6)))]) (rest := []) rfl rfl (W := 0) (Nat.le_of_eq rfl) (by decide) (by decide) (by decide) (by decide) (by simp) (hb hby at_424) rfl (k' := 14) (n' := 99) rfl rfl ?_
    rintro T63 _ _ P64 - ⟨rfl, rfl⟩
    show Done _ _ _ _ _ _ _ _ _ _ _ _ _ _ _ T63 (mkF m 427 _ [(.int (1 : Int32))])
    refine Done.stepL (pc' := 435) (st' := [(.long (((32 : Int64) * z5) - ((192 : Int64) * z7))), (.int (5 : Int32)), (.ref r)]) (fun t kk => ?_) ?_
    · show Steps p.tables e below (T63.setTop (mkF m 427 _ [(.int (1 : Int32))])) t
      refine XS.ifNo P64.here P64.x rfl (hb hby at_427) rfl (i0W_eq_f (by decide)) ?_
      show Steps p.tables e below (T63.setTop (mkF m 430 _ [])) t
      refine XS.aload P64.here P64.x rfl (hb hby at_430) rfl rfl ?_
      show Steps p.tables e below (T63.setTop (mkF m 432 _ [(.ref r)])) t
      refine XS.iconst P64.here P64.x rfl (hb hby at_432) ?_
      show Steps p.tables e below (T63.setTop (mkF m 433 _ [(.int (5 : Int32)), (.ref r)])) t
      refine XS.lload P64.here P64.x rfl (hb hby at_433) rfl ?_
      exact kk
    refine wCallS P64 (m_at l Z a0 hw r (5 : Int32) (((32 : Int64) * z5) - ((192 : Int64) * z7)) 5 N sf h53 A52 rfl (fun hi => own_fin8_5 z0 z1 z2 z3 z4 z5 z6 z7 bd_z0 bd_z1 bd_z2 bd_z3 bd_z4 bd_z5 bd_z6 bd_z7 (own_SzD hN8 hz0 (hS 5 hi)))) (tw38 hw) (tw39 hw) (tw4 hw) (tw40 hw) (by decide) (by rw [hml]; rfl) (lenOf pd_5 rfl) (argsL := [(.ref r), (.int (5 : Int32)), (.long (((32 : Int64) * z5) - ((192 : Int64) * z7)))]) (rest := []) rfl rfl (W := 0) (Nat.le_of_eq rfl) (by decide) (by decide) (by decide) (by decide) (by simp) (hb hby at_435) rfl (k' := 14) (n' := 99) rfl rfl ?_
    rintro T65 _ _ P66 - ⟨rfl, rfl⟩
    show Done _ _ _ _ _ _ _ _ _ _ _ _ _ _ _ T65 (mkF m 438 _ [(.int (1 : Int32))])
    refine Done.stepL (pc' := 447) (st' := [(.long ((64 : Int64) * z6)), (.int (6 : Int32)), (.ref r)]) (fun t kk => ?_) ?_
    · show Steps p.tables e below (T65.setTop (mkF m 438 _ [(.int (1 : Int32))])) t
      refine XS.ifNo P66.here P66.x rfl (hb hby at_438) rfl (i0W_eq_f (by decide)) ?_
      show Steps p.tables e below (T65.setTop (mkF m 441 _ [])) t
      refine XS.aload P66.here P66.x rfl (hb hby at_441) rfl rfl ?_
      show Steps p.tables e below (T65.setTop (mkF m 443 _ [(.ref r)])) t
      refine XS.bipush P66.here P66.x rfl (hb hby at_443) ?_
      show Steps p.tables e below (T65.setTop (mkF m 445 _ [(.int (6 : Int32)), (.ref r)])) t
      refine XS.lload P66.here P66.x rfl (hb hby at_445) rfl ?_
      exact kk
    refine wCallS P66 (m_at l Z a0 hw r (6 : Int32) ((64 : Int64) * z6) 6 N sf h53 A52 rfl (fun hi => own_fin8_6 z0 z1 z2 z3 z4 z5 z6 z7 bd_z0 bd_z1 bd_z2 bd_z3 bd_z4 bd_z5 bd_z6 bd_z7 (own_SzD hN8 hz0 (hS 6 hi)))) (tw38 hw) (tw39 hw) (tw4 hw) (tw40 hw) (by decide) (by rw [hml]; rfl) (lenOf pd_5 rfl) (argsL := [(.ref r), (.int (6 : Int32)), (.long ((64 : Int64) * z6))]) (rest := []) rfl rfl (W := 0) (Nat.le_of_eq rfl) (by decide) (by decide) (by decide) (by decide) (by simp) (hb hby at_447) rfl (k' := 14) (n' := 99) rfl rfl ?_
    rintro T67 _ _ P68 - ⟨rfl, rfl⟩
    show Done _ _ _ _ _ _ _ _ _ _ _ _ _ _ _ T67 (mkF m 450 _ [(.int (1 : Int32))])
    refine Done.stepL (pc' := 459) (st' := [(.long ((128 : Int64) * z7)), (.int (7 : Int32)), (.ref r)]) (fun t kk => ?_) ?_
    · show Steps p.tables e below (T67.setTop (mkF m 450 _ [(.int (1 : Int32))])) t
      refine XS.ifNo P68.here P68.x rfl (hb hby at_450) rfl (i0W_eq_f (by decide)) ?_
      show Steps p.tables e below (T67.setTop (mkF m 453 _ [])) t
      refine XS.aload P68.here P68.x rfl (hb hby at_453) rfl rfl ?_
      show Steps p.tables e below (T67.setTop (mkF m 455 _ [(.ref r)])) t
      refine XS.bipush P68.here P68.x rfl (hb hby at_455) ?_
      show Steps p.tables e below (T67.setTop (mkF m 457 _ [(.int (7 : Int32)), (.ref r)])) t
      refine XS.lload P68.here P68.x rfl (hb hby at_457) rfl ?_
      exact kk
    refine wCallS P68 (m_at l Z a0 hw r (7 : Int32) ((128 : Int64) * z7) 7 N sf h53 A52 rfl (fun hi => own_fin8_7 z0 z1 z2 z3 z4 z5 z6 z7 bd_z0 bd_z1 bd_z2 bd_z3 bd_z4 bd_z5 bd_z6 bd_z7 (own_SzD hN8 hz0 (hS 7 hi)))) (tw38 hw) (tw39 hw) (tw4 hw) (tw40 hw) (by decide) (by rw [hml]; rfl) (lenOf pd_5 rfl) (argsL := [(.ref r), (.int (7 : Int32)), (.long ((128 : Int64) * z7))]) (rest := []) rfl rfl (W := 0) (Nat.le_of_eq rfl) (by decide) (by decide) (by decide) (by decide) (by simp) (hb hby at_459) rfl (k' := 14) (n' := 99) rfl rfl ?_
    rintro T69 _ _ P70 - ⟨rfl, rfl⟩
    show Done _ _ _ _ _ _ _ _ _ _ _ _ _ _ _ T69 (mkF m 462 _ [(.int (1 : Int32))])
    refine Done.stepL (pc' := 470) (st' := [(.int (1 : Int32))]) (fun t kk => ?_) ?_
    · show Steps p.tables e below (T69.setTop (mkF m 462 _ [(.int (1 : Int32))])) t
      refine XS.ifNo P70.here P70.x rfl (hb hby at_462) rfl (i0W_eq_f (by decide)) ?_
      show Steps p.tables e below (T69.setTop (mkF m 465 _ [])) t
      refine XS.iconst P70.here P70.x rfl (hb hby at_465) ?_
      show Steps p.tables e below (T69.setTop (mkF m 466 _ [(.int (1 : Int32))])) t
      refine XS.goto P70.here P70.x rfl (pc0 := 466) (pc' := 470) rfl (hb hby at_466) (by decide) (by decide) ?_
      exact kk
    exact wRet P70 (t := .boolean) hret (narrow_01 (Or.inr rfl)) (Or.inl ⟨rfl, Or.inr (Or.inl rfl), _, rfl⟩) (hb hby at_470) rfl
  generalize g_nv : ((p4 &&& (2147483647 : Int32)) - ((p4 &&& (2147483647 : Int32)) / (9 : Int32)) * (9 : Int32)) = nv
  have hnv : nv = 0 ∨ nv = 1 ∨ nv = 2 ∨ nv = 3 ∨ nv = 4 ∨ nv = 5 ∨ nv = 6 ∨ nv = 7 ∨ nv = 8 := by rw [← g_nv]; exact own_nv p4
  show Done _ _ _ _ _ _ _ _ _ _ _ _ _ _ _ T0 (mkF m 10 _ [])
  rcases hnv with rfl | rfl | rfl | rfl | rfl | rfl | rfl | rfl | rfl
  · refine Done.step (T' := T0) (g' := (mkF m 149 #[.val (.long p0), .second, .val (.long p1), .second, .val (.long p2), .second, .val (.long p3), .second, .val (.int p4), .val (.int (0 : Int32)), .val (.long (0 : Int64)), .second, .val (.long (0 : Int64)), .second, .val (.long (0 : Int64)), .second, .val (.long (0 : Int64)), .second, .val (.long (0 : Int64)), .second, .val (.long (0 : Int64)), .second, .val (.long (0 : Int64)), .second, .val (.long (0 : Int64)), .second, .unset, .unset, .unset, .unset, .unset, .unset, .unset, .unset, .unset, .unset, .unset, .unset, .unset, .unset, .unset, .unset, .unset, .unset] [])) (fun t kk => ?_) ?_
    · show Steps p.tables e below (T0.setTop (mkF m 10 _ [])) t
      refine XS.iload P0.here P0.x rfl (hb hby at_10) rfl ?_
      show Steps p.tables e below (T0.setTop (mkF m 12 _ [(.int (0 : Int32))])) t
      refine XS.iconst P0.here P0.x rfl (hb hby at_12) ?_
      show Steps p.tables e below (T0.setTop (mkF m 13 _ [(.int (1 : Int32)), (.int (0 : Int32))])) t
      refine XS.icmpYes P0.here P0.x rfl (pc0 := 13) (pc' := 22) rfl (hb hby at_13) rfl (iiW_lt_t (by decide)) (by decide) (by decide) ?_
      show Steps p.tables e below (T0.setTop (mkF m 22 _ [])) t
      refine XS.lconst P0.here P0.x rfl (hb hby at_22) ?_
      show Steps p.tables e below (T0.setTop (mkF m 23 _ [(.long (0 : Int64))])) t
      refine XS.lstore P0.here P0.x rfl (hb hby at_23) rfl (l' := #[.val (.long p0), .second, .val (.long p1), .second, .val (.long p2), .second, .val (.long p3), .second, .val (.int p4), .val (.int (0 : Int32)), .val (.long (0 : Int64)), .second, .unset, .unset, .unset, .unset, .unset, .unset, .unset, .unset, .unset, .unset, .unset, .unset, .unset, .unset, .unset, .unset, .unset, .unset, .unset, .unset, .unset, .unset, .unset, .unset, .unset, .unset, .unset, .unset, .unset, .unset, .unset, .unset]) rfl ?_
      show Steps p.tables e below (T0.setTop (mkF m 25 _ [])) t
      refine XS.iload P0.here P0.x rfl (hb hby at_25) rfl ?_
      show Steps p.tables e below (T0.setTop (mkF m 27 _ [(.int (0 : Int32))])) t
      refine XS.iconst P0.here P0.x rfl (hb hby at_27) ?_
      show Steps p.tables e below (T0.setTop (mkF m 28 _ [(.int (2 : Int32)), (.int (0 : Int32))])) t
      refine XS.icmpYes P0.here P0.x rfl (pc0 := 28) (pc' := 40) rfl (hb hby at_28) rfl (iiW_lt_t (by decide)) (by decide) (by decide) ?_
      show Steps p.tables e below (T0.setTop (mkF m 40 _ [])) t
      refine XS.lconst P0.here P0.x rfl (hb hby at_40) ?_
      show Steps p.tables e below (T0.setTop (mkF m 41 _ [(.long (0 : Int64))])) t
      refine XS.lstore P0.here P0.x rfl (hb hby at_41) rfl (l' := #[.val (.long p0), .second, .val (.long p1), .second, .val (.long p2), .second, .val (.long p3), .second, .val (.int p4), .val (.int (0 : Int32)), .val (.long (0 : Int64)), .second, .val (.long (0 : Int64)), .second, .unset, .unset, .unset, .unset, .unset, .unset, .unset, .unset, .unset, .unset, .unset, .unset, .unset, .unset, .unset, .unset, .unset, .unset, .unset, .unset, .unset, .unset, .unset, .unset, .unset, .unset, .unset, .unset, .unset, .unset]) rfl ?_
      show Steps p.tables e below (T0.setTop (mkF m 43 _ [])) t
      refine XS.iload P0.here P0.x rfl (hb hby at_43) rfl ?_
      show Steps p.tables e below (T0.setTop (mkF m 45 _ [(.int (0 : Int32))])) t
      refine XS.iconst P0.here P0.x rfl (hb hby at_45) ?_
      show Steps p.tables e below (T0.setTop (mkF m 46 _ [(.int (3 : Int32)), (.int (0 : Int32))])) t
      refine XS.icmpYes P0.here P0.x rfl (pc0 := 46) (pc' := 55) rfl (hb hby at_46) rfl (iiW_lt_t (by decide)) (by decide) (by decide) ?_
      show Steps p.tables e below (T0.setTop (mkF m 55 _ [])) t
      refine XS.lconst P0.here P0.x rfl (hb hby at_55) ?_
      show Steps p.tables e below (T0.setTop (mkF m 56 _ [(.long (0 : Int64))])) t
      refine XS.lstore P0.here P0.x rfl (hb hby at_56) rfl (l' := #[.val (.long p0), .second, .val (.long p1), .second, .val (.long p2), .second, .val (.long p3), .second, .val (.int p4), .val (.int (0 : Int32)), .val (.long (0 : Int64)), .second, .val (.long (0 : Int64)), .second, .val (.long (0 : Int64)), .second, .unset, .unset, .unset, .unset, .unset, .unset, .unset, .unset, .unset, .unset, .unset, .unset, .unset, .unset, .unset, .unset, .unset, .unset, .unset, .unset, .unset, .unset, .unset, .unset, .unset, .unset, .unset, .unset]) rfl ?_
      show Steps p.tables e below (T0.setTop (mkF m 58 _ [])) t
      refine XS.iload P0.here P0.x rfl (hb hby at_58) rfl ?_
      show Steps p.tables e below (T0.setTop (mkF m 60 _ [(.int (0 : Int32))])) t
      refine XS.iconst P0.here P0.x rfl (hb hby at_60) ?_
      show Steps p.tables e below (T0.setTop (mkF m 61 _ [(.int (4 : Int32)), (.int (0 : Int32))])) t
      refine XS.icmpYes P0.here P0.x rfl (pc0 := 61) (pc' := 73) rfl (hb hby at_61) rfl (iiW_lt_t (by decide)) (by decide) (by decide) ?_
      show Steps p.tables e below (T0.setTop (mkF m 73 _ [])) t
      refine XS.lconst P0.here P0.x rfl (hb hby at_73) ?_
      show Steps p.tables e below (T0.setTop (mkF m 74 _ [(.long (0 : Int64))])) t
      refine XS.lstore P0.here P0.x rfl (hb hby at_74) rfl (l' := #[.val (.long p0), .second, .val (.long p1), .second, .val (.long p2), .second, .val (.long p3), .second, .val (.int p4), .val (.int (0 : Int32)), .val (.long (0 : Int64)), .second, .val (.long (0 : Int64)), .second, .val (.long (0 : Int64)), .second, .val (.long (0 : Int64)), .second, .unset, .unset, .unset, .unset, .unset, .unset, .unset, .unset, .unset, .unset, .unset, .unset, .unset, .unset, .unset, .unset, .unset, .unset, .unset, .unset, .unset, .unset, .unset, .unset, .unset, .unset]) rfl ?_
      show Steps p.tables e below (T0.setTop (mkF m 76 _ [])) t
      refine XS.iload P0.here P0.x rfl (hb hby at_76) rfl ?_
      show Steps p.tables e below (T0.setTop (mkF m 78 _ [(.int (0 : Int32))])) t
      refine XS.iconst P0.here P0.x rfl (hb hby at_78) ?_
      show Steps p.tables e below (T0.setTop (mkF m 79 _ [(.int (5 : Int32)), (.int (0 : Int32))])) t
      refine XS.icmpYes P0.here P0.x rfl (pc0 := 79) (pc' := 89) rfl (hb hby at_79) rfl (iiW_lt_t (by decide)) (by decide) (by decide) ?_
      show Steps p.tables e below (T0.setTop (mkF m 89 _ [])) t
      refine XS.lconst P0.here P0.x rfl (hb hby at_89) ?_
      show Steps p.tables e below (T0.setTop (mkF m 90 _ [(.long (0 : Int64))])) t
      refine XS.lstore P0.here P0.x rfl (hb hby at_90) rfl (l' := #[.val (.long p0), .second, .val (.long p1), .second, .val (.long p2), .second, .val (.long p3), .second, .val (.int p4), .val (.int (0 : Int32)), .val (.long (0 : Int64)), .second, .val (.long (0 : Int64)), .second, .val (.long (0 : Int64)), .second, .val (.long (0 : Int64)), .second, .val (.long (0 : Int64)), .second, .unset, .unset, .unset, .unset, .unset, .unset, .unset, .unset, .unset, .unset, .unset, .unset, .unset, .unset, .unset, .unset, .unset, .unset, .unset, .unset, .unset, .unset, .unset, .unset]) rfl ?_
      show Steps p.tables e below (T0.setTop (mkF m 92 _ [])) t
      refine XS.iload P0.here P0.x rfl (hb hby at_92) rfl ?_
      show Steps p.tables e below (T0.setTop (mkF m 94 _ [(.int (0 : Int32))])) t
      refine XS.bipush P0.here P0.x rfl (hb hby at_94) ?_
      show Steps p.tables e below (T0.setTop (mkF m 96 _ [(.int (6 : Int32)), (.int (0 : Int32))])) t
      refine XS.icmpYes P0.here P0.x rfl (pc0 := 96) (pc' := 109) rfl (hb hby at_96) rfl (iiW_lt_t (by decide)) (by decide) (by decide) ?_
      show Steps p.tables e below (T0.setTop (mkF m 109 _ [])) t
      refine XS.lconst P0.here P0.x rfl (hb hby at_109) ?_
      show Steps p.tables e below (T0.setTop (mkF m 110 _ [(.long (0 : Int64))])) t
      refine XS.lstore P0.here P0.x rfl (hb hby at_110) rfl (l' := #[.val (.long p0), .second, .val (.long p1), .second, .val (.long p2), .second, .val (.long p3), .second, .val (.int p4), .val (.int (0 : Int32)), .val (.long (0 : Int64)), .second, .val (.long (0 : Int64)), .second, .val (.long (0 : Int64)), .second, .val (.long (0 : Int64)), .second, .val (.long (0 : Int64)), .second, .val (.long (0 : Int64)), .second, .unset, .unset, .unset, .unset, .unset, .unset, .unset, .unset, .unset, .unset, .unset, .unset, .unset, .unset, .unset, .unset, .unset, .unset, .unset, .unset, .unset, .unset]) rfl ?_
      show Steps p.tables e below (T0.setTop (mkF m 112 _ [])) t
      refine XS.iload P0.here P0.x rfl (hb hby at_112) rfl ?_
      show Steps p.tables e below (T0.setTop (mkF m 114 _ [(.int (0 : Int32))])) t
      refine XS.bipush P0.here P0.x rfl (hb hby at_114) ?_
      show Steps p.tables e below (T0.setTop (mkF m 116 _ [(.int (7 : Int32)), (.int (0 : Int32))])) t
      refine XS.icmpYes P0.here P0.x rfl (pc0 := 116) (pc' := 126) rfl (hb hby at_116) rfl (iiW_lt_t (by decide)) (by decide) (by decide) ?_
      show Steps p.tables e below (T0.setTop (mkF m 126 _ [])) t
      refine XS.lconst P0.here P0.x rfl (hb hby at_126) ?_
      show Steps p.tables e below (T0.setTop (mkF m 127 _ [(.long (0 : Int64))])) t
      refine XS.lstore P0.here P0.x rfl (hb hby at_127) rfl (l' := #[.val (.long p0), .second, .val (.long p1), .second, .val (.long p2), .second, .val (.long p3), .second, .val (.int p4), .val (.int (0 : Int32)), .val (.long (0 : Int64)), .second, .val (.long (0 : Int64)), .second, .val (.long (0 : Int64)), .second, .val (.long (0 : Int64)), .second, .val (.long (0 : Int64)), .second, .val (.long (0 : Int64)), .second, .val (.long (0 : Int64)), .second, .unset, .unset, .unset, .unset, .unset, .unset, .unset, .unset, .unset, .unset, .unset, .unset, .unset, .unset, .unset, .unset, .unset, .unset, .unset, .unset]) rfl ?_
      show Steps p.tables e below (T0.setTop (mkF m 129 _ [])) t
      refine XS.iload P0.here P0.x rfl (hb hby at_129) rfl ?_
      show Steps p.tables e below (T0.setTop (mkF m 131 _ [(.int (0 : Int32))])) t
      refine XS.bipush P0.here P0.x rfl (hb hby at_131) ?_
      show Steps p.tables e below (T0.setTop (mkF m 133 _ [(.int (8 : Int32)), (.int (0 : Int32))])) t
      refine XS.icmpYes P0.here P0.x rfl (pc0 := 133) (pc' := 146) rfl (hb hby at_133) rfl (iiW_lt_t (by decide)) (by decide) (by decide) ?_
      show Steps p.tables e below (T0.setTop (mkF m 146 _ [])) t
      refine XS.lconst P0.here P0.x rfl (hb hby at_146) ?_
      show Steps p.tables e below (T0.setTop (mkF m 147 _ [(.long (0 : Int64))])) t
      refine XS.lstore P0.here P0.x rfl (hb hby at_147) rfl (l' := #[.val (.long p0), .second, .val (.long p1), .second, .val (.long p2), .second, .val (.long p3), .second, .val (.int p4), .val (.int (0 : Int32)), .val (.long (0 : Int64)), .second, .val (.long (0 : Int64)), .second, .val (.long (0 : Int64)), .second, .val (.long (0 : Int64)), .second, .val (.long (0 : Int64)), .second, .val (.long (0 : Int64)), .second, .val (.long (0 : Int64)), .second, .val (.long (0 : Int64)), .second, .unset, .unset, .unset, .unset, .unset, .unset, .unset, .unset, .unset, .unset, .unset, .unset, .unset, .unset, .unset, .unset, .unset, .unset]) rfl ?_
      exact kk
    exact tail 0 (0 : Int32) (0 : Int64) (0 : Int64) (0 : Int64) (0 : Int64) (0 : Int64) (0 : Int64) (0 : Int64) (0 : Int64) (by decide) (by decide) (by decide) (by decide) (by decide) (by decide) (by decide) (by decide) (by decide) (by decide) (fun _ => by decide) (fun _ => by decide) (fun _ => by decide) (fun _ => by decide) (fun _ => by decide) (fun _ => by decide) (fun _ => by decide) (fun _ => by decide)
  · refine Done.step (T' := T0) (g' := (mkF m 149 #[.val (.long p0), .second, .val (.long p1), .second, .val (.long p2), .second, .val (.long p3), .second, .val (.int p4), .val (.int (1 : Int32)), .val (.long p0.toInt32.toInt64), .second, .val (.long (0 : Int64)), .second, .val (.long (0 : Int64)), .second, .val (.long (0 : Int64)), .second, .val (.long (0 : Int64)), .second, .val (.long (0 : Int64)), .second, .val (.long (0 : Int64)), .second, .val (.long (0 : Int64)), .second, .unset, .unset, .unset, .unset, .unset, .unset, .unset, .unset, .unset, .unset, .unset, .unset, .unset, .unset, .unset, .unset, .unset, .unset] [])) (fun t kk => ?_) ?_
    · show Steps p.tables e below (T0.setTop (mkF m 10 _ [])) t
      refine XS.iload P0.here P0.x rfl (hb hby at_10) rfl ?_
      show Steps p.tables e below (T0.setTop (mkF m 12 _ [(.int (1 : Int32))])) t
      refine XS.iconst P0.here P0.x rfl (hb hby at_12) ?_
      show Steps p.tables e below (T0.setTop (mkF m 13 _ [(.int (1 : Int32)), (.int (1 : Int32))])) t
      refine XS.icmpNo P0.here P0.x rfl (hb hby at_13) rfl (iiW_lt_f (by decide)) ?_
      show Steps p.tables e below (T0.setTop (mkF m 16 _ [])) t
      refine XS.lloadN P0.here P0.x rfl (hb hby at_16) rfl ?_
      show Steps p.tables e below (T0.setTop (mkF m 17 _ [(.long p0)])) t
      refine XS.l2i P0.here P0.x rfl (hb hby at_17) rfl ?_
      show Steps p.tables e below (T0.setTop (mkF m 18 _ [(.int p0.toInt32)])) t
      refine XS.i2l P0.here P0.x rfl (hb hby at_18) rfl ?_
      show Steps p.tables e below (T0.setTop (mkF m 19 _ [(.long p0.toInt32.toInt64)])) t
      refine XS.goto P0.here P0.x rfl (pc0 := 19) (pc' := 23) rfl (hb hby at_19) (by decide) (by decide) ?_
      show Steps p.tables e below (T0.setTop (mkF m 23 _ [(.long p0.toInt32.toInt64)])) t
      refine XS.lstore P0.here P0.x rfl (hb hby at_23) rfl (l' := #[.val (.long p0), .second, .val (.long p1), .second, .val (.long p2), .second, .val (.long p3), .second, .val (.int p4), .val (.int (1 : Int32)), .val (.long p0.toInt32.toInt64), .second, .unset, .unset, .unset, .unset, .unset, .unset, .unset, .unset, .unset, .unset, .unset, .unset, .unset, .unset, .unset, .unset, .unset, .unset, .unset, .unset, .unset, .unset, .unset, .unset, .unset, .unset, .unset, .unset, .unset, .unset, .unset, .unset]) rfl ?_
      show Steps p.tables e below (T0.setTop (mkF m 25 _ [])) t
      refine XS.iload P0.here P0.x rfl (hb hby at_25) rfl ?_
      show Steps p.tables e below (T0.setTop (mkF m 27 _ [(.int (1 : Int32))])) t
      refine XS.iconst P0.here P0.x rfl (hb hby at_27) ?_
      show Steps p.tables e below (T0.setTop (mkF m 28 _ [(.int (2 : Int32)), (.int (1 : Int32))])) t
      refine XS.icmpYes P0.here P0.x rfl (pc0 := 28) (pc' := 40) rfl (hb hby at_28) rfl (iiW_lt_t (by decide)) (by decide) (by decide) ?_
      show Steps p.tables e below (T0.setTop (mkF m 40 _ [])) t
      refine XS.lconst P0.here P0.x rfl (hb hby at_40) ?_
      show Steps p.tables e below (T0.setTop (mkF m 41 _ [(.long (0 : Int64))])) t
      refine XS.lstore P0.here P0.x rfl (hb hby at_41) rfl (l' := #[.val (.long p0), .second, .val (.long p1), .second, .val (.long p2), .second, .val (.long p3), .second, .val (.int p4), .val (.int (1 : Int32)), .val (.long p0.toInt32.toInt64), .second, .val (.long (0 : Int64)), .second, .unset, .unset, .unset, .unset, .unset, .unset, .unset, .unset, .unset, .unset, .unset, .unset, .unset, .unset, .unset, .unset, .unset, .unset, .unset, .unset, .unset, .unset, .unset, .unset, .unset, .unset, .unset, .unset, .unset, .unset]) rfl ?_
      show Steps p.tables e below (T0.setTop (mkF m 43 _ [])) t
      refine XS.iload P0.here P0.x rfl (hb hby at_43) rfl ?_
      show Steps p.tables e below (T0.setTop (mkF m 45 _ [(.int (1 : Int32))])) t
      refine XS.iconst P0.here P0.x rfl (hb hby at_45) ?_
      show Steps p.tables e below (T0.setTop (mkF m 46 _ [(.int (3 : Int32)), (.int (1 : Int32))])) t
      refine XS.icmpYes P0.here P0.x rfl (pc0 := 46) (pc' := 55) rfl (hb hby at_46) rfl (iiW_lt_t (by decide)) (by decide) (by decide) ?_
      show Steps p.tables e below (T0.setTop (mkF m 55 _ [])) t
      refine XS.lconst P0.here P0.x rfl (hb hby at_55) ?_
      show Steps p.tables e below (T0.setTop (mkF m 56 _ [(.long (0 : Int64))])) t
      refine XS.lstore P0.here P0.x rfl (hb hby at_56) rfl (l' := #[.val (.long p0), .second, .val (.long p1), .second, .val (.long p2), .second, .val (.long p3), .second, .val (.int p4), .val (.int (1 : Int32)), .val (.long p0.toInt32.toInt64), .second, .val (.long (0 : Int64)), .second, .val (.long (0 : Int64)), .second, .unset, .unset, .unset, .unset, .unset, .unset, .unset, .unset, .unset, .unset, .unset, .unset, .unset, .unset, .unset, .unset, .unset, .unset, .unset, .unset, .unset, .unset, .unset, .unset, .unset, .unset, .unset, .unset]) rfl ?_
      show Steps p.tables e below (T0.setTop (mkF m 58 _ [])) t
      refine XS.iload P0.here P0.x rfl (hb hby at_58) rfl ?_
      show Steps p.tables e below (T0.setTop (mkF m 60 _ [(.int (1 : Int32))])) t
      refine XS.iconst P0.here P0.x rfl (hb hby at_60) ?_
      show Steps p.tables e below (T0.setTop (mkF m 61 _ [(.int (4 : Int32)), (.int (1 : Int32))])) t
      refine XS.icmpYes P0.here P0.x rfl (pc0 := 61) (pc' := 73) rfl (hb hby at_61) rfl (iiW_lt_t (by decide)) (by decide) (by decide) ?_
      show Steps p.tables e below (T0.setTop (mkF m 73 _ [])) t
      refine XS.lconst P0.here P0.x rfl (hb hby at_73) ?_
      show Steps p.tables e below (T0.setTop (mkF m 74 _ [(.long (0 : Int64))])) t
      refine XS.lstore P0.here P0.x rfl (hb hby at_74) rfl (l' := #[.val (.long p0), .second, .val (.long p1), .second, .val (.long p2), .second, .val (.long p3), .second, .val (.int p4), .val (.int (1 : Int32)), .val (.long p0.toInt32.toInt64), .second, .val (.long (0 : Int64)), .second, .val (.long (0 : Int64)), .second, .val (.long (0 : Int64)), .second, .unset, .unset, .unset, .unset, .unset, .unset, .unset, .unset, .unset, .unset, .unset, .unset, .unset, .unset, .unset, .unset, .unset, .unset, .unset, .unset, .unset, .unset, .unset, .unset, .unset, .unset]) rfl ?_
      show Steps p.tables e below (T0.setTop (mkF m 76 _ [])) t
      refine XS.iload P0.here P0.x rfl (hb hby at_76) rfl ?_
      show Steps p.tables e below (T0.setTop (mkF m 78 _ [(.int (1 : Int32))])) t
      refine XS.iconst P0.here P0.x rfl (hb hby at_78) ?_
      show Steps p.tables e below (T0.setTop (mkF m 79 _ [(.int (5 : Int32)), (.int (1 : Int32))])) t
      refine XS.icmpYes P0.here P0.x rfl (pc0 := 79) (pc' := 89) rfl (hb hby at_79) rfl (iiW_lt_t (by decide)) (by decide) (by decide) ?_
      show Steps p.tables e below (T0.setTop (mkF m 89 _ [])) t
      refine XS.lconst P0.here P0.x rfl (hb hby at_89) ?_
      show Steps p.tables e below (T0.setTop (mkF m 90 _ [(.long (0 : Int64))])) t
      refine XS.lstore P0.here P0.x rfl (hb hby at_90) rfl (l' := #[.val (.long p0), .second, .val (.long p1), .second, .val (.long p2), .second, .val (.long p3), .second, .val (.int p4), .val (.int (1 : Int32)), .val (.long p0.toInt32.toInt64), .second, .val (.long (0 : Int64)), .second, .val (.long (0 : Int64)), .second, .val (.long (0 : Int64)), .second, .val (.long (0 : Int64)), .second, .unset, .unset, .unset, .unset, .unset, .unset, .unset, .unset, .unset, .unset, .unset, .unset, .unset, .unset, .unset, .unset, .unset, .unset, .unset, .unset, .unset, .unset, .unset, .unset]) rfl ?_
      show Steps p.tables e below (T0.setTop (mkF m 92 _ [])) t
      refine XS.iload P0.here P0.x rfl (hb hby at_92) rfl ?_
      show Steps p.tables e below (T0.setTop (mkF m 94 _ [(.int (1 : Int32))])) t
      refine XS.bipush P0.here P0.x rfl (hb hby at_94) ?_
      show Steps p.tables e below (T0.setTop (mkF m 96 _ [(.int (6 : Int32)), (.int (1 : Int32))])) t
      refine XS.icmpYes P0.here P0.x rfl (pc0 := 96) (pc' := 109) rfl (hb hby at_96) rfl (iiW_lt_t (by decide)) (by decide) (by decide) ?_
      show Steps p.tables e below (T0.setTop (mkF m 109 _ [])) t
      refine XS.lconst P0.here P0.x rfl (hb hby at_109) ?_
      show Steps p.tables e below (T0.setTop (mkF m 110 _ [(.long (0 : Int64))])) t
      refine XS.lstore P0.here P0.x rfl (hb hby at_110) rfl (l' := #[.val (.long p0), .second, .val (.long p1), .second, .val (.long p2), .second, .val (.long p3), .second, .val (.int p4), .val (.int (1 : Int32)), .val (.long p0.toInt32.toInt64), .second, .val (.long (0 : Int64)), .second, .val (.long (0 : Int64)), .second, .val (.long (0 : Int64)), .second, .val (.long (0 : Int64)), .second, .val (.long (0 : Int64)), .second, .unset, .unset, .unset, .unset, .unset, .unset, .unset, .unset, .unset, .unset, .unset, .unset, .unset, .unset, .unset, .unset, .unset, .unset, .unset, .unset, .unset, .unset]) rfl ?_
      show Steps p.tables e below (T0.setTop (mkF m 112 _ [])) t
      refine XS.iload P0.here P0.x rfl (hb hby at_112) rfl ?_
      show Steps p.tables e below (T0.setTop (mkF m 114 _ [(.int (1 : Int32))])) t
      refine XS.bipush P0.here P0.x rfl (hb hby at_114) ?_
      show Steps p.tables e below (T0.setTop (mkF m 116 _ [(.int (7 : Int32)), (.int (1 : Int32))])) t
      refine XS.icmpYes P0.here P0.x rfl (pc0 := 116) (pc' := 126) rfl (hb hby at_116) rfl (iiW_lt_t (by decide)) (by decide) (by decide) ?_
      show Steps p.tables e below (T0.setTop (mkF m 126 _ [])) t
      refine XS.lconst P0.here P0.x rfl (hb hby at_126) ?_
      show Steps p.tables e below (T0.setTop (mkF m 127 _ [(.long (0 : Int64))])) t
      refine XS.lstore P0.here P0.x rfl (hb hby at_127) rfl (l' := #[.val (.long p0), .second, .val (.long p1), .second, .val (.long p2), .second, .val (.long p3), .second, .val (.int p4), .val (.int (1 : Int32)), .val (.long p0.toInt32.toInt64), .second, .val (.long (0 : Int64)), .second, .val (.long (0 : Int64)), .second, .val (.long (0 : Int64)), .second, .val (.long (0 : Int64)), .second, .val (.long (0 : Int64)), .second, .val (.long (0 : Int64)), .second, .unset, .unset, .unset, .unset, .unset, .unset, .unset, .unset, .unset, .unset, .unset, .unset, .unset, .unset, .unset, .unset, .unset, .unset, .unset, .unset]) rfl ?_
      show Steps p.tables e below (T0.setTop (mkF m 129 _ [])) t
      refine XS.iload P0.here P0.x rfl (hb hby at_129) rfl ?_
      show Steps p.tables e below (T0.setTop (mkF m 131 _ [(.int (1 : Int32))])) t
      refine XS.bipush P0.here P0.x rfl (hb hby at_131) ?_
      show Steps p.tables e below (T0.setTop (mkF m 133 _ [(.int (8 : Int32)), (.int (1 : Int32))])) t
      refine XS.icmpYes P0.here P0.x rfl (pc0 := 133) (pc' := 146) rfl (hb hby at_133) rfl (iiW_lt_t (by decide)) (by decide) (by decide) ?_
      show Steps p.tables e below (T0.setTop (mkF m 146 _ [])) t
      refine XS.lconst P0.here P0.x rfl (hb hby at_146) ?_
      show Steps p.tables e below (T0.setTop (mkF m 147 _ [(.long (0 : Int64))])) t
      refine XS.lstore P0.here P0.x rfl (hb hby at_147) rfl (l' := #[.val (.long p0), .second, .val (.long p1), .second, .val (.long p2), .second, .val (.long p3), .second, .val (.int p4), .val (.int (1 : Int32)), .val (.long p0.toInt32.toInt64), .second, .val (.long (0 : Int64)), .second, .val (.long (0 : Int64)), .second, .val (.long (0 : Int64)), .second, .val (.long (0 : Int64)), .second, .val (.long (0 : Int64)), .second, .val (.long (0 : Int64)), .second, .val (.long (0 : Int64)), .second, .unset, .unset, .unset, .unset, .unset, .unset, .unset, .unset, .unset, .unset, .unset, .unset, .unset, .unset, .unset, .unset, .unset, .unset]) rfl ?_
      exact kk
    exact tail 1 (1 : Int32) p0.toInt32.toInt64 (0 : Int64) (0 : Int64) (0 : Int64) (0 : Int64) (0 : Int64) (0 : Int64) (0 : Int64) (by decide) (by decide) (own_i2lb _) (by decide) (by decide) (by decide) (by decide) (by decide) (by decide) (by decide) (fun hh => absurd hh (by decide)) (fun _ => by decide) (fun _ => by decide) (fun _ => by decide) (fun _ => by decide) (fun _ => by decide) (fun _ => by decide) (fun _ => by decide)
  · refine Done.step (T' := T0) (g' := (mkF m 149 #[.val (.long p0), .second, .val (.long p1), .second, .val (.long p2), .second, .val (.long p3), .second, .val (.int p4), .val (.int (2 : Int32)), .val (.long p0.toInt32.toInt64), .second, .val (.long (p0 >>> ((32 : Int32) &&& 0x3f).toInt64).toInt32.toInt64), .second, .val (.long (0 : Int64)), .second, .val (.long (0 : Int64)), .second, .val (.long (0 : Int64)), .second, .val (.long (0 : Int64)), .second, .val (.long (0 : Int64)), .second, .val (.long (0 : Int64)), .second, .unset, .unset, .unset, .unset, .unset, .unset, .unset, .unset, .unset, .unset, .unset, .unset, .unset, .unset, .unset, .unset, .unset, .unset] [])) (fun t kk => ?_) ?_
    · show Steps p.tables e below (T0.setTop (mkF m 10 _ [])) t
      refine XS.iload P0.here P0.x rfl (hb hby at_10) rfl ?_
      show Steps p.tables e below (T0.setTop (mkF m 12 _ [(.int (2 : Int32))])) t
      refine XS.iconst P0.here P0.x rfl (hb hby at_12) ?_
      show Steps p.tables e below (T0.setTop (mkF m 13 _ [(.int (1 : Int32)), (.int (2 : Int32))])) t
      refine XS.icmpNo P0.here P0.x rfl (hb hby at_13) rfl (iiW_lt_f (by decide)) ?_
      show Steps p.tables e below (T0.setTop (mkF m 16 _ [])) t
      refine XS.lloadN P0.here P0.x rfl (hb hby at_16) rfl ?_
      show Steps p.tables e below (T0.setTop (mkF m 17 _ [(.long p0)])) t
      refine XS.l2i P0.here P0.x rfl (hb hby at_17) rfl ?_
      show Steps p.tables e below (T0.setTop (mkF m 18 _ [(.int p0.toInt32)])) t
      refine XS.i2l P0.here P0.x rfl (hb hby at_18) rfl ?_
      show Steps p.tables e below (T0.setTop (mkF m 19 _ [(.long p0.toInt32.toInt64)])) t
      refine XS.goto P0.here P0.x rfl (pc0 := 19) (pc' := 23) rfl (hb hby at_19) (by decide) (by decide) ?_
      show Steps p.tables e below (T0.setTop (mkF m 23 _ [(.long p0.toInt32.toInt64)])) t
      refine XS.lstore P0.here P0.x rfl (hb hby at_23) rfl (l' := #[.val (.long p0), .second, .val (.long p1), .second, .val (.long p2), .second, .val (.long p3), .second, .val (.int p4), .val (.int (2 : Int32)), .val (.long p0.toInt32.toInt64), .second, .unset, .unset, .unset, .unset, .unset, .unset, .unset, .unset, .unset, .unset, .unset, .unset, .unset, .unset, .unset, .unset, .unset, .unset, .unset, .unset, .unset, .unset, .unset, .unset, .unset, .unset, .unset, .unset, .unset, .unset, .unset, .unset]) rfl ?_
      show Steps p.tables e below (T0.setTop (mkF m 25 _ [])) t
      refine XS.iload P0.here P0.x rfl (hb hby at_25) rfl ?_
      show Steps p.tables e below (T0.setTop (mkF m 27 _ [(.int (2 : Int32))])) t
      refine XS.iconst P0.here P0.x rfl (hb hby at_27) ?_
      show Steps p.tables e below (T0.setTop (mkF m 28 _ [(.int (2 : Int32)), (.int (2 : Int32))])) t
      refine XS.icmpNo P0.here P0.x rfl (hb hby at_28) rfl (iiW_lt_f (by decide)) ?_
      show Steps p.tables e below (T0.setTop (mkF m 31 _ [])) t
      refine XS.lloadN P0.here P0.x rfl (hb hby at_31) rfl ?_
      show Steps p.tables e below (T0.setTop (mkF m 32 _ [(.long p0)])) t
      refine XS.bipush P0.here P0.x rfl (hb hby at_32) ?_
      show Steps p.tables e below (T0.setTop (mkF m 34 _ [(.int (32 : Int32)), (.long p0)])) t
      refine XS.lshr P0.here P0.x rfl (hb hby at_34) rfl ?_
      show Steps p.tables e below (T0.setTop (mkF m 35 _ [(.long (p0 >>> ((32 : Int32) &&& 0x3f).toInt64))])) t
      refine XS.l2i P0.here P0.x rfl (hb hby at_35) rfl ?_
      show Steps p.tables e below (T0.setTop (mkF m 36 _ [(.int (p0 >>> ((32 : Int32) &&& 0x3f).toInt64).toInt32)])) t
      refine XS.i2l P0.here P0.x rfl (hb hby at_36) rfl ?_
      show Steps p.tables e below (T0.setTop (mkF m 37 _ [(.long (p0 >>> ((32 : Int32) &&& 0x3f).toInt64).toInt32.toInt64)])) t
      refine XS.goto P0.here P0.x rfl (pc0 := 37) (pc' := 41) rfl (hb hby at_37) (by decide) (by decide) ?_
      show Steps p.tables e below (T0.setTop (mkF m 41 _ [(.long (p0 >>> ((32 : Int32) &&& 0x3f).toInt64).toInt32.toInt64)])) t
      refine XS.lstore P0.here P0.x rfl (hb hby at_41) rfl (l' := #[.val (.long p0), .second, .val (.long p1), .second, .val (.long p2), .second, .val (.long p3), .second, .val (.int p4), .val (.int (2 : Int32)), .val (.long p0.toInt32.toInt64), .second, .val (.long (p0 >>> ((32 : Int32) &&& 0x3f).toInt64).toInt32.toInt64), .second, .unset, .unset, .unset, .unset, .unset, .unset, .unset, .unset, .unset, .unset, .unset, .unset, .unset, .unset, .unset, .unset, .unset, .unset, .unset, .unset, .unset, .unset, .unset, .unset, .unset, .unset, .unset, .unset, .unset, .unset]) rfl ?_
      show Steps p.tables e below (T0.setTop (mkF m 43 _ [])) t
      refine XS.iload P0.here P0.x rfl (hb hby at_43) rfl ?_
      show Steps p.tables e below (T0.setTop (mkF m 45 _ [(.int (2 : Int32))])) t
      refine XS.iconst P0.here P0.x rfl (hb hby at_45) ?_
      show Steps p.tables e below (T0.setTop (mkF m 46 _ [(.int (3 : Int32)), (.int (2 : Int32))])) t
      refine XS.icmpYes P0.here P0.x rfl (pc0 := 46) (pc' := 55) rfl (hb hby at_46) rfl (iiW_lt_t (by decide)) (by decide) (by decide) ?_
      show Steps p.tables e below (T0.setTop (mkF m 55 _ [])) t
      refine XS.lconst P0.here P0.x rfl (hb hby at_55) ?_
      show Steps p.tables e below (T0.setTop (mkF m 56 _ [(.long (0 : Int64))])) t
      refine XS.lstore P0.here P0.x rfl (hb hby at_56) rfl (l' := #[.val (.long p0), .second, .val (.long p1), .second, .val (.long p2), .second, .val (.long p3), .second, .val (.int p4), .val (.int (2 : Int32)), .val (.long p0.toInt32.toInt64), .second, .val (.long (p0 >>> ((32 : Int32) &&& 0x3f).toInt64).toInt32.toInt64), .second, .val (.long (0 : Int64)), .second, .unset, .unset, .unset, .unset, .unset, .unset, .unset, .unset, .unset, .unset, .unset, .unset, .unset, .unset, .unset, .unset, .unset, .unset, .unset, .unset, .unset, .unset, .unset, .unset, .unset, .unset, .unset, .unset]) rfl ?_
      show Steps p.tables e below (T0.setTop (mkF m 58 _ [])) t
      refine XS.iload P0.here P0.x rfl (hb hby at_58) rfl ?_
      show Steps p.tables e below (T0.setTop (mkF m 60 _ [(.int (2 : Int32))])) t
      refine XS.iconst P0.here P0.x rfl (hb hby at_60) ?_
      show Steps p.tables e below (T0.setTop (mkF m 61 _ [(.int (4 : Int32)), (.int (2 : Int32))])) t
      refine XS.icmpYes P0.here P0.x rfl (pc0 := 61) (pc' := 73) rfl (hb hby at_61) rfl (iiW_lt_t (by decide)) (by decide) (by decide) ?_
      show Steps p.tables e below (T0.setTop (mkF m 73 _ [])) t
      refine XS.lconst P0.here P0.x rfl (hb hby at_73) ?_
      show Steps p.tables e below (T0.setTop (mkF m 74 _ [(.long (0 : Int64))])) t
      refine XS.lstore P0.here P0.x rfl (hb hby at_74) rfl (l' := #[.val (.long p0), .second, .val (.long p1), .second, .val (.long p2), .second, .val (.long p3), .second, .val (.int p4), .val (.int (2 : Int32)), .val (.long p0.toInt32.toInt64), .second, .val (.long (p0 >>> ((32 : Int32) &&& 0x3f).toInt64).toInt32.toInt64), .second, .val (.long (0 : Int64)), .second, .val (.long (0 : Int64)), .second, .unset, .unset, .unset, .unset, .unset, .unset, .unset, .unset, .unset, .unset, .unset, .unset, .unset, .unset, .unset, .unset, .unset, .unset, .unset, .unset, .unset, .unset, .unset, .unset, .unset, .unset]) rfl ?_
      show Steps p.tables e below (T0.setTop (mkF m 76 _ [])) t
      refine XS.iload P0.here P0.x rfl (hb hby at_76) rfl ?_
      show Steps p.tables e below (T0.setTop (mkF m 78 _ [(.int (2 : Int32))])) t
      refine XS.iconst P0.here P0.x rfl (hb hby at_78) ?_
      show Steps p.tables e below (T0.setTop (mkF m 79 _ [(.int (5 : Int32)), (.int (2 : Int32))])) t
      refine XS.icmpYes P0.here P0.x rfl (pc0 := 79) (pc' := 89) rfl (hb hby at_79) rfl (iiW_lt_t (by decide)) (by decide) (by decide) ?_
      show Steps p.tables e below (T0.setTop (mkF m 89 _ [])) t
      refine XS.lconst P0.here P0.x rfl (hb hby at_89) ?_
      show Steps p.tables e below (T0.setTop (mkF m 90 _ [(.long (0 : Int64))])) t
      refine XS.lstore P0.here P0.x rfl (hb hby at_90) rfl (l' := #[.val (.long p0), .second, .val (.long p1), .second, .val (.long p2), .second, .val (.long p3), .second, .val (.int p4), .val (.int (2 : Int32)), .val (.long p0.toInt32.toInt64), .second, .val (.long (p0 >>> ((32 : Int32) &&& 0x3f).toInt64).toInt32.toInt64), .second, .val (.long (0 : Int64)), .second, .val (.long (0 : Int64)), .second, .val (.long (0 : Int64)), .second, .unset, .unset, .unset, .unset, .unset, .unset, .unset, .unset, .unset, .unset, .unset, .unset, .unset, .unset, .unset, .unset, .unset, .unset, .unset, .unset, .unset, .unset, .unset, .unset]) rfl ?_
      show Steps p.tables e below (T0.setTop (mkF m 92 _ [])) t
      refine XS.iload P0.here P0.x rfl (hb hby at_92) rfl ?_
      show Steps p.tables e below (T0.setTop (mkF m 94 _ [(.int (2 : Int32))])) t
      refine XS.bipush P0.here P0.x rfl (hb hby at_94) ?_
      show Steps p.tables e below (T0.setTop (mkF m 96 _ [(.int (6 : Int32)), (.int (2 : Int32))])) t
      refine XS.icmpYes P0.here P0.x rfl (pc0 := 96) (pc' := 109) rfl (hb hby at_96) rfl (iiW_lt_t (by decide)) (by decide) (by decide) ?_
      show Steps p.tables e below (T0.setTop (mkF m 109 _ [])) t
      refine XS.lconst P0.here P0.x rfl (hb hby at_109) ?_
      show Steps p.tables e below (T0.setTop (mkF m 110 _ [(.long (0 : Int64))])) t
      refine XS.lstore P0.here P0.x rfl (hb hby at_110) rfl (l' := #[.val (.long p0), .second, .val (.long p1), .second, .val (.long p2), .second, .val (.long p3), .second, .val (.int p4), .val (.int (2 : Int32)), .val (.long p0.toInt32.toInt64), .second, .val (.long (p0 >>> ((32 : Int32) &&& 0x3f).toInt64).toInt32.toInt64), .second, .val (.long (0 : Int64)), .second, .val (.long (0 : Int64)), .second, .val (.long (0 : Int64)), .second, .val (.long (0 : Int64)), .second, .unset, .unset, .unset, .unset, .unset, .unset, .unset, .unset, .unset, .unset, .unset, .unset, .unset, .unset, .unset, .unset, .unset, .unset, .unset, .unset, .unset, .unset]) rfl ?_
      show Steps p.tables e below (T0.setTop (mkF m 112 _ [])) t
      refine XS.iload P0.here P0.x rfl (hb hby at_112) rfl ?_
      show Steps p.tables e below (T0.setTop (mkF m 114 _ [(.int (2 : Int32))])) t
      refine XS.bipush P0.here P0.x rfl (hb hby at_114) ?_
      show Steps p.tables e below (T0.setTop (mkF m 116 _ [(.int (7 : Int32)), (.int (2 : Int32))])) t
      refine XS.icmpYes P0.here P0.x rfl (pc0 := 116) (pc' := 126) rfl (hb hby at_116) rfl (iiW_lt_t (by decide)) (by decide) (by decide) ?_
      show Steps p.tables e below (T0.setTop (mkF m 126 _ [])) t
      refine XS.lconst P0.here P0.x rfl (hb hby at_126) ?_
      show Steps p.tables e below (T0.setTop (mkF m 127 _ [(.long (0 : Int64))])) t
      refine XS.lstore P0.here P0.x rfl (hb hby at_127) rfl (l' := #[.val (.long p0), .second, .val (.long p1), .second, .val (.long p2), .second, .val (.long p3), .second, .val (.int p4), .val (.int (2 : Int32)), .val (.long p0.toInt32.toInt64), .second, .val (.long (p0 >>> ((32 : Int32) &&& 0x3f).toInt64).toInt32.toInt64), .second, .val (.long (0 : Int64)), .second, .val (.long (0 : Int64)), .second, .val (.long (0 : Int64)), .second, .val (.long (0 : Int64)), .second, .val (.long (0 : Int64)), .second, .unset, .unset, .unset, .unset, .unset, .unset, .unset, .unset, .unset, .unset, .unset, .unset, .unset, .unset, .unset, .unset, .unset, .unset, .unset, .unset]) rfl ?_
      show Steps p.tables e below (T0.setTop (mkF m 129 _ [])) t
      refine XS.iload P0.here P0.x rfl (hb hby at_129) rfl ?_
      show Steps p.tables e below (T0.setTop (mkF m 131 _ [(.int (2 : Int32))])) t
      refine XS.bipush P0.here P0.x rfl (hb hby at_131) ?_
      show Steps p.tables e below (T0.setTop (mkF m 133 _ [(.int (8 : Int32)), (.int (2 : Int32))])) t
      refine XS.icmpYes P0.here P0.x rfl (pc0 := 133) (pc' := 146) rfl (hb hby at_133) rfl (iiW_lt_t (by decide)) (by decide) (by decide) ?_
      show Steps p.tables e below (T0.setTop (mkF m 146 _ [])) t
      refine XS.lconst P0.here P0.x rfl (hb hby at_146) ?_
      show Steps p.tables e below (T0.setTop (mkF m 147 _ [(.long (0 : Int64))])) t
      refine XS.lstore P0.here P0.x rfl (hb hby at_147) rfl (l' := #[.val (.long p0), .second, .val (.long p1), .second, .val (.long p2), .second, .val (.long p3), .second, .val (.int p4), .val (.int (2 : Int32)), .val (.long p0.toInt32.toInt64), .second, .val (.long (p0 >>> ((32 : Int32) &&& 0x3f).toInt64).toInt32.toInt64), .second, .val (.long (0 : Int64)), .second, .val (.long (0 : Int64)), .second, .val (.long (0 : Int64)), .second, .val (.long (0 : Int64)), .second, .val (.long (0 : Int64)), .second, .val (.long (0 : Int64)), .second, .unset, .unset, .unset, .unset, .unset, .unset, .unset, .unset, .unset, .unset, .unset, .unset, .unset, .unset, .unset, .unset, .unset, .unset]) rfl ?_
      exact kk
    exact tail 2 (2 : Int32) p0.toInt32.toInt64 (p0 >>> ((32 : Int32) &&& 0x3f).toInt64).toInt32.toInt64 (0 : Int64) (0 : Int64) (0 : Int64) (0 : Int64) (0 : Int64) (0 : Int64) (by decide) (by decide) (own_i2lb _) (own_i2lb _) (by decide) (by decide) (by decide) (by decide) (by decide) (by decide) (fun hh => absurd hh (by decide)) (fun hh => absurd hh (by decide)) (fun _ => by decide) (fun _ => by decide) (fun _ => by decide) (fun _ => by decide) (fun _ => by decide) (fun _ => by decide)
  · refine Done.step (T' := T0) (g' := (mkF m 149 #[.val (.long p0), .second, .val (.long p1), .second, .val (.long p2), .second, .val (.long p3), .second, .val (.int p4), .val (.int (3 : Int32)), .val (.long p0.toInt32.toInt64), .second, .val (.long (p0 >>> ((32 : Int32) &&& 0x3f).toInt64).toInt32.toInt64), .second, .val (.long p1.toInt32.toInt64), .second, .val (.long (0 : Int64)), .second, .val (.long (0 : Int64)), .second, .val (.long (0 : Int64)), .second, .val (.long (0 : Int64)), .second, .val (.long (0 : Int64)), .second, .unset, .unset, .unset, .unset, .unset, .unset, .unset, .unset, .unset, .unset, .unset, .unset, .unset, .unset, .unset, .unset, .unset, .unset] [])) (fun t kk => ?_) ?_
    · show Steps p.tables e below (T0.setTop (mkF m 10 _ [])) t
      refine XS.iload P0.here P0.x rfl (hb hby at_10) rfl ?_
      show Steps p.tables e below (T0.setTop (mkF m 12 _ [(.int (3 : Int32))])) t
      refine XS.iconst P0.here P0.x rfl (hb hby at_12) ?_
      show Steps p.tables e below (T0.setTop (mkF m 13 _ [(.int (1 : Int32)), (.int (3 : Int32))])) t
      refine XS.icmpNo P0.here P0.x rfl (hb hby at_13) rfl (iiW_lt_f (by decide)) ?_
      show Steps p.tables e below (T0.setTop (mkF m 16 _ [])) t
      refine XS.lloadN P0.here P0.x rfl (hb hby at_16) rfl ?_
      show Steps p.tables e below (T0.setTop (mkF m 17 _ [(.long p0)])) t
      refine XS.l2i P0.here P0.x rfl (hb hby at_17) rfl ?_
      show Steps p.tables e below (T0.setTop (mkF m 18 _ [(.int p0.toInt32)])) t
      refine XS.i2l P0.here P0.x rfl (hb hby at_18) rfl ?_
      show Steps p.tables e below (T0.setTop (mkF m 19 _ [(.long p0.toInt32.toInt64)])) t
      refine XS.goto P0.here P0.x rfl (pc0 := 19) (pc' := 23) rfl (hb hby at_19) (by decide) (by decide) ?_
      show Steps p.tables e below (T0.setTop (mkF m 23 _ [(.long p0.toInt32.toInt64)])) t
      refine XS.lstore P0.here P0.x rfl (hb hby at_23) rfl (l' := #[.val (.long p0), .second, .val (.long p1), .second, .val (.long p2), .second, .val (.long p3), .second, .val (.int p4), .val (.int (3 : Int32)), .val (.long p0.toInt32.toInt64), .second, .unset, .unset, .unset, .unset, .unset, .unset, .unset, .unset, .unset, .unset, .unset, .unset, .unset, .unset, .unset, .unset, .unset, .unset, .unset, .unset, .unset, .unset, .unset, .unset, .unset, .unset, .unset, .unset, .unset, .unset, .unset, .unset]) rfl ?_
      show Steps p.tables e below (T0.setTop (mkF m 25 _ [])) t
      refine XS.iload P0.here P0.x rfl (hb hby at_25) rfl ?_
      show Steps p.tables e below (T0.setTop (mkF m 27 _ [(.int (3 : Int32))])) t
      refine XS.iconst P0.here P0.x rfl (hb hby at_27) ?_
      show Steps p.tables e below (T0.setTop (mkF m 28 _ [(.int (2 : Int32)), (.int (3 : Int32))])) t
      refine XS.icmpNo P0.here P0.x rfl (hb hby at_28) rfl (iiW_lt_f (by decide)) ?_
      show Steps p.tables e below (T0.setTop (mkF m 31 _ [])) t
      refine XS.lloadN P0.here P0.x rfl (hb hby at_31) rfl ?_
      show Steps p.tables e below (T0.setTop (mkF m 32 _ [(.long p0)])) t
      refine XS.bipush P0.here P0.x rfl (hb hby at_32) ?_
      show Steps p.tables e below (T0.setTop (mkF m 34 _ [(.int (32 : Int32)), (.long p0)])) t
      refine XS.lshr P0.here P0.x rfl (hb hby at_34) rfl ?_
      show Steps p.tables e below (T0.setTop (mkF m 35 _ [(.long (p0 >>> ((32 : Int32) &&& 0x3f).toInt64))])) t
      refine XS.l2i P0.here P0.x rfl (hb hby at_35) rfl ?_
      show Steps p.tables e below (T0.setTop (mkF m 36 _ [(.int (p0 >>> ((32 : Int32) &&& 0x3f).toInt64).toInt32)])) t
      refine XS.i2l P0.here P0.x rfl (hb hby at_36) rfl ?_
      show Steps p.tables e below (T0.setTop (mkF m 37 _ [(.long (p0 >>> ((32 : Int32) &&& 0x3f).toInt64).toInt32.toInt64)])) t
      refine XS.goto P0.here P0.x rfl (pc0 := 37) (pc' := 41) rfl (hb hby at_37) (by decide) (by decide) ?_
      show Steps p.tables e below (T0.setTop (mkF m 41 _ [(.long (p0 >>> ((32 : Int32) &&& 0x3f).toInt64).toInt32.toInt64)])) t
      refine XS.lstore P0.here P0.x rfl (hb hby at_41) rfl (l' := #[.val (.long p0), .second, .val (.long p1), .second, .val (.long p2), .second, .val (.long p3), .second, .val (.int p4), .val (.int (3 : Int32)), .val (.long p0.toInt32.toInt64), .second, .val (.long (p0 >>> ((32 : Int32) &&& 0x3f).toInt64).toInt32.toInt64), .second, .unset, .unset, .unset, .unset, .unset, .unset, .unset, .unset, .unset, .unset, .unset, .unset, .unset, .unset, .unset, .unset, .unset, .unset, .unset, .unset, .unset, .unset, .unset, .unset, .unset, .unset, .unset, .unset, .unset, .unset]) rfl ?_
      show Steps p.tables e below (T0.setTop (mkF m 43 _ [])) t
      refine XS.iload P0.here P0.x rfl (hb hby at_43) rfl ?_
      show Steps p.tables e below (T0.setTop (mkF m 45 _ [(.int (3 : Int32))])) t
      refine XS.iconst P0.here P0.x rfl (hb hby at_45) ?_
      show Steps p.tables e below (T0.setTop (mkF m 46 _ [(.int (3 : Int32)), (.int (3 : Int32))])) t
      refine XS.icmpNo P0.here P0.x rfl (hb hby at_46) rfl (iiW_lt_f (by decide)) ?_
      show Steps p.tables e below (T0.setTop (mkF m 49 _ [])) t
      refine XS.lloadN P0.here P0.x rfl (hb hby at_49) rfl ?_
      show Steps p.tables e below (T0.setTop (mkF m 50 _ [(.long p1)])) t
      refine XS.l2i P0.here P0.x rfl (hb hby at_50) rfl ?_
      show Steps p.tables e below (T0.setTop (mkF m 51 _ [(.int p1.toInt32)])) t
      refine XS.i2l P0.here P0.x rfl (hb hby at_51) rfl ?_
      show Steps p.tables e below (T0.setTop (mkF m 52 _ [(.long p1.toInt32.toInt64)])) t
      refine XS.goto P0.here P0.x rfl (pc0 := 52) (pc' := 56) rfl (hb hby at_52) (by decide) (by decide) ?_
      show Steps p.tables e below (T0.setTop (mkF m 56 _ [(.long p1.toInt32.toInt64)])) t
      refine XS.lstore P0.here P0.x rfl (hb hby at_56) rfl (l' := #[.val (.long p0), .second, .val (.long p1), .second, .val (.long p2), .second, .val (.long p3), .second, .val (.int p4), .val (.int (3 : Int32)), .val (.long p0.toInt32.toInt64), .second, .val (.long (p0 >>> ((32 : Int32) &&& 0x3f).toInt64).toInt32.toInt64), .second, .val (.long p1.toInt32.toInt64), .second, .unset, .unset, .unset, .unset, .unset, .unset, .unset, .unset, .unset, .unset, .unset, .unset, .unset, .unset, .unset, .unset, .unset, .unset, .unset, .unset, .unset, .unset, .unset, .unset, .unset, .unset, .unset, .unset]) rfl ?_
      show Steps p.tables e below (T0.setTop (mkF m 58 _ [])) t
      refine XS.iload P0.here P0.x rfl (hb hby at_58) rfl ?_
      show Steps p.tables e below (T0.setTop (mkF m 60 _ [(.int (3 : Int32))])) t
      refine XS.iconst P0.here P0.x rfl (hb hby at_60) ?_
      show Steps p.tables e below (T0.setTop (mkF m 61 _ [(.int (4 : Int32)), (.int (3 : Int32))])) t
      refine XS.icmpYes P0.here P0.x rfl (pc0 := 61) (pc' := 73) rfl (hb hby at_61) rfl (iiW_lt_t (by decide)) (by decide) (by decide) ?_
      show Steps p.tables e below (T0.setTop (mkF m 73 _ [])) t
      refine XS.lconst P0.here P0.x rfl (hb hby at_73) ?_
      show Steps p.tables e below (T0.setTop (mkF m 74 _ [(.long (0 : Int64))])) t
      refine XS.lstore P0.here P0.x rfl (hb hby at_74) rfl (l' := #[.val (.long p0), .second, .val (.long p1), .second, .val (.long p2), .second, .val (.long p3), .second, .val (.int p4), .val (.int (3 : Int32)), .val (.long p0.toInt32.toInt64), .second, .val (.long (p0 >>> ((32 : Int32) &&& 0x3f).toInt64).toInt32.toInt64), .second, .val (.long p1.toInt32.toInt64), .second, .val (.long (0 : Int64)), .second, .unset, .unset, .unset, .unset, .unset, .unset, .unset, .unset, .unset, .unset, .unset, .unset, .unset, .unset, .unset, .unset, .unset, .unset, .unset, .unset, .unset, .unset, .unset, .unset, .unset, .unset]) rfl ?_
      show Steps p.tables e below (T0.setTop (mkF m 76 _ [])) t
      refine XS.iload P0.here P0.x rfl (hb hby at_76) rfl ?_
      show Steps p.tables e below (T0.setTop (mkF m 78 _ [(.int (3 : Int32))])) t
      refine XS.iconst P0.here P0.x rfl (hb hby at_78) ?_
      show Steps p.tables e below (T0.setTop (mkF m 79 _ [(.int (5 : Int32)), (.int (3 : Int32))])) t
      refine XS.icmpYes P0.here P0.x rfl (pc0 := 79) (pc' := 89) rfl (hb hby at_79) rfl (iiW_lt_t (by decide)) (by decide) (by decide) ?_
      show Steps p.tables e below (T0.setTop (mkF m 89 _ [])) t
      refine XS.lconst P0.here P0.x rfl (hb hby at_89) ?_
      show Steps p.tables e below (T0.setTop (mkF m 90 _ [(.long (0 : Int64))])) t
      refine XS.lstore P0.here P0.x rfl (hb hby at_90) rfl (l' := #[.val (.long p0), .second, .val (.long p1), .second, .val (.long p2), .second, .val (.long p3), .second, .val (.int p4), .val (.int (3 : Int32)), .val (.long p0.toInt32.toInt64), .second, .val (.long (p0 >>> ((32 : Int32) &&& 0x3f).toInt64).toInt32.toInt64), .second, .val (.long p1.toInt32.toInt64), .second, .val (.long (0 : Int64)), .second, .val (.long (0 : Int64)), .second, .unset, .unset, .unset, .unset, .unset, .unset, .unset, .unset, .unset, .unset, .unset, .unset, .unset, .unset, .unset, .unset, .unset, .unset, .unset, .unset, .unset, .unset, .unset, .unset]) rfl ?_
      show Steps p.tables e below (T0.setTop (mkF m 92 _ [])) t
      refine XS.iload P0.here P0.x rfl (hb hby at_92) rfl ?_
      show Steps p.tables e below (T0.setTop (mkF m 94 _ [(.int (3 : Int32))])) t
      refine XS.bipush P0.here P0.x rfl (hb hby at_94) ?_
      show Steps p.tables e below (T0.setTop (mkF m 96 _ [(.int (6 : Int32)), (.int (3 : Int32))])) t
      refine XS.icmpYes P0.here P0.x rfl (pc0 := 96) (pc' := 109) rfl (hb hby at_96) rfl (iiW_lt_t (by decide)) (by decide) (by decide) ?_
      show Steps p.tables e below (T0.setTop (mkF m 109 _ [])) t
      refine XS.lconst P0.here P0.x rfl (hb hby at_109) ?_
      show Steps p.tables e below (T0.setTop (mkF m 110 _ [(.long (0 : Int64))])) t
      refine XS.lstore P0.here P0.x rfl (hb hby at_110) rfl (l' := #[.val (.long p0), .second, .val (.long p1), .second, .val (.long p2), .second, .val (.long p3), .second, .val (.int p4), .val (.int (3 : Int32)), .val (.long p0.toInt32.toInt64), .second, .val (.long (p0 >>> ((32 : Int32) &&& 0x3f).toInt64).toInt32.toInt64), .second, .val (.long p1.toInt32.toInt64), .second, .val (.long (0 : Int64)), .second, .val (.long (0 : Int64)), .second, .val (.long (0 : Int64)), .second, .unset, .unset, .unset, .unset, .unset, .unset, .unset, .unset, .unset, .unset, .unset, .unset, .unset, .unset, .unset, .unset, .unset, .unset, .unset, .unset, .unset, .unset]) rfl ?_
      show Steps p.tables e below (T0.setTop (mkF m 112 _ [])) t
      refine XS.iload P0.here P0.x rfl (hb hby at_112) rfl ?_
      show Steps p.tables e below (T0.setTop (mkF m 114 _ [(.int (3 : Int32))])) t
      refine XS.bipush P0.here P0.x rfl (hb hby at_114) ?_
      show Steps p.tables e below (T0.setTop (mkF m 116 _ [(.int (7 : Int32)), (.int (3 : Int32))])) t
      refine XS.icmpYes P0.here P0.x rfl (pc0 := 116) (pc' := 126) rfl (hb hby at_116) rfl (iiW_lt_t (by decide)) (by decide) (by decide) ?_
      show Steps p.tables e below (T0.setTop (mkF m 126 _ [])) t
      refine XS.lconst P0.here P0.x rfl (hb hby at_126) ?_
      show Steps p.tables e below (T0.setTop (mkF m 127 _ [(.long (0 : Int64))])) t
      refine XS.lstore P0.here P0.x rfl (hb hby at_127) rfl (l' := #[.val (.long p0), .second, .val (.long p1), .second, .val (.long p2), .second, .val (.long p3), .second, .val (.int p4), .val (.int (3 : Int32)), .val (.long p0.toInt32.toInt64), .second, .val (.long (p0 >>> ((32 : Int32) &&& 0x3f).toInt64).toInt32.toInt64), .second, .val (.long p1.toInt32.toInt64), .second, .val (.long (0 : Int64)), .second, .val (.long (0 : Int64)), .second, .val (.long (0 : Int64)), .second, .val (.long (0 : Int64)), .second, .unset, .unset, .unset, .unset, .unset, .unset, .unset, .unset, .unset, .unset, .unset, .unset, .unset, .unset, .unset, .unset, .unset, .unset, .unset, .unset]) rfl ?_
      show Steps p.tables e below (T0.setTop (mkF m 129 _ [])) t
      refine XS.iload P0.here P0.x rfl (hb hby at_129) rfl ?_
      show Steps p.tables e below (T0.setTop (mkF m 131 _ [(.int (3 : Int32))])) t
      refine XS.bipush P0.here P0.x rfl (hb hby at_131) ?_
      show Steps p.tables e below (T0.setTop (mkF m 133 _ [(.int (8 : Int32)), (.int (3 : Int32))])) t
      refine XS.icmpYes P0.here P0.x rfl (pc0 := 133) (pc' := 146) rfl (hb hby at_133) rfl (iiW_lt_t (by decide)) (by decide) (by decide) ?_
      show Steps p.tables e below (T0.setTop (mkF m 146 _ [])) t
      refine XS.lconst P0.here P0.x rfl (hb hby at_146) ?_
      show Steps p.tables e below (T0.setTop (mkF m 147 _ [(.long (0 : Int64))])) t
      refine XS.lstore P0.here P0.x rfl (hb hby at_147) rfl (l' := #[.val (.long p0), .second, .val (.long p1), .second, .val (.long p2), .second, .val (.long p3), .second, .val (.int p4), .val (.int (3 : Int32)), .val (.long p0.toInt32.toInt64), .second, .val (.long (p0 >>> ((32 : Int32) &&& 0x3f).toInt64).toInt32.toInt64), .second, .val (.long p1.toInt32.toInt64), .second, .val (.long (0 : Int64)), .second, .val (.long (0 : Int64)), .second, .val (.long (0 : Int64)), .second, .val (.long (0 : Int64)), .second, .val (.long (0 : Int64)), .second, .unset, .unset, .unset, .unset, .unset, .unset, .unset, .unset, .unset, .unset, .unset, .unset, .unset, .unset, .unset, .unset, .unset, .unset]) rfl ?_
      exact kk
    exact tail 3 (3 : Int32) p0.toInt32.toInt64 (p0 >>> ((32 : Int32) &&& 0x3f).toInt64).toInt32.toInt64 p1.toInt32.toInt64 (0 : Int64) (0 : Int64) (0 : Int64) (0 : Int64) (0 : Int64) (by decide) (by decide) (own_i2lb _) (own_i2lb _) (own_i2lb _) (by decide) (by decide) (by decide) (by decide) (by decide) (fun hh => absurd hh (by decide)) (fun hh => absurd hh (by decide)) (fun hh => absurd hh (by decide)) (fun _ => by decide) (fun _ => by decide) (fun _ => by decide) (fun _ => by decide) (fun _ => by decide)
  · refine Done.step (T' := T0) (g' := (mkF m 149 #[.val (.long p0), .second, .val (.long p1), .second, .val (.long p2), .second, .val (.long p3), .second, .val (.int p4), .val (.int (4 : Int32)), .val (.long p0.toInt32.toInt64), .second, .val (.long (p0 >>> ((32 : Int32) &&& 0x3f).toInt64).toInt32.toInt64), .second, .val (.long p1.toInt32.toInt64), .second, .val (.long (p1 >>> ((32 : Int32) &&& 0x3f).toInt64).toInt32.toInt64), .second, .val (.long (0 : Int64)), .second, .val (.long (0 : Int64)), .second, .val (.long (0 : Int64)), .second, .val (.long (0 : Int64)), .second, .unset, .unset, .unset, .unset, .unset, .unset, .unset, .unset, .unset, .unset, .unset, .unset, .unset, .unset, .unset, .unset, .unset, .unset] [])) (fun t kk => ?_) ?_
    · show Steps p.tables e below (T0.setTop (mkF m 10 _ [])) t
      refine XS.iload P0.here P0.x rfl (hb hby at_10) rfl ?_
      show Steps p.tables e below (T0.setTop (mkF m 12 _ [(.int (4 : Int32))])) t
      refine XS.iconst P0.here P0.x rfl (hb hby at_12) ?_
      show Steps p.tables e below (T0.setTop (mkF m 13 _ [(.int (1 : Int32)), (.int (4 : Int32))])) t
      refine XS.icmpNo P0.here P0.x rfl (hb hby at_13) rfl (iiW_lt_f (by decide)) ?_
      show Steps p.tables e below (T0.setTop (mkF m 16 _ [])) t
      refine XS.lloadN P0.here P0.x rfl (hb hby at_16) rfl ?_
      show Steps p.tables e below (T0.setTop (mkF m 17 _ [(.long p0)])) t
      refine XS.l2i P0.here P0.x rfl (hb hby at_17) rfl ?_
      show Steps p.tables e below (T0.setTop (mkF m 18 _ [(.int p0.toInt32)])) t
      refine XS.i2l P0.here P0.x rfl (hb hby at_18) rfl ?_
      show Steps p.tables e below (T0.setTop (mkF m 19 _ [(.long p0.toInt32.toInt64)])) t
      refine XS.goto P0.here P0.x rfl (pc0 := 19) (pc' := 23) rfl (hb hby at_19) (by decide) (by decide) ?_
      show Steps p.tables e below (T0.setTop (mkF m 23 _ [(.long p0.toInt32.toInt64)])) t
      refine XS.lstore P0.here P0.x rfl (hb hby at_23) rfl (l' := #[.val (.long p0), .second, .val (.long p1), .second, .val (.long p2), .second, .val (.long p3), .second, .val (.int p4), .val (.int (4 : Int32)), .val (.long p0.toInt32.toInt64), .second, .unset, .unset, .unset, .unset, .unset, .unset, .unset, .unset, .unset, .unset, .unset, .unset, .unset, .unset, .unset, .unset, .unset, .unset, .unset, .unset, .unset, .unset, .unset, .unset, .unset, .unset, .unset, .unset, .unset, .unset, .unset, .unset]) rfl ?_
      show Steps p.tables e below (T0.setTop (mkF m 25 _ [])) t
      refine XS.iload P0.here P0.x rfl (hb hby at_25) rfl ?_
      show Steps p.tables e below (T0.setTop (mkF m 27 _ [(.int (4 : Int32))])) t
      refine XS.iconst P0.here P0.x rfl (hb hby at_27) ?_
      show Steps p.tables e below (T0.setTop (mkF m 28 _ [(.int (2 : Int32)), (.int (4 : Int32))])) t
      refine XS.icmpNo P0.here P0.x rfl (hb hby at_28) rfl (iiW_lt_f (by decide)) ?_
      show Steps p.tables e below (T0.setTop (mkF m 31 _ [])) t
      refine XS.lloadN P0.here P0.x rfl (hb hby at_31) rfl ?_
      show Steps p.tables e below (T0.setTop (mkF m 32 _ [(.long p0)])) t
      refine XS.bipush P0.here P0.x rfl (hb hby at_32) ?_
      show Steps p.tables e below (T0.setTop (mkF m 34 _ [(.int (32 : Int32)), (.long p0)])) t
      refine XS.lshr P0.here P0.x rfl (hb hby at_34) rfl ?_
      show Steps p.tables e below (T0.setTop (mkF m 35 _ [(.long (p0 >>> ((32 : Int32) &&& 0x3f).toInt64))])) t
      refine XS.l2i P0.here P0.x rfl (hb hby at_35) rfl ?_
      show Steps p.tables e below (T0.setTop (mkF m 36 _ [(.int (p0 >>> ((32 : Int32) &&& 0x3f).toInt64).toInt32)])) t
      refine XS.i2l P0.here P0.x rfl (hb hby at_36) rfl ?_
      show Steps p.tables e below (T0.setTop (mkF m 37 _ [(.long (p0 >>> ((32 : Int32) &&& 0x3f).toInt64).toInt32.toInt64)])) t
      refine XS.goto P0.here P0.x rfl (pc0 := 37) (pc' := 41) rfl (hb hby at_37) (by decide) (by decide) ?_
      show Steps p.tables e below (T0.setTop (mkF m 41 _ [(.long (p0 >>> ((32 : Int32) &&& 0x3f).toInt64).toInt32.toInt64)])) t
      refine XS.lstore P0.here P0.x rfl (hb hby at_41) rfl (l' := #[.val (.long p0), .second, .val (.long p1), .second, .val (.long p2), .second, .val (.long p3), .second, .val (.int p4), .val (.int (4 : Int32)), .val (.long p0.toInt32.toInt64), .second, .val (.long (p0 >>> ((32 : Int32) &&& 0x3f).toInt64).toInt32.toInt64), .second, .unset, .unset, .unset, .unset, .unset, .unset, .unset, .unset, .unset, .unset, .unset, .unset, .unset, .unset, .unset, .unset, .unset, .unset, .unset, .unset, .unset, .unset, .unset, .unset, .unset, .unset, .unset, .unset, .unset, .unset]) rfl ?_
      show Steps p.tables e below (T0.setTop (mkF m 43 _ [])) t
      refine XS.iload P0.here P0.x rfl (hb hby at_43) rfl ?_
      show Steps p.tables e below (T0.setTop (mkF m 45 _ [(.int (4 : Int32))])) t
      refine XS.iconst P0.here P0.x rfl (hb hby at_45) ?_
      show Steps p.tables e below (T0.setTop (mkF m 46 _ [(.int (3 : Int32)), (.int (4 : Int32))])) t
      refine XS.icmpNo P0.here P0.x rfl (hb hby at_46) rfl (iiW_lt_f (by decide)) ?_
      show Steps p.tables e below (T0.setTop (mkF m 49 _ [])) t
      refine XS.lloadN P0.here P0.x rfl (hb hby at_49) rfl ?_
      show Steps p.tables e below (T0.setTop (mkF m 50 _ [(.long p1)])) t
      refine XS.l2i P0.here P0.x rfl (hb hby at_50) rfl ?_
      show Steps p.tables e below (T0.setTop (mkF m 51 _ [(.int p1.toInt32)])) t
      refine XS.i2l P0.here P0.x rfl (hb hby at_51) rfl ?_
      show Steps p.tables e below (T0.setTop (mkF m 52 _ [(.long p1.toInt32.toInt64)])) t
      refine XS.goto P0.here P0.x rfl (pc0 := 52) (pc' := 56) rfl (hb hby at_52) (by decide) (by decide) ?_
      show Steps p.tables e below (T0.setTop (mkF m 56 _ [(.long p1.toInt32.toInt64)])) t
      refine XS.lstore P0.here P0.x rfl (hb hby at_56) rfl (l' := #[.val (.long p0), .second, .val (.long p1), .second, .val (.long p2), .second, .val (.long p3), .second, .val (.int p4), .val (.int (4 : Int32)), .val (.long p0.toInt32.toInt64), .second, .val (.long (p0 >>> ((32 : Int32) &&& 0x3f).toInt64).toInt32.toInt64), .second, .val (.long p1.toInt32.toInt64), .second, .unset, .unset, .unset, .unset, .unset, .unset, .unset, .unset, .unset, .unset, .unset, .unset, .unset, .unset, .unset, .unset, .unset, .unset, .unset, .unset, .unset, .unset, .unset, .unset, .unset, .unset, .unset, .unset]) rfl ?_
      show Steps p.tables e below (T0.setTop (mkF m 58 _ [])) t
      refine XS.iload P0.here P0.x rfl (hb hby at_58) rfl ?_
      show Steps p.tables e below (T0.setTop (mkF m 60 _ [(.int (4 : Int32))])) t
      refine XS.iconst P0.here P0.x rfl (hb hby at_60) ?_
      show Steps p.tables e below (T0.setTop (mkF m 61 _ [(.int (4 : Int32)), (.int (4 : Int32))])) t
      refine XS.icmpNo P0.here P0.x rfl (hb hby at_61) rfl (iiW_lt_f (by decide)) ?_
      show Steps p.tables e below (T0.setTop (mkF m 64 _ [])) t
      refine XS.lloadN P0.here P0.x rfl (hb hby at_64) rfl ?_
      show Steps p.tables e below (T0.setTop (mkF m 65 _ [(.long p1)])) t
      refine XS.bipush P0.here P0.x rfl (hb hby at_65) ?_
      show Steps p.tables e below (T0.setTop (mkF m 67 _ [(.int (32 : Int32)), (.long p1)])) t
      refine XS.lshr P0.here P0.x rfl (hb hby at_67) rfl ?_
      show Steps p.tables e below (T0.setTop (mkF m 68 _ [(.long (p1 >>> ((32 : Int32) &&& 0x3f).toInt64))])) t
      refine XS.l2i P0.here P0.x rfl (hb hby at_68) rfl ?_
      show Steps p.tables e below (T0.setTop (mkF m 69 _ [(.int (p1 >>> ((32 : Int32) &&& 0x3f).toInt64).toInt32)])) t
      refine XS.i2l P0.here P0.x rfl (hb hby at_69) rfl ?_
      show Steps p.tables e below (T0.setTop (mkF m 70 _ [(.long (p1 >>> ((32 : Int32) &&& 0x3f).toInt64).toInt32.toInt64)])) t
      refine XS.goto P0.here P0.x rfl (pc0 := 70) (pc' := 74) rfl (hb hby at_70) (by decide) (by decide) ?_
      show Steps p.tables e below (T0.setTop (mkF m 74 _ [(.long (p1 >>> ((32 : Int32) &&& 0x3f).toInt64).toInt32.toInt64)])) t
      refine XS.lstore P0.here P0.x rfl (hb hby at_74) rfl (l' := #[.val (.long p0), .second, .val (.long p1), .second, .val (.long p2), .second, .val (.long p3), .second, .val (.int p4), .val (.int (4 : Int32)), .val (.long p0.toInt32.toInt64), .second, .val (.long (p0 >>> ((32 : Int32) &&& 0x3f).toInt64).toInt32.toInt64), .second, .val (.long p1.toInt32.toInt64), .second, .val (.long (p1 >>> ((32 : Int32) &&& 0x3f).toInt64).toInt32.toInt64), .second, .unset, .unset, .unset, .unset, .unset, .unset, .unset, .unset, .unset, .unset, .unset, .unset, .unset, .unset, .unset, .unset, .unset, .unset, .unset, .unset, .unset, .unset, .unset, .unset, .unset, .unset]) rfl ?_
      show Steps p.tables e below (T0.setTop (mkF m 76 _ [])) t
      refine XS.iload P0.here P0.x rfl (hb hby at_76) rfl ?_
      show Steps p.tables e below (T0.setTop (mkF m 78 _ [(.int (4 : Int32))])) t
      refine XS.iconst P0.here P0.x rfl (hb hby at_78) ?_
      show Steps p.tables e below (T0.setTop (mkF m 79 _ [(.int (5 : Int32)), (.int (4 : Int32))])) t
      refine XS.icmpYes P0.here P0.x rfl (pc0 := 79) (pc' := 89) rfl (hb hby at_79) rfl (iiW_lt_t (by decide)) (by decide) (by decide) ?_
      show Steps p.tables e below (T0.setTop (mkF m 89 _ [])) t
      refine XS.lconst P0.here P0.x rfl (hb hby at_89) ?_
      show Steps p.tables e below (T0.setTop (mkF m 90 _ [(.long (0 : Int64))])) t
      refine XS.lstore P0.here P0.x rfl (hb hby at_90) rfl (l' := #[.val (.long p0), .second, .val (.long p1), .second, .val (.long p2), .second, .val (.long p3), .second, .val (.int p4), .val (.int (4 : Int32)), .val (.long p0.toInt32.toInt64), .second, .val (.long (p0 >>> ((32 : Int32) &&& 0x3f).toInt64).toInt32.toInt64), .second, .val (.long p1.toInt32.toInt64), .second, .val (.long (p1 >>> ((32 : Int32) &&& 0x3f).toInt64).toInt32.toInt64), .second, .val (.long (0 : Int64)), .second, .unset, .unset, .unset, .unset, .unset, .unset, .unset, .unset, .unset, .unset, .unset, .unset, .unset, .unset, .unset, .unset, .unset, .unset, .unset, .unset, .unset, .unset, .unset, .unset]) rfl ?_
      show Steps p.tables e below (T0.setTop (mkF m 92 _ [])) t
      refine XS.iload P0.here P0.x rfl (hb hby at_92) rfl ?_
      show Steps p.tables e below (T0.setTop (mkF m 94 _ [(.int (4 : Int32))])) t
      refine XS.bipush P0.here P0.x rfl (hb hby at_94) ?_
      show Steps p.tables e below (T0.setTop (mkF m 96 _ [(.int (6 : Int32)), (.int (4 : Int32))])) t
      refine XS.icmpYes P0.here P0.x rfl (pc0 := 96) (pc' := 109) rfl (hb hby at_96) rfl (iiW_lt_t (by decide)) (by decide) (by decide) ?_
      show Steps p.tables e below (T0.setTop (mkF m 109 _ [])) t
      refine XS.lconst P0.here P0.x rfl (hb hby at_109) ?_
      show Steps p.tables e below (T0.setTop (mkF m 110 _ [(.long (0 : Int64))])) t
      refine XS.lstore P0.here P0.x rfl (hb hby at_110) rfl (l' := #[.val (.long p0), .second, .val (.long p1), .second, .val (.long p2), .second, .val (.long p3), .second, .val (.int p4), .val (.int (4 : Int32)), .val (.long p0.toInt32.toInt64), .second, .val (.long (p0 >>> ((32 : Int32) &&& 0x3f).toInt64).toInt32.toInt64), .second, .val (.long p1.toInt32.toInt64), .second, .val (.long (p1 >>> ((32 : Int32) &&& 0x3f).toInt64).toInt32.toInt64), .second, .val (.long (0 : Int64)), .second, .val (.long (0 : Int64)), .second, .unset, .unset, .unset, .unset, .unset, .unset, .unset, .unset, .unset, .unset, .unset, .unset, .unset, .unset, .unset, .unset, .unset, .unset, .unset, .unset, .unset, .unset]) rfl ?_
      show Steps p.tables e below (T0.setTop (mkF m 112 _ [])) t
      refine XS.iload P0.here P0.x rfl (hb hby at_112) rfl ?_
      show Steps p.tables e below (T0.setTop (mkF m 114 _ [(.int (4 : Int32))])) t
      refine XS.bipush P0.here P0.x rfl (hb hby at_114) ?_
      show Steps p.tables e below (T0.setTop (mkF m 116 _ [(.int (7 : Int32)), (.int (4 : Int32))])) t
      refine XS.icmpYes P0.here P0.x rfl (pc0 := 116) (pc' := 126) rfl (hb hby at_116) rfl (iiW_lt_t (by decide)) (by decide) (by decide) ?_
      show Steps p.tables e below (T0.setTop (mkF m 126 _ [])) t
      refine XS.lconst P0.here P0.x rfl (hb hby at_126) ?_
      show Steps p.tables e below (T0.setTop (mkF m 127 _ [(.long (0 : Int64))])) t
      refine XS.lstore P0.here P0.x rfl (hb hby at_127) rfl (l' := #[.val (.long p0), .second, .val (.long p1), .second, .val (.long p2), .second, .val (.long p3), .second, .val (.int p4), .val (.int (4 : Int32)), .val (.long p0.toInt32.toInt64), .second, .val (.long (p0 >>> ((32 : Int32) &&& 0x3f).toInt64).toInt32.toInt64), .second, .val (.long p1.toInt32.toInt64), .second, .val (.long (p1 >>> ((32 : Int32) &&& 0x3f).toInt64).toInt32.toInt64), .second, .val (.long (0 : Int64)), .second, .val (.long (0 : Int64)), .second, .val (.long (0 : Int64)), .second, .unset, .unset, .unset, .unset, .unset, .unset, .unset, .unset, .unset, .unset, .unset, .unset, .unset, .unset, .unset, .unset, .unset, .unset, .unset, .unset]) rfl ?_
      show Steps p.tables e below (T0.setTop (mkF m 129 _ [])) t
      refine XS.iload P0.here P0.x rfl (hb hby at_129) rfl ?_
      show Steps p.tables e below (T0.setTop (mkF m 131 _ [(.int (4 : Int32))])) t
      refine XS.bipush P0.here P0.x rfl (hb hby at_131) ?_
      show Steps p.tables e below (T0.setTop (mkF m 133 _ [(.int (8 : Int32)), (.int (4 : Int32))])) t
      refine XS.icmpYes P0.here P0.x rfl (pc0 := 133) (pc' := 146) rfl (hb hby at_133) rfl (iiW_lt_t (by decide)) (by decide) (by decide) ?_
      show Steps p.tables e below (T0.setTop (mkF m 146 _ [])) t
      refine XS.lconst P0.here P0.x rfl (hb hby at_146) ?_
      show Steps p.tables e below (T0.setTop (mkF m 147 _ [(.long (0 : Int64))])) t
      refine XS.lstore P0.here P0.x rfl (hb hby at_147) rfl (l' := #[.val (.long p0), .second, .val (.long p1), .second, .val (.long p2), .second, .val (.long p3), .second, .val (.int p4), .val (.int (4 : Int32)), .val (.long p0.toInt32.toInt64), .second, .val (.long (p0 >>> ((32 : Int32) &&& 0x3f).toInt64).toInt32.toInt64), .second, .val (.long p1.toInt32.toInt64), .second, .val (.long (p1 >>> ((32 : Int32) &&& 0x3f).toInt64).toInt32.toInt64), .second, .val (.long (0 : Int64)), .second, .val (.long (0 : Int64)), .second, .val (.long (0 : Int64)), .second, .val (.long (0 : Int64)), .second, .unset, .unset, .unset, .unset, .unset, .unset, .unset, .unset, .unset, .unset, .unset, .unset, .unset, .unset, .unset, .unset, .unset, .unset]) rfl ?_
      exact kk
    exact tail 4 (4 : Int32) p0.toInt32.toInt64 (p0 >>> ((32 : Int32) &&& 0x3f).toInt64).toInt32.toInt64 p1.toInt32.toInt64 (p1 >>> ((32 : Int32) &&& 0x3f).toInt64).toInt32.toInt64 (0 : Int64) (0 : Int64) (0 : Int64) (0 : Int64) (by decide) (by decide) (own_i2lb _) (own_i2lb _) (own_i2lb _) (own_i2lb _) (by decide) (by decide) (by decide) (by decide) (fun hh => absurd hh (by decide)) (fun hh => absurd hh (by decide)) (fun hh => absurd hh (by decide)) (fun hh => absurd hh (by decide)) (fun _ => by decide) (fun _ => by decide) (fun _ => by decide) (fun _ => by decide)
  · refine Done.step (T' := T0) (g' := (mkF m 149 #[.val (.long p0), .second, .val (.long p1), .second, .val (.long p2), .second, .val (.long p3), .second, .val (.int p4), .val (.int (5 : Int32)), .val (.long p0.toInt32.toInt64), .second, .val (.long (p0 >>> ((32 : Int32) &&& 0x3f).toInt64).toInt32.toInt64), .second, .val (.long p1.toInt32.toInt64), .second, .val (.long (p1 >>> ((32 : Int32) &&& 0x3f).toInt64).toInt32.toInt64), .second, .val (.long p2.toInt32.toInt64), .second, .val (.long (0 : Int64)), .second, .val (.long (0 : Int64)), .second, .val (.long (0 : Int64)), .second, .unset, .unset, .unset, .unset, .unset, .unset, .unset, .unset, .unset, .unset, .unset, .unset, .unset, .unset, .unset, .unset, .unset, .unset] [])) (fun t kk => ?_) ?_
    · show Steps p.tables e below (T0.setTop (mkF m 10 _ [])) t
      refine XS.iload P0.here P0.x rfl (hb hby at_10) rfl ?_
      show Steps p.tables e below (T0.setTop (mkF m 12 _ [(.int (5 : Int32))])) t
      refine XS.iconst P0.here P0.x rfl (hb hby at_12) ?_
      show Steps p.tables e below (T0.setTop (mkF m 13 _ [(.int (1 : Int32)), (.int (5 : Int32))])) t
      refine XS.icmpNo P0.here P0.x rfl (hb hby at_13) rfl (iiW_lt_f (by decide)) ?_
      show Steps p.tables e below (T0.setTop (mkF m 16 _ [])) t
      refine XS.lloadN P0.here P0.x rfl (hb hby at_16) rfl ?_
      show Steps p.tables e below (T0.setTop (mkF m 17 _ [(.long p0)])) t
      refine XS.l2i P0.here P0.x rfl (hb hby at_17) rfl ?_
      show Steps p.tables e below (T0.setTop (mkF m 18 _ [(.int p0.toInt32)])) t
      refine XS.i2l P0.here P0.x rfl (hb hby at_18) rfl ?_
      show Steps p.tables e below (T0.setTop (mkF m 19 _ [(.long p0.toInt32.toInt64)])) t
      refine XS.goto P0.here P0.x rfl (pc0 := 19) (pc' := 23) rfl (hb hby at_19) (by decide) (by decide) ?_
      show Steps p.tables e below (T0.setTop (mkF m 23 _ [(.long p0.toInt32.toInt64)])) t
      refine XS.lstore P0.here P0.x rfl (hb hby at_23) rfl (l' := #[.val (.long p0), .second, .val (.long p1), .second, .val (.long p2), .second, .val (.long p3), .second, .val (.int p4), .val (.int (5 : Int32)), .val (.long p0.toInt32.toInt64), .second, .unset, .unset, .unset, .unset, .unset, .unset, .unset, .unset, .unset, .unset, .unset, .unset, .unset, .unset, .unset, .unset, .unset, .unset, .unset, .unset, .unset, .unset, .unset, .unset, .unset, .unset, .unset, .unset, .unset, .unset, .unset, .unset]) rfl ?_
      show Steps p.tables e below (T0.setTop (mkF m 25 _ [])) t
      refine XS.iload P0.here P0.x rfl (hb hby at_25) rfl ?_
      show Steps p.tables e below (T0.setTop (mkF m 27 _ [(.int (5 : Int32))])) t
      refine XS.iconst P0.here P0.x rfl (hb hby at_27) ?_
      show Steps p.tables e below (T0.setTop (mkF m 28 _ [(.int (2 : Int32)), (.int (5 : Int32))])) t
      refine XS.icmpNo P0.here P0.x rfl (hb hby at_28) rfl (iiW_lt_f (by decide)) ?_
      show Steps p.tables e below (T0.setTop (mkF m 31 _ [])) t
      refine XS.lloadN P0.here P0.x rfl (hb hby at_31) rfl ?_
      show Steps p.tables e below (T0.setTop (mkF m 32 _ [(.long p0)])) t
      refine XS.bipush P0.here P0.x rfl (hb hby at_32) ?_
      show Steps p.tables e below (T0.setTop (mkF m 34 _ [(.int (32 : Int32)), (.long p0)])) t
      refine XS.lshr P0.here P0.x rfl (hb hby at_34) rfl ?_
      show Steps p.tables e below (T0.setTop (mkF m 35 _ [(.long (p0 >>> ((32 : Int32) &&& 0x3f).toInt64))])) t
      refine XS.l2i P0.here P0.x rfl (hb hby at_35) rfl ?_
      show Steps p.tables e below (T0.setTop (mkF m 36 _ [(.int (p0 >>> ((32 : Int32) &&& 0x3f).toInt64).toInt32)])) t
      refine XS.i2l P0.here P0.x rfl (hb hby at_36) rfl ?_
      show Steps p.tables e below (T0.setTop (mkF m 37 _ [(.long (p0 >>> ((32 : Int32) &&& 0x3f).toInt64).toInt32.toInt64)])) t
      refine XS.goto P0.here P0.x rfl (pc0 := 37) (pc' := 41) rfl (hb hby at_37) (by decide) (by decide) ?_
      show Steps p.tables e below (T0.setTop (mkF m 41 _ [(.long (p0 >>> ((32 : Int32) &&& 0x3f).toInt64).toInt32.toInt64)])) t
      refine XS.lstore P0.here P0.x rfl (hb hby at_41) rfl (l' := #[.val (.long p0), .second, .val (.long p1), .second, .val (.long p2), .second, .val (.long p3), .second, .val (.int p4), .val (.int (5 : Int32)), .val (.long p0.toInt32.toInt64), .second, .val (.long (p0 >>> ((32 : Int32) &&& 0x3f).toInt64).toInt32.toInt64), .second, .unset, .unset, .unset, .unset, .unset, .unset, .unset, .unset, .unset, .unset, .unset, .unset, .unset, .unset, .unset, .unset, .unset, .unset, .unset, .unset, .unset, .unset, .unset, .unset, .unset, .unset, .unset, .unset, .unset, .unset]) rfl ?_
      show Steps p.tables e below (T0.setTop (mkF m 43 _ [])) t
      refine XS.iload P0.here P0.x rfl (hb hby at_43) rfl ?_
      show Steps p.tables e below (T0.setTop (mkF m 45 _ [(.int (5 : Int32))])) t
      refine XS.iconst P0.here P0.x rfl (hb hby at_45) ?_
      show Steps p.tables e below (T0.setTop (mkF m 46 _ [(.int (3 : Int32)), (.int (5 : Int32))])) t
      refine XS.icmpNo P0.here P0.x rfl (hb hby at_46) rfl (iiW_lt_f (by decide)) ?_
      show Steps p.tables e below (T0.setTop (mkF m 49 _ [])) t
      refine XS.lloadN P0.here P0.x rfl (hb hby at_49) rfl ?_
      show Steps p.tables e below (T0.setTop (mkF m 50 _ [(.long p1)])) t
      refine XS.l2i P0.here P0.x rfl (hb hby at_50) rfl ?_
      show Steps p.tables e below (T0.setTop (mkF m 51 _ [(.int p1.toInt32)])) t
      refine XS.i2l P0.here P0.x rfl (hb hby at_51) rfl ?_
      show Steps p.tables e below (T0.setTop (mkF m 52 _ [(.long p1.toInt32.toInt64)])) t
      refine XS.goto P0.here P0.x rfl (pc0 := 52) (pc' := 56) rfl (hb hby at_52) (by decide) (by decide) ?_
      show Steps p.tables e below (T0.setTop (mkF m 56 _ [(.long p1.toInt32.toInt64)])) t
      refine XS.lstore P0.here P0.x rfl (hb hby at_56) rfl (l' := #[.val (.long p0), .second, .val (.long p1), .second, .val (.long p2), .second, .val (.long p3), .second, .val (.int p4), .val (.int (5 : Int32)), .val (.long p0.toInt32.toInt64), .second, .val (.long (p0 >>> ((32 : Int32) &&& 0x3f).toInt64).toInt32.toInt64), .second, .val (.long p1.toInt32.toInt64), .second, .unset, .unset, .unset, .unset, .unset, .unset, .unset, .unset, .unset, .unset, .unset, .unset, .unset, .unset, .unset, .unset, .unset, .unset, .unset, .unset, .unset, .unset, .unset, .unset, .unset, .unset, .unset, .unset]) rfl ?_
      show Steps p.tables e below (T0.setTop (mkF m 58 _ [])) t
      refine XS.iload P0.here P0.x rfl (hb hby at_58) rfl ?_
      show Steps p.tables e below (T0.setTop (mkF m 60 _ [(.int (5 : Int32))])) t
      refine XS.iconst P0.here P0.x rfl (hb hby at_60) ?_
      show Steps p.tables e below (T0.setTop (mkF m 61 _ [(.int (4 : Int32)), (.int (5 : Int32))])) t
      refine XS.icmpNo P0.here P0.x rfl (hb hby at_61) rfl (iiW_lt_f (by decide)) ?_
      show Steps p.tables e below (T0.setTop (mkF m 64 _ [])) t
      refine XS.lloadN P0.here P0.x rfl (hb hby at_64) rfl ?_
      show Steps p.tables e below (T0.setTop (mkF m 65 _ [(.long p1)])) t
      refine XS.bipush P0.here P0.x rfl (hb hby at_65) ?_
      show Steps p.tables e below (T0.setTop (mkF m 67 _ [(.int (32 : Int32)), (.long p1)])) t
      refine XS.lshr P0.here P0.x rfl (hb hby at_67) rfl ?_
      show Steps p.tables e below (T0.setTop (mkF m 68 _ [(.long (p1 >>> ((32 : Int32) &&& 0x3f).toInt64))])) t
      refine XS.l2i P0.here P0.x rfl (hb hby at_68) rfl ?_
      show Steps p.tables e below (T0.setTop (mkF m 69 _ [(.int (p1 >>> ((32 : Int32) &&& 0x3f).toInt64).toInt32)])) t
      refine XS.i2l P0.here P0.x rfl (hb hby at_69) rfl ?_
      show Steps p.tables e below (T0.setTop (mkF m 70 _ [(.long (p1 >>> ((32 : Int32) &&& 0x3f).toInt64).toInt32.toInt64)])) t
      refine XS.goto P0.here P0.x rfl (pc0 := 70) (pc' := 74) rfl (hb hby at_70) (by decide) (by decide) ?_
      show Steps p.tables e below (T0.setTop (mkF m 74 _ [(.long (p1 >>> ((32 : Int32) &&& 0x3f).toInt64).toInt32.toInt64)])) t
      refine XS.lstore P0.here P0.x rfl (hb hby at_74) rfl (l' := #[.val (.long p0), .second, .val (.long p1), .second, .val (.long p2), .second, .val (.long p3), .second, .val (.int p4), .val (.int (5 : Int32)), .val (.long p0.toInt32.toInt64), .second, .val (.long (p0 >>> ((32 : Int32) &&& 0x3f).toInt64).toInt32.toInt64), .second, .val (.long p1.toInt32.toInt64), .second, .val (.long (p1 >>> ((32 : Int32) &&& 0x3f).toInt64).toInt32.toInt64), .second, .unset, .unset, .unset, .unset, .unset, .unset, .unset, .unset, .unset, .unset, .unset, .unset, .unset, .unset, .unset, .unset, .unset, .unset, .unset, .unset, .unset, .unset, .unset, .unset, .unset, .unset]) rfl ?_
      show Steps p.tables e below (T0.setTop (mkF m 76 _ [])) t
      refine XS.iload P0.here P0.x rfl (hb hby at_76) rfl ?_
      show Steps p.tables e below (T0.setTop (mkF m 78 _ [(.int (5 : Int32))])) t
      refine XS.iconst P0.here P0.x rfl (hb hby at_78) ?_
      show Steps p.tables e below (T0.setTop (mkF m 79 _ [(.int (5 : Int32)), (.int (5 : Int32))])) t
      refine XS.icmpNo P0.here P0.x rfl (hb hby at_79) rfl (iiW_lt_f (by decide)) ?_
      show Steps p.tables e below (T0.setTop (mkF m 82 _ [])) t
      refine XS.lload P0.here P0.x rfl (hb hby at_82) rfl ?_
      show Steps p.tables e below (T0.setTop (mkF m 84 _ [(.long p2)])) t
      refine XS.l2i P0.here P0.x rfl (hb hby at_84) rfl ?_
      show Steps p.tables e below (T0.setTop (mkF m 85 _ [(.int p2.toInt32)])) t
      refine XS.i2l P0.here P0.x rfl (hb hby at_85) rfl ?_
      show Steps p.tables e below (T0.setTop (mkF m 86 _ [(.long p2.toInt32.toInt64)])) t
      refine XS.goto P0.here P0.x rfl (pc0 := 86) (pc' := 90) rfl (hb hby at_86) (by decide) (by decide) ?_
      show Steps p.tables e below (T0.setTop (mkF m 90 _ [(.long p2.toInt32.toInt64)])) t
      refine XS.lstore P0.here P0.x rfl (hb hby at_90) rfl (l' := #[.val (.long p0), .second, .val (.long p1), .second, .val (.long p2), .second, .val (.long p3), .second, .val (.int p4), .val (.int (5 : Int32)), .val (.long p0.toInt32.toInt64), .second, .val (.long (p0 >>> ((32 : Int32) &&& 0x3f).toInt64).toInt32.toInt64), .second, .val (.long p1.toInt32.toInt64), .second, .val (.long (p1 >>> ((32 : Int32) &&& 0x3f).toInt64).toInt32.toInt64), .second, .val (.long p2.toInt32.toInt64), .second, .unset, .unset, .unset, .unset, .unset, .unset, .unset, .unset, .unset, .unset, .unset, .unset, .unset, .unset, .unset, .unset, .unset, .unset, .unset, .unset, .unset, .unset, .unset, .unset]) rfl ?_
      show Steps p.tables e below (T0.setTop (mkF m 92 _ [])) t
      refine XS.iload P0.here P0.x rfl (hb hby at_92) rfl ?_
      show Steps p.tables e below (T0.setTop (mkF m 94 _ [(.int (5 : Int32))])) t
      refine XS.bipush P0.here P0.x rfl (hb hby at_94) ?_
      show Steps p.tables e below (T0.setTop (mkF m 96 _ [(.int (6 : Int32)), (.int (5 : Int32))])) t
      refine XS.icmpYes P0.here P0.x rfl (pc0 := 96) (pc' := 109) rfl (hb hby at_96) rfl (iiW_lt_t (by decide)) (by decide) (by decide) ?_
      show Steps p.tables e below (T0.setTop (mkF m 109 _ [])) t
      refine XS.lconst P0.here P0.x rfl (hb hby at_109) ?_
      show Steps p.tables e below (T0.setTop (mkF m 110 _ [(.long (0 : Int64))])) t
      refine XS.lstore P0.here P0.x rfl (hb hby at_110) rfl (l' := #[.val (.long p0), .second, .val (.long p1), .second, .val (.long p2), .second, .val (.long p3), .second, .val (.int p4), .val (.int (5 : Int32)), .val (.long p0.toInt32.toInt64), .second, .val (.long (p0 >>> ((32 : Int32) &&& 0x3f).toInt64).toInt32.toInt64), .second, .val (.long p1.toInt32.toInt64), .second, .val (.long (p1 >>> ((32 : Int32) &&& 0x3f).toInt64).toInt32.toInt64), .second, .val (.long p2.toInt32.toInt64), .second, .val (.long (0 : Int64)), .second, .unset, .unset, .unset, .unset, .unset, .unset, .unset, .unset, .unset, .unset, .unset, .unset, .unset, .unset, .unset, .unset, .unset, .unset, .unset, .unset, .unset, .unset]) rfl ?_
      show Steps p.tables e below (T0.setTop (mkF m 112 _ [])) t
      refine XS.iload P0.here P0.x rfl (hb hby at_112) rfl ?_
      show Steps p.tables e below (T0.setTop (mkF m 114 _ [(.int (5 : Int32))])) t
      refine XS.bipush P0.here P0.x rfl (hb hby at_114) ?_
      show Steps p.tables e below (T0.setTop (mkF m 116 _ [(.int (7 : Int32)), (.int (5 : Int32))])) t
      refine XS.icmpYes P0.here P0.x rfl (pc0 := 116) (pc' := 126) rfl (hb hby at_116) rfl (iiW_lt_t (by decide)) (by decide) (by decide) ?_
      show Steps p.tables e below (T0.setTop (mkF m 126 _ [])) t
      refine XS.lconst P0.here P0.x rfl (hb hby at_126) ?_
      show Steps p.tables e below (T0.setTop (mkF m 127 _ [(.long (0 : Int64))])) t
      refine XS.lstore P0.here P0.x rfl (hb hby at_127) rfl (l' := #[.val (.long p0), .second, .val (.long p1), .second, .val (.long p2), .second, .val (.long p3), .second, .val (.int p4), .val (.int (5 : Int32)), .val (.long p0.toInt32.toInt64), .second, .val (.long (p0 >>> ((32 : Int32) &&& 0x3f).toInt64).toInt32.toInt64), .second, .val (.long p1.toInt32.toInt64), .second, .val (.long (p1 >>> ((32 : Int32) &&& 0x3f).toInt64).toInt32.toInt64), .second, .val (.long p2.toInt32.toInt64), .second, .val (.long (0 : Int64)), .second, .val (.long (0 : Int64)), .second, .unset, .unset, .unset, .unset, .unset, .unset, .unset, .unset, .unset, .unset, .unset, .unset, .unset, .unset, .unset, .unset, .unset, .unset, .unset, .unset]) rfl ?_
      show Steps p.tables e below (T0.setTop (mkF m 129 _ [])) t
      refine XS.iload P0.here P0.x rfl (hb hby at_129) rfl ?_
      show Steps p.tables e below (T0.setTop (mkF m 131 _ [(.int (5 : Int32))])) t
      refine XS.bipush P0.here P0.x rfl (hb hby at_131) ?_
      show Steps p.tables e below (T0.setTop (mkF m 133 _ [(.int (8 : Int32)), (.int (5 : Int32))])) t
      refine XS.icmpYes P0.here P0.x rfl (pc0 := 133) (pc' := 146) rfl (hb hby at_133) rfl (iiW_lt_t (by decide)) (by decide) (by decide) ?_
      show Steps p.tables e below (T0.setTop (mkF m 146 _ [])) t
      refine XS.lconst P0.here P0.x rfl (hb hby at_146) ?_
      show Steps p.tables e below (T0.setTop (mkF m 147 _ [(.long (0 : Int64))])) t
      refine XS.lstore P0.here P0.x rfl (hb hby at_147) rfl (l' := #[.val (.long p0), .second, .val (.long p1), .second, .val (.long p2), .second, .val (.long p3), .second, .val (.int p4), .val (.int (5 : Int32)), .val (.long p0.toInt32.toInt64), .second, .val (.long (p0 >>> ((32 : Int32) &&& 0x3f).toInt64).toInt32.toInt64), .second, .val (.long p1.toInt32.toInt64), .second, .val (.long (p1 >>> ((32 : Int32) &&& 0x3f).toInt64).toInt32.toInt64), .second, .val (.long p2.toInt32.toInt64), .second, .val (.long (0 : Int64)), .second, .val (.long (0 : Int64)), .second, .val (.long (0 : Int64)), .second, .unset, .unset, .unset, .unset, .unset, .unset, .unset, .unset, .unset, .unset, .unset, .unset, .unset, .unset, .unset, .unset, .unset, .unset]) rfl ?_
      exact kk
    exact tail 5 (5 : Int32) p0.toInt32.toInt64 (p0 >>> ((32 : Int32) &&& 0x3f).toInt64).toInt32.toInt64 p1.toInt32.toInt64 (p1 >>> ((32 : Int32) &&& 0x3f).toInt64).toInt32.toInt64 p2.toInt32.toInt64 (0 : Int64) (0 : Int64) (0 : Int64) (by decide) (by decide) (own_i2lb _) (own_i2lb _) (own_i2lb _) (own_i2lb _) (own_i2lb _) (by decide) (by decide) (by decide) (fun hh => absurd hh (by decide)) (fun hh => absurd hh (by decide)) (fun hh => absurd hh (by decide)) (fun hh => absurd hh (by decide)) (fun hh => absurd hh (by decide)) (fun _ => by decide) (fun _ => by decide) (fun _ => by decide)
  · refine Done.step (T' := T0) (g' := (mkF m 149 #[.val (.long p0), .second, .val (.long p1), .second, .val (.long p2), .second, .val (.long p3), .second, .val (.int p4), .val (.int (6 : Int32)), .val (.long p0.toInt32.toInt64), .second, .val (.long (p0 >>> ((32 : Int32) &&& 0x3f).toInt64).toInt32.toInt64), .second, .val (.long p1.toInt32.toInt64), .second, .val (.long (p1 >>> ((32 : Int32) &&& 0x3f).toInt64).toInt32.toInt64), .second, .val (.long p2.toInt32.toInt64), .second, .val (.long (p2 >>> ((32 : Int32) &&& 0x3f).toInt64).toInt32.toInt64), .second, .val (.long (0 : Int64)), .second, .val (.long (0 : Int64)), .second, .unset, .unset, .unset, .unset, .unset, .unset, .unset, .unset, .unset, .unset, .unset, .unset, .unset, .unset, .unset, .unset, .unset, .unset] [])) (fun t kk => ?_) ?_
    · show Steps p.tables e below (T0.setTop (mkF m 10 _ [])) t
      refine XS.iload P0.here P0.x rfl (hb hby at_10) rfl ?_
      show Steps p.tables e below (T0.setTop (mkF m 12 _ [(.int (6 : Int32))])) t
      refine XS.iconst P0.here P0.x rfl (hb hby at_12) ?_
      show Steps p.tables e below (T0.setTop (mkF m 13 _ [(.int (1 : Int32)), (.int (6 : Int32))])) t
      refine XS.icmpNo P0.here P0.x rfl (hb hby at_13) rfl (iiW_lt_f (by decide)) ?_
      show Steps p.tables e below (T0.setTop (mkF m 16 _ [])) t
      refine XS.lloadN P0.here P0.x rfl (hb hby at_16) rfl ?_
      show Steps p.tables e below (T0.setTop (mkF m 17 _ [(.long p0)])) t
      refine XS.l2i P0.here P0.x rfl (hb hby at_17) rfl ?_
      show Steps p.tables e below (T0.setTop (mkF m 18 _ [(.int p0.toInt32)])) t
      refine XS.i2l P0.here P0.x rfl (hb hby at_18) rfl ?_
      show Steps p.tables e below (T0.setTop (mkF m 19 _ [(.long p0.toInt32.toInt64)])) t
      refine XS.goto P0.here P0.x rfl (pc0 := 19) (pc' := 23) rfl (hb hby at_19) (by decide) (by decide) ?_
      show Steps p.tables e below (T0.setTop (mkF m 23 _ [(.long p0.toInt32.toInt64)])) t
      refine XS.lstore P0.here P0.x rfl (hb hby at_23) rfl (l' := #[.val (.long p0), .second, .val (.long p1), .second, .val (.long p2), .second, .val (.long p3), .second, .val (.int p4), .val (.int (6 : Int32)), .val (.long p0.toInt32.toInt64), .second, .unset, .unset, .unset, .unset, .unset, .unset, .unset, .unset, .unset, .unset, .unset, .unset, .unset, .unset, .unset, .unset, .unset, .unset, .unset, .unset, .unset, .unset, .unset, .unset, .unset, .unset, .unset, .unset, .unset, .unset, .unset, .unset]) rfl ?_
      show Steps p.tables e below (T0.setTop (mkF m 25 _ [])) t
      refine XS.iload P0.here P0.x rfl (hb hby at_25) rfl ?_
      show Steps p.tables e below (T0.setTop (mkF m 27 _ [(.int (6 : Int32))])) t
      refine XS.iconst P0.here P0.x rfl (hb hby at_27) ?_
      show Steps p.tables e below (T0.setTop (mkF m 28 _ [(.int (2 : Int32)), (.int (6 : Int32))])) t
      refine XS.icmpNo P0.here P0.x rfl (hb hby at_28) rfl (iiW_lt_f (by decide)) ?_
      show Steps p.tables e below (T0.setTop (mkF m 31 _ [])) t
      refine XS.lloadN P0.here P0.x rfl (hb hby at_31) rfl ?_
      show Steps p.tables e below (T0.setTop (mkF m 32 _ [(.long p0)])) t
      refine XS.bipush P0.here P0.x rfl (hb hby at_32) ?_
      show Steps p.tables e below (T0.setTop (mkF m 34 _ [(.int (32 : Int32)), (.long p0)])) t
      refine XS.lshr P0.here P0.x rfl (hb hby at_34) rfl ?_
      show Steps p.tables e below (T0.setTop (mkF m 35 _ [(.long (p0 >>> ((32 : Int32) &&& 0x3f).toInt64))])) t
      refine XS.l2i P0.here P0.x rfl (hb hby at_35) rfl ?_
      show Steps p.tables e below (T0.setTop (mkF m 36 _ [(.int (p0 >>> ((32 : Int32) &&& 0x3f).toInt64).toInt32)])) t
      refine XS.i2l P0.here P0.x rfl (hb hby at_36) rfl ?_
      show Steps p.tables e below (T0.setTop (mkF m 37 _ [(.long (p0 >>> ((32 : Int32) &&& 0x3f).toInt64).toInt32.toInt64)])) t
      refine XS.goto P0.here P0.x rfl (pc0 := 37) (pc' := 41) rfl (hb hby at_37) (by decide) (by decide) ?_
      show Steps p.tables e below (T0.setTop (mkF m 41 _ [(.long (p0 >>> ((32 : Int32) &&& 0x3f).toInt64).toInt32.toInt64)])) t
      refine XS.lstore P0.here P0.x rfl (hb hby at_41) rfl (l' := #[.val (.long p0), .second, .val (.long p1), .second, .val (.long p2), .second, .val (.long p3), .second, .val (.int p4), .val (.int (6 : Int32)), .val (.long p0.toInt32.toInt64), .second, .val (.long (p0 >>> ((32 : Int32) &&& 0x3f).toInt64).toInt32.toInt64), .second, .unset, .unset, .unset, .unset, .unset, .unset, .unset, .unset, .unset, .unset, .unset, .unset, .unset, .unset, .unset, .unset, .unset, .unset, .unset, .unset, .unset, .unset, .unset, .unset, .unset, .unset, .unset, .unset, .unset, .unset]) rfl ?_
      show Steps p.tables e below (T0.setTop (mkF m 43 _ [])) t
      refine XS.iload P0.here P0.x rfl (hb hby at_43) rfl ?_
      show Steps p.tables e below (T0.setTop (mkF m 45 _ [(.int (6 : Int32))])) t
      refine XS.iconst P0.here P0.x rfl (hb hby at_45) ?_
      show Steps p.tables e below (T0.setTop (mkF m 46 _ [(.int (3 : Int32)), (.int (6 : Int32))])) t
      refine XS.icmpNo P0.here P0.x rfl (hb hby at_46) rfl (iiW_lt_f (by decide)) ?_
      show Steps p.tables e below (T0.setTop (mkF m 49 _ [])) t
      refine XS.lloadN P0.here P0.x rfl (hb hby at_49) rfl ?_
      show Steps p.tables e below (T0.setTop (mkF m 50 _ [(.long p1)])) t
      refine XS.l2i P0.here P0.x rfl (hb hby at_50) rfl ?_
      show Steps p.tables e below (T0.setTop (mkF m 51 _ [(.int p1.toInt32)])) t
      refine XS.i2l P0.here P0.x rfl (hb hby at_51) rfl ?_
      show Steps p.tables e below (T0.setTop (mkF m 52 _ [(.long p1.toInt32.toInt64)])) t
      refine XS.goto P0.here P0.x rfl (pc0 := 52) (pc' := 56) rfl (hb hby at_52) (by decide) (by decide) ?_
      show Steps p.tables e below (T0.setTop (mkF m 56 _ [(.long p1.toInt32.toInt64)])) t
      refine XS.lstore P0.here P0.x rfl (hb hby at_56) rfl (l' := #[.val (.long p0), .second, .val (.long p1), .second, .val (.long p2), .second, .val (.long p3), .second, .val (.int p4), .val (.int (6 : Int32)), .val (.long p0.toInt32.toInt64), .second, .val (.long (p0 >>> ((32 : Int32) &&& 0x3f).toInt64).toInt32.toInt64), .second, .val (.long p1.toInt32.toInt64), .second, .unset, .unset, .unset, .unset, .unset, .unset, .unset, .unset, .unset, .unset, .unset, .unset, .unset, .unset, .unset, .unset, .unset, .unset, .unset, .unset, .unset, .unset, .unset, .unset, .unset, .unset, .unset, .unset]) rfl ?_
      show Steps p.tables e below (T0.setTop (mkF m 58 _ [])) t
      refine XS.iload P0.here P0.x rfl (hb hby at_58) rfl ?_
      show Steps p.tables e below (T0.setTop (mkF m 60 _ [(.int (6 : Int32))])) t
      refine XS.iconst P0.here P0.x rfl (hb hby at_60) ?_
      show Steps p.tables e below (T0.setTop (mkF m 61 _ [(.int (4 : Int32)), (.int (6 : Int32))])) t
      refine XS.icmpNo P0.here P0.x rfl (hb hby at_61) rfl (iiW_lt_f (by decide)) ?_
      show Steps p.tables e below (T0.setTop (mkF m 64 _ [])) t
      refine XS.lloadN P0.here P0.x rfl (hb hby at_64) rfl ?_
      show Steps p.tables e below (T0.setTop (mkF m 65 _ [(.long p1)])) t
      refine XS.bipush P0.here P0.x rfl (hb hby at_65) ?_
      show Steps p.tables e below (T0.setTop (mkF m 67 _ [(.int (32 : Int32)), (.long p1)])) t
      refine XS.lshr P0.here P0.x rfl (hb hby at_67) rfl ?_
      show Steps p.tables e below (T0.setTop (mkF m 68 _ [(.long (p1 >>> ((32 : Int32) &&& 0x3f).toInt64))])) t
      refine XS.l2i P0.here P0.x rfl (hb hby at_68) rfl ?_
      show Steps p.tables e below (T0.setTop (mkF m 69 _ [(.int (p1 >>> ((32 : Int32) &&& 0x3f).toInt64).toInt32)])) t
      refine XS.i2l P0.here P0.x rfl (hb hby at_69) rfl ?_
      show Steps p.tables e below (T0.setTop (mkF m 70 _ [(.long (p1 >>> ((32 : Int32) &&& 0x3f).toInt64).toInt32.toInt64)])) t
      refine XS.goto P0.here P0.x rfl (pc0 := 70) (pc' := 74) rfl (hb hby at_70) (by decide) (by decide) ?_
      show Steps p.tables e below (T0.setTop (mkF m 74 _ [(.long (p1 >>> ((32 : Int32) &&& 0x3f).toInt64).toInt32.toInt64)])) t
      refine XS.lstore P0.here P0.x rfl (hb hby at_74) rfl (l' := #[.val (.long p0), .second, .val (.long p1), .second, .val (.long p2), .second, .val (.long p3), .second, .val (.int p4), .val (.int (6 : Int32)), .val (.long p0.toInt32.toInt64), .second, .val (.long (p0 >>> ((32 : Int32) &&& 0x3f).toInt64).toInt32.toInt64), .second, .val (.long p1.toInt32.toInt64), .second, .val (.long (p1 >>> ((32 : Int32) &&& 0x3f).toInt64).toInt32.toInt64), .second, .unset, .unset, .unset, .unset, .unset, .unset, .unset, .unset, .unset, .unset, .unset, .unset, .unset, .unset, .unset, .unset, .unset, .unset, .unset, .unset, .unset, .unset, .unset, .unset, .unset, .unset]) rfl ?_
      show Steps p.tables e below (T0.setTop (mkF m 76 _ [])) t
      refine XS.iload P0.here P0.x rfl (hb hby at_76) rfl ?_
      show Steps p.tables e below (T0.setTop (mkF m 78 _ [(.int (6 : Int32))])) t
      refine XS.iconst P0.here P0.x rfl (hb hby at_78) ?_
      show Steps p.tables e below (T0.setTop (mkF m 79 _ [(.int (5 : Int32)), (.int (6 : Int32))])) t
      refine XS.icmpNo P0.here P0.x rfl (hb hby at_79) rfl (iiW_lt_f (by decide)) ?_
      show Steps p.tables e below (T0.setTop (mkF m 82 _ [])) t
      refine XS.lload P0.here P0.x rfl (hb hby at_82) rfl ?_
      show Steps p.tables e below (T0.setTop (mkF m 84 _ [(.long p2)])) t
      refine XS.l2i P0.here P0.x rfl (hb hby at_84) rfl ?_
      show Steps p.tables e below (T0.setTop (mkF m 85 _ [(.int p2.toInt32)])) t
      refine XS.i2l P0.here P0.x rfl (hb hby at_85) rfl ?_
      show Steps p.tables e below (T0.setTop (mkF m 86 _ [(.long p2.toInt32.toInt64)])) t
      refine XS.goto P0.here P0.x rfl (pc0 := 86) (pc' := 90) rfl (hb hby at_86) (by decide) (by decide) ?_
      show Steps p.tables e below (T0.setTop (mkF m 90 _ [(.long p2.toInt32.toInt64)])) t
      refine XS.lstore P0.here P0.x rfl (hb hby at_90) rfl (l' := #[.val (.long p0), .second, .val (.long p1), .second, .val (.long p2), .second, .val (.long p3), .second, .val (.int p4), .val (.int (6 : Int32)), .val (.long p0.toInt32.toInt64), .second, .val (.long (p0 >>> ((32 : Int32) &&& 0x3f).toInt64).toInt32.toInt64), .second, .val (.long p1.toInt32.toInt64), .second, .val (.long (p1 >>> ((32 : Int32) &&& 0x3f).toInt64).toInt32.toInt64), .second, .val (.long p2.toInt32.toInt64), .second, .unset, .unset, .unset, .unset, .unset, .unset, .unset, .unset, .unset, .unset, .unset, .unset, .unset, .unset, .unset, .unset, .unset, .unset, .unset, .unset, .unset, .unset, .unset, .unset]) rfl ?_
      show Steps p.tables e below (T0.setTop (mkF m 92 _ [])) t
      refine XS.iload P0.here P0.x rfl (hb hby at_92) rfl ?_
      show Steps p.tables e below (T0.setTop (mkF m 94 _ [(.int (6 : Int32))])) t
      refine XS.bipush P0.here P0.x rfl (hb hby at_94) ?_
      show Steps p.tables e below (T0.setTop (mkF m 96 _ [(.int (6 : Int32)), (.int (6 : Int32))])) t
      refine XS.icmpNo P0.here P0.x rfl (hb hby at_96) rfl (iiW_lt_f (by decide)) ?_
      show Steps p.tables e below (T0.setTop (mkF m 99 _ [])) t
      refine XS.lload P0.here P0.x rfl (hb hby at_99) rfl ?_
      show Steps p.tables e below (T0.setTop (mkF m 101 _ [(.long p2)])) t
      refine XS.bipush P0.here P0.x rfl (hb hby at_101) ?_
      show Steps p.tables e below (T0.setTop (mkF m 103 _ [(.int (32 : Int32)), (.long p2)])) t
      refine XS.lshr P0.here P0.x rfl (hb hby at_103) rfl ?_
      show Steps p.tables e below (T0.setTop (mkF m 104 _ [(.long (p2 >>> ((32 : Int32) &&& 0x3f).toInt64))])) t
      refine XS.l2i P0.here P0.x rfl (hb hby at_104) rfl ?_
      show Steps p.tables e below (T0.setTop (mkF m 105 _ [(.int (p2 >>> ((32 : Int32) &&& 0x3f).toInt64).toInt32)])) t
      refine XS.i2l P0.here P0.x rfl (hb hby at_105) rfl ?_
      show Steps p.tables e below (T0.setTop (mkF m 106 _ [(.long (p2 >>> ((32 : Int32) &&& 0x3f).toInt64).toInt32.toInt64)])) t
      refine XS.goto P0.here P0.x rfl (pc0 := 106) (pc' := 110) rfl (hb hby at_106) (by decide) (by decide) ?_
      show Steps p.tables e below (T0.setTop (mkF m 110 _ [(.long (p2 >>> ((32 : Int32) &&& 0x3f).toInt64).toInt32.toInt64)])) t
      refine XS.lstore P0.here P0.x rfl (hb hby at_110) rfl (l' := #[.val (.long p0), .second, .val (.long p1), .second, .val (.long p2), .second, .val (.long p3), .second, .val (.int p4), .val (.int (6 : Int32)), .val (.long p0.toInt32.toInt64), .second, .val (.long (p0 >>> ((32 : Int32) &&& 0x3f).toInt64).toInt32.toInt64), .second, .val (.long p1.toInt32.toInt64), .second, .val (.long (p1 >>> ((32 : Int32) &&& 0x3f).toInt64).toInt32.toInt64), .second, .val (.long p2.toInt32.toInt64), .second, .val (.long (p2 >>> ((32 : Int32) &&& 0x3f).toInt64).toInt32.toInt64), .second, .unset, .unset, .unset, .unset, .unset, .unset, .unset, .unset, .unset, .unset, .unset, .unset, .unset, .unset, .unset, .unset, .unset, .unset, .unset, .unset, .unset, .unset]) rfl ?_
      show Steps p.tables e below (T0.setTop (mkF m 112 _ [])) t
      refine XS.iload P0.here P0.x rfl (hb hby at_112) rfl ?_
      show Steps p.tables e below (T0.setTop (mkF m 114 _ [(.int (6 : Int32))])) t
      refine XS.bipush P0.here P0.x rfl (hb hby at_114) ?_
      show Steps p.tables e below (T0.setTop (mkF m 116 _ [(.int (7 : Int32)), (.int (6 : Int32))])) t
      refine XS.icmpYes P0.here P0.x rfl (pc0 := 116) (pc' := 126) rfl (hb hby at_116) rfl (iiW_lt_t (by decide)) (by decide) (by decide) ?_
      show Steps p.tables e below (T0.setTop (mkF m 126 _ [])) t
      refine XS.lconst P0.here P0.x rfl (hb hby at_126) ?_
      show Steps p.tables e below (T0.setTop (mkF m 127 _ [(.long (0 : Int64))])) t
      refine XS.lstore P0.here P0.x rfl (hb hby at_127) rfl (l' := #[.val (.long p0), .second, .val (.long p1), .second, .val (.long p2), .second, .val (.long p3), .second, .val (.int p4), .val (.int (6 : Int32)), .val (.long p0.toInt32.toInt64), .second, .val (.long (p0 >>> ((32 : Int32) &&& 0x3f).toInt64).toInt32.toInt64), .second, .val (.long p1.toInt32.toInt64), .second, .val (.long (p1 >>> ((32 : Int32) &&& 0x3f).toInt64).toInt32.toInt64), .second, .val (.long p2.toInt32.toInt64), .second, .val (.long (p2 >>> ((32 : Int32) &&& 0x3f).toInt64).toInt32.toInt64), .second, .val (.long (0 : Int64)), .second, .unset, .unset, .unset, .unset, .unset, .unset, .unset, .unset, .unset, .unset, .unset, .unset, .unset, .unset, .unset, .unset, .unset, .unset, .unset, .unset]) rfl ?_
      show Steps p.tables e below (T0.setTop (mkF m 129 _ [])) t
      refine XS.iload P0.here P0.x rfl (hb hby at_129) rfl ?_
      show Steps p.tables e below (T0.setTop (mkF m 131 _ [(.int (6 : Int32))])) t
      refine XS.bipush P0.here P0.x rfl (hb hby at_131) ?_
      show Steps p.tables e below (T0.setTop (mkF m 133 _ [(.int (8 : Int32)), (.int (6 : Int32))])) t
      refine XS.icmpYes P0.here P0.x rfl (pc0 := 133) (pc' := 146) rfl (hb hby at_133) rfl (iiW_lt_t (by decide)) (by decide) (by decide) ?_
      show Steps p.tables e below (T0.setTop (mkF m 146 _ [])) t
      refine XS.lconst P0.here P0.x rfl (hb hby at_146) ?_
      show Steps p.tables e below (T0.setTop (mkF m 147 _ [(.long (0 : Int64))])) t
      refine XS.lstore P0.here P0.x rfl (hb hby at_147) rfl (l' := #[.val (.long p0), .second, .val (.long p1), .second, .val (.long p2), .second, .val (.long p3), .second, .val (.int p4), .val (.int (6 : Int32)), .val (.long p0.toInt32.toInt64), .second, .val (.long (p0 >>> ((32 : Int32) &&& 0x3f).toInt64).toInt32.toInt64), .second, .val (.long p1.toInt32.toInt64), .second, .val (.long (p1 >>> ((32 : Int32) &&& 0x3f).toInt64).toInt32.toInt64), .second, .val (.long p2.toInt32.toInt64), .second, .val (.long (p2 >>> ((32 : Int32) &&& 0x3f).toInt64).toInt32.toInt64), .second, .val (.long (0 : Int64)), .second, .val (.long (0 : Int64)), .second, .unset, .unset, .unset, .unset, .unset, .unset, .unset, .unset, .unset, .unset, .unset, .unset, .unset, .unset, .unset, .unset, .unset, .unset]) rfl ?_
      exact kk
    exact tail 6 (6 : Int32) p0.toInt32.toInt64 (p0 >>> ((32 : Int32) &&& 0x3f).toInt64).toInt32.toInt64 p1.toInt32.toInt64 (p1 >>> ((32 : Int32) &&& 0x3f).toInt64).toInt32.toInt64 p2.toInt32.toInt64 (p2 >>> ((32 : Int32) &&& 0x3f).toInt64).toInt32.toInt64 (0 : Int64) (0 : Int64) (by decide) (by decide) (own_i2lb _) (own_i2lb _) (own_i2lb _) (own_i2lb _) (own_i2lb _) (own_i2lb _) (by decide) (by decide) (fun hh => absurd hh (by decide)) (fun hh => absurd hh (by decide)) (fun hh => absurd hh (by decide)) (fun hh => absurd hh (by decide)) (fun hh => absurd hh (by decide)) (fun hh => absurd hh (by decide)) (fun _ => by decide) (fun _ => by decide)
  · refine Done.step (T' := T0) (g' := (mkF m 149 #[.val (.long p0), .second, .val (.long p1), .second, .val (.long p2), .second, .val (.long p3), .second, .val (.int p4), .val (.int (7 : Int32)), .val (.long p0.toInt32.toInt64), .second, .val (.long (p0 >>> ((32 : Int32) &&& 0x3f).toInt64).toInt32.toInt64), .second, .val (.long p1.toInt32.toInt64), .second, .val (.long (p1 >>> ((32 : Int32) &&& 0x3f).toInt64).toInt32.toInt64), .second, .val (.long p2.toInt32.toInt64), .second, .val (.long (p2 >>> ((32 : Int32) &&& 0x3f).toInt64).toInt32.toInt64), .second, .val (.long p3.toInt32.toInt64), .second, .val (.long (0 : Int64)), .second, .unset, .unset, .unset, .unset, .unset, .unset, .unset, .unset, .unset, .unset, .unset, .unset, .unset, .unset, .unset, .unset, .unset, .unset] [])) (fun t kk => ?_) ?_
    · show Steps p.tables e below (T0.setTop (mkF m 10 _ [])) t
      refine XS.iload P0.here P0.x rfl (hb hby at_10) rfl ?_
      show Steps p.tables e below (T0.setTop (mkF m 12 _ [(.int (7 : Int32))])) t
      refine XS.iconst P0.here P0.x rfl (hb hby at_12) ?_
      show Steps p.tables e below (T0.setTop (mkF m 13 _ [(.int (1 : Int32)), (.int (7 : Int32))])) t
      refine XS.icmpNo P0.here P0.x rfl (hb hby at_13) rfl (iiW_lt_f (by decide)) ?_
      show Steps p.tables e below (T0.setTop (mkF m 16 _ [])) t
      refine XS.lloadN P0.here P0.x rfl (hb hby at_16) rfl ?_
      show Steps p.tables e below (T0.setTop (mkF m 17 _ [(.long p0)])) t
      refine XS.l2i P0.here P0.x rfl (hb hby at_17) rfl ?_
      show Steps p.tables e below (T0.setTop (mkF m 18 _ [(.int p0.toInt32)])) t
      refine XS.i2l P0.here P0.x rfl (hb hby at_18) rfl ?_
      show Steps p.tables e below (T0.setTop (mkF m 19 _ [(.long p0.toInt32.toInt64)])) t
      refine XS.goto P0.here P0.x rfl (pc0 := 19) (pc' := 23) rfl (hb hby at_19) (by decide) (by decide) ?_
      show Steps p.tables e below (T0.setTop (mkF m 23 _ [(.long p0.toInt32.toInt64)])) t
      refine XS.lstore P0.here P0.x rfl (hb hby at_23) rfl (l' := #[.val (.long p0), .second, .val (.long p1), .second, .val (.long p2), .second, .val (.long p3), .second, .val (.int p4), .val (.int (7 : Int32)), .val (.long p0.toInt32.toInt64), .second, .unset, .unset, .unset, .unset, .unset, .unset, .unset, .unset, .unset, .unset, .unset, .unset, .unset, .unset, .unset, .unset, .unset, .unset, .unset, .unset, .unset, .unset, .unset, .unset, .unset, .unset, .unset, .unset, .unset, .unset, .unset, .unset]) rfl ?_
      show Steps p.tables e below (T0.setTop (mkF m 25 _ [])) t
      refine XS.iload P0.here P0.x rfl (hb hby at_25) rfl ?_
      show Steps p.tables e below (T0.setTop (mkF m 27 _ [(.int (7 : Int32))])) t
      refine XS.iconst P0.here P0.x rfl (hb hby at_27) ?_
      show Steps p.tables e below (T0.setTop (mkF m 28 _ [(.int (2 : Int32)), (.int (7 : Int32))])) t
      refine XS.icmpNo P0.here P0.x rfl (hb hby at_28) rfl (iiW_lt_f (by decide)) ?_
      show Steps p.tables e below (T0.setTop (mkF m 31 _ [])) t
      refine XS.lloadN P0.here P0.x rfl (hb hby at_31) rfl ?_
      show Steps p.tables e below (T0.setTop (mkF m 32 _ [(.long p0)])) t
      refine XS.bipush P0.here P0.x rfl (hb hby at_32) ?_
      show Steps p.tables e below (T0.setTop (mkF m 34 _ [(.int (32 : Int32)), (.long p0)])) t
      refine XS.lshr P0.here P0.x rfl (hb hby at_34) rfl ?_
      show Steps p.tables e below (T0.setTop (mkF m 35 _ [(.long (p0 >>> ((32 : Int32) &&& 0x3f).toInt64))])) t
      refine XS.l2i P0.here P0.x rfl (hb hby at_35) rfl ?_
      show Steps p.tables e below (T0.setTop (mkF m 36 _ [(.int (p0 >>> ((32 : Int32) &&& 0x3f).toInt64).toInt32)])) t
      refine XS.i2l P0.here P0.x rfl (hb hby at_36) rfl ?_
      show Steps p.tables e below (T0.setTop (mkF m 37 _ [(.long (p0 >>> ((32 : Int32) &&& 0x3f).toInt64).toInt32.toInt64)])) t
      refine XS.goto P0.here P0.x rfl (pc0 := 37) (pc' := 41) rfl (hb hby at_37) (by decide) (by decide) ?_
      show Steps p.tables e below (T0.setTop (mkF m 41 _ [(.long (p0 >>> ((32 : Int32) &&& 0x3f).toInt64).toInt32.toInt64)])) t
      refine XS.lstore P0.here P0.x rfl (hb hby at_41) rfl (l' := #[.val (.long p0), .second, .val (.long p1), .second, .val (.long p2), .second, .val (.long p3), .second, .val (.int p4), .val (.int (7 : Int32)), .val (.long p0.toInt32.toInt64), .second, .val (.long (p0 >>> ((32 : Int32) &&& 0x3f).toInt64).toInt32.toInt64), .second, .unset, .unset, .unset, .unset, .unset, .unset, .unset, .unset, .unset, .unset, .unset, .unset, .unset, .unset, .unset, .unset, .unset, .unset, .unset, .unset, .unset, .unset, .unset, .unset, .unset, .unset, .unset, .unset, .unset, .unset]) rfl ?_
      show Steps p.tables e below (T0.setTop (mkF m 43 _ [])) t
      refine XS.iload P0.here P0.x rfl (hb hby at_43) rfl ?_
      show Steps p.tables e below (T0.setTop (mkF m 45 _ [(.int (7 : Int32))])) t
      refine XS.iconst P0.here P0.x rfl (hb hby at_45) ?_
      show Steps p.tables e below (T0.setTop (mkF m 46 _ [(.int (3 : Int32)), (.int (7 : Int32))])) t
      refine XS.icmpNo P0.here P0.x rfl (hb hby at_46) rfl (iiW_lt_f (by decide)) ?_
      show Steps p.tables e below (T0.setTop (mkF m 49 _ [])) t
      refine XS.lloadN P0.here P0.x rfl (hb hby at_49) rfl ?_
      show Steps p.tables e below (T0.setTop (mkF m 50 _ [(.long p1)])) t
      refine XS.l2i P0.here P0.x rfl (hb hby at_50) rfl ?_
      show Steps p.tables e below (T0.setTop (mkF m 51 _ [(.int p1.toInt32)])) t
      refine XS.i2l P0.here P0.x rfl (hb hby at_51) rfl ?_
      show Steps p.tables e below (T0.setTop (mkF m 52 _ [(.long p1.toInt32.toInt64)])) t
      refine XS.goto P0.here P0.x rfl (pc0 := 52) (pc' := 56) rfl (hb hby at_52) (by decide) (by decide) ?_
      show Steps p.tables e below (T0.setTop (mkF m 56 _ [(.long p1.toInt32.toInt64)])) t
      refine XS.lstore P0.here P0.x rfl (hb hby at_56) rfl (l' := #[.val (.long p0), .second, .val (.long p1), .second, .val (.long p2), .second, .val (.long p3), .second, .val (.int p4), .val (.int (7 : Int32)), .val (.long p0.toInt32.toInt64), .second, .val (.long (p0 >>> ((32 : Int32) &&& 0x3f).toInt64).toInt32.toInt64), .second, .val (.long p1.toInt32.toInt64), .second, .unset, .unset, .unset, .unset, .unset, .unset, .unset, .unset, .unset, .unset, .unset, .unset, .unset, .unset, .unset, .unset, .unset, .unset, .unset, .unset, .unset, .unset, .unset, .unset, .unset, .unset, .unset, .unset]) rfl ?_
      show Steps p.tables e below (T0.setTop (mkF m 58 _ [])) t
      refine XS.iload P0.here P0.x rfl (hb hby at_58) rfl ?_
      show Steps p.tables e below (T0.setTop (mkF m 60 _ [(.int (7 : Int32))])) t
      refine XS.iconst P0.here P0.x rfl (hb hby at_60) ?_
      show Steps p.tables e below (T0.setTop (mkF m 61 _ [(.int (4 : Int32)), (.int (7 : Int32))])) t
      refine XS.icmpNo P0.here P0.x rfl (hb hby at_61) rfl (iiW_lt_f (by decide)) ?_
      show Steps p.tables e below (T0.setTop (mkF m 64 _ [])) t
      refine XS.lloadN P0.here P0.x rfl (hb hby at_64) rfl ?_
      show Steps p.tables e below (T0.setTop (mkF m 65 _ [(.long p1)])) t
      refine XS.bipush P0.here P0.x rfl (hb hby at_65) ?_
      show Steps p.tables e below (T0.setTop (mkF m 67 _ [(.int (32 : Int32)), (.long p1)])) t
      refine XS.lshr P0.here P0.x rfl (hb hby at_67) rfl ?_
      show Steps p.tables e below (T0.setTop (mkF m 68 _ [(.long (p1 >>> ((32 : Int32) &&& 0x3f).toInt64))])) t
      refine XS.l2i P0.here P0.x rfl (hb hby at_68) rfl ?_
      show Steps p.tables e below (T0.setTop (mkF m 69 _ [(.int (p1 >>> ((32 : Int32) &&& 0x3f).toInt64).toInt32)])) t
      refine XS.i2l P0.here P0.x rfl (hb hby at_69) rfl ?_
      show Steps p.tables e below (T0.setTop (mkF m 70 _ [(.long (p1 >>> ((32 : Int32) &&& 0x3f).toInt64).toInt32.toInt64)])) t
      refine XS.goto P0.here P0.x rfl (pc0 := 70) (pc' := 74) rfl (hb hby at_70) (by decide) (by decide) ?_
      show Steps p.tables e below (T0.setTop (mkF m 74 _ [(.long (p1 >>> ((32 : Int32) &&& 0x3f).toInt64).toInt32.toInt64)])) t
      refine XS.lstore P0.here P0.x rfl (hb hby at_74) rfl (l' := #[.val (.long p0), .second, .val (.long p1), .second, .val (.long p2), .second, .val (.long p3), .second, .val (.int p4), .val (.int (7 : Int32)), .val (.long p0.toInt32.toInt64), .second, .val (.long (p0 >>> ((32 : Int32) &&& 0x3f).toInt64).toInt32.toInt64), .second, .val (.long p1.toInt32.toInt64), .second, .val (.long (p1 >>> ((32 : Int32) &&& 0x3f).toInt64).toInt32.toInt64), .second, .unset, .unset, .unset, .unset, .unset, .unset, .unset, .unset, .unset, .unset, .unset, .unset, .unset, .unset, .unset, .unset, .unset, .unset, .unset, .unset, .unset, .unset, .unset, .unset, .unset, .unset]) rfl ?_
      show Steps p.tables e below (T0.setTop (mkF m 76 _ [])) t
      refine XS.iload P0.here P0.x rfl (hb hby at_76) rfl ?_
      show Steps p.tables e below (T0.setTop (mkF m 78 _ [(.int (7 : Int32))])) t
      refine XS.iconst P0.here P0.x rfl (hb hby at_78) ?_
      show Steps p.tables e below (T0.setTop (mkF m 79 _ [(.int (5 : Int32)), (.int (7 : Int32))])) t
      refine XS.icmpNo P0.here P0.x rfl (hb hby at_79) rfl (iiW_lt_f (by decide)) ?_
      show Steps p.tables e below (T0.setTop (mkF m 82 _ [])) t
      refine XS.lload P0.here P0.x rfl (hb hby at_82) rfl ?_
      show Steps p.tables e below (T0.setTop (mkF m 84 _ [(.long p2)])) t
      refine XS.l2i P0.here P0.x rfl (hb hby at_84) rfl ?_
      show Steps p.tables e below (T0.setTop (mkF m 85 _ [(.int p2.toInt32)])) t
      refine XS.i2l P0.here P0.x rfl (hb hby at_85) rfl ?_
      show Steps p.tables e below (T0.setTop (mkF m 86 _ [(.long p2.toInt32.toInt64)])) t
      refine XS.goto P0.here P0.x rfl (pc0 := 86) (pc' := 90) rfl (hb hby at_86) (by decide) (by decide) ?_
      show Steps p.tables e below (T0.setTop (mkF m 90 _ [(.long p2.toInt32.toInt64)])) t
      refine XS.lstore P0.here P0.x rfl (hb hby at_90) rfl (l' := #[.val (.long p0), .second, .val (.long p1), .second, .val (.long p2), .second, .val (.long p3), .second, .val (.int p4), .val (.int (7 : Int32)), .val (.long p0.toInt32.toInt64), .second, .val (.long (p0 >>> ((32 : Int32) &&& 0x3f).toInt64).toInt32.toInt64), .second, .val (.long p1.toInt32.toInt64), .second, .val (.long (p1 >>> ((32 : Int32) &&& 0x3f).toInt64).toInt32.toInt64), .second, .val (.long p2.toInt32.toInt64), .second, .unset, .unset, .unset, .unset, .unset, .unset, .unset, .unset, .unset, .unset, .unset, .unset, .unset, .unset, .unset, .unset, .unset, .unset, .unset, .unset, .unset, .unset, .unset, .unset]) rfl ?_
      show Steps p.tables e below (T0.setTop (mkF m 92 _ [])) t
      refine XS.iload P0.here P0.x rfl (hb hby at_92) rfl ?_
      show Steps p.tables e below (T0.setTop (mkF m 94 _ [(.int (7 : Int32))])) t
      refine XS.bipush P0.here P0.x rfl (hb hby at_94) ?_
      show Steps p.tables e below (T0.setTop (mkF m 96 _ [(.int (6 : Int32)), (.int (7 : Int32))])) t
      refine XS.icmpNo P0.here P0.x rfl (hb hby at_96) rfl (iiW_lt_f (by decide)) ?_
      show Steps p.tables e below (T0.setTop (mkF m 99 _ [])) t
      refine XS.lload P0.here P0.x rfl (hb hby at_99) rfl ?_
      show Steps p.tables e below (T0.setTop (mkF m 101 _ [(.long p2)])) t
      refine XS.bipush P0.here P0.x rfl (hb hby at_101) ?_
      show Steps p.tables e below (T0.setTop (mkF m 103 _ [(.int (32 : Int32)), (.long p2)])) t
      refine XS.lshr P0.here P0.x rfl (hb hby at_103) rfl ?_
      show Steps p.tables e below (T0.setTop (mkF m 104 _ [(.long (p2 >>> ((32 : Int32) &&& 0x3f).toInt64))])) t
      refine XS.l2i P0.here P0.x rfl (hb hby at_104) rfl ?_
      show Steps p.tables e below (T0.setTop (mkF m 105 _ [(.int (p2 >>> ((32 : Int32) &&& 0x3f).toInt64).toInt32)])) t
      refine XS.i2l P0.here P0.x rfl (hb hby at_105) rfl ?_
      show Steps p.tables e below (T0.setTop (mkF m 106 _ [(.long (p2 >>> ((32 : Int32) &&& 0x3f).toInt64).toInt32.toInt64)])) t
      refine XS.goto P0.here P0.x rfl (pc0 := 106) (pc' := 110) rfl (hb hby at_106) (by decide) (by decide) ?_
      show Steps p.tables e below (T0.setTop (mkF m 110 _ [(.long (p2 >>> ((32 : Int32) &&& 0x3f).toInt64).toInt32.toInt64)])) t
      refine XS.lstore P0.here P0.x rfl (hb hby at_110) rfl (l' := #[.val (.long p0), .second, .val (.long p1), .second, .val (.long p2), .second, .val (.long p3), .second, .val (.int p4), .val (.int (7 : Int32)), .val (.long p0.toInt32.toInt64), .second, .val (.long (p0 >>> ((32 : Int32) &&& 0x3f).toInt64).toInt32.toInt64), .second, .val (.long p1.toInt32.toInt64), .second, .val (.long (p1 >>> ((32 : Int32) &&& 0x3f).toInt64).toInt32.toInt64), .second, .val (.long p2.toInt32.toInt64), .second, .val (.long (p2 >>> ((32 : Int32) &&& 0x3f).toInt64).toInt32.toInt64), .second, .unset, .unset, .unset, .unset, .unset, .unset, .unset, .unset, .unset, .unset, .unset, .unset, .unset, .unset, .unset, .unset, .unset, .unset, .unset, .unset, .unset, .unset]) rfl ?_
      show Steps p.tables e below (T0.setTop (mkF m 112 _ [])) t
      refine XS.iload P0.here P0.x rfl (hb hby at_112) rfl ?_
      show Steps p.tables e below (T0.setTop (mkF m 114 _ [(.int (7 : Int32))])) t
      refine XS.bipush P0.here P0.x rfl (hb hby at_114) ?_
      show Steps p.tables e below (T0.setTop (mkF m 116 _ [(.int (7 : Int32)), (.int (7 : Int32))])) t
      refine XS.icmpNo P0.here P0.x rfl (hb hby at_116) rfl (iiW_lt_f (by decide)) ?_
      show Steps p.tables e below (T0.setTop (mkF m 119 _ [])) t
      refine XS.lload P0.here P0.x rfl (hb hby at_119) rfl ?_
      show Steps p.tables e below (T0.setTop (mkF m 121 _ [(.long p3)])) t
      refine XS.l2i P0.here P0.x rfl (hb hby at_121) rfl ?_
      show Steps p.tables e below (T0.setTop (mkF m 122 _ [(.int p3.toInt32)])) t
      refine XS.i2l P0.here P0.x rfl (hb hby at_122) rfl ?_
      show Steps p.tables e below (T0.setTop (mkF m 123 _ [(.long p3.toInt32.toInt64)])) t
      refine XS.goto P0.here P0.x rfl (pc0 := 123) (pc' := 127) rfl (hb hby at_123) (by decide) (by decide) ?_
      show Steps p.tables e below (T0.setTop (mkF m 127 _ [(.long p3.toInt32.toInt64)])) t
      refine XS.lstore P0.here P0.x rfl (hb hby at_127) rfl (l' := #[.val (.long p0), .second, .val (.long p1), .second, .val (.long p2), .second, .val (.long p3), .second, .val (.int p4), .val (.int (7 : Int32)), .val (.long p0.toInt32.toInt64), .second, .val (.long (p0 >>> ((32 : Int32) &&& 0x3f).toInt64).toInt32.toInt64), .second, .val (.long p1.toInt32.toInt64), .second, .val (.long (p1 >>> ((32 : Int32) &&& 0x3f).toInt64).toInt32.toInt64), .second, .val (.long p2.toInt32.toInt64), .second, .val (.long (p2 >>> ((32 : Int32) &&& 0x3f).toInt64).toInt32.toInt64), .second, .val (.long p3.toInt32.toInt64), .second, .unset, .unset, .unset, .unset, .unset, .unset, .unset, .unset, .unset, .unset, .unset, .unset, .unset, .unset, .unset, .unset, .unset, .unset, .unset, .unset]) rfl ?_
      show Steps p.tables e below (T0.setTop (mkF m 129 _ [])) t
      refine XS.iload P0.here P0.x rfl (hb hby at_129) rfl ?_
      show Steps p.tables e below (T0.setTop (mkF m 131 _ [(.int (7 : Int32))])) t
      refine XS.bipush P0.here P0.x rfl (hb hby at_131) ?_
      show Steps p.tables e below (T0.setTop (mkF m 133 _ [(.int (8 : Int32)), (.int (7 : Int32))])) t
      refine XS.icmpYes P0.here P0.x rfl (pc0 := 133) (pc' := 146) rfl (hb hby at_133) rfl (iiW_lt_t (by decide)) (by decide) (by decide) ?_
      show Steps p.tables e below (T0.setTop (mkF m 146 _ [])) t
      refine XS.lconst P0.here P0.x rfl (hb hby at_146) ?_
      show Steps p.tables e below (T0.setTop (mkF m 147 _ [(.long (0 : Int64))])) t
      refine XS.lstore P0.here P0.x rfl (hb hby at_147) rfl (l' := #[.val (.long p0), .second, .val (.long p1), .second, .val (.long p2), .second, .val (.long p3), .second, .val (.int p4), .val (.int (7 : Int32)), .val (.long p0.toInt32.toInt64), .second, .val (.long (p0 >>> ((32 : Int32) &&& 0x3f).toInt64).toInt32.toInt64), .second, .val (.long p1.toInt32.toInt64), .second, .val (.long (p1 >>> ((32 : Int32) &&& 0x3f).toInt64).toInt32.toInt64), .second, .val (.long p2.toInt32.toInt64), .second, .val (.long (p2 >>> ((32 : Int32) &&& 0x3f).toInt64).toInt32.toInt64), .second, .val (.long p3.toInt32.toInt64), .second, .val (.long (0 : Int64)), .second, .unset, .unset, .unset, .unset, .unset, .unset, .unset, .unset, .unset, .unset, .unset, .unset, .unset, .unset, .unset, .unset, .unset, .unset]) rfl ?_
      exact kk
    exact tail 7 (7 : Int32) p0.toInt32.toInt64 (p0 >>> ((32 : Int32) &&& 0x3f).toInt64).toInt32.toInt64 p1.toInt32.toInt64 (p1 >>> ((32 : Int32) &&& 0x3f).toInt64).toInt32.toInt64 p2.toInt32.toInt64 (p2 >>> ((32 : Int32) &&& 0x3f).toInt64).toInt32.toInt64 p3.toInt32.toInt64 (0 : Int64) (by decide) (by decide) (own_i2lb _) (own_i2lb _) (own_i2lb _) (own_i2lb _) (own_i2lb _) (own_i2lb _) (own_i2lb _) (by decide) (fun hh => absurd hh (by decide)) (fun hh => absurd hh (by decide)) (fun hh => absurd hh (by decide)) (fun hh => absurd hh (by decide)) (fun hh => absurd hh (by decide)) (fun hh => absurd hh (by decide)) (fun hh => absurd hh (by decide)) (fun _ => by decide)
  · refine Done.step (T' := T0) (g' := (mkF m 149 #[.val (.long p0), .second, .val (.long p1), .second, .val (.long p2), .second, .val (.long p3), .second, .val (.int p4), .val (.int (8 : Int32)), .val (.long p0.toInt32.toInt64), .second, .val (.long (p0 >>> ((32 : Int32) &&& 0x3f).toInt64).toInt32.toInt64), .second, .val (.long p1.toInt32.toInt64), .second, .val (.long (p1 >>> ((32 : Int32) &&& 0x3f).toInt64).toInt32.toInt64), .second, .val (.long p2.toInt32.toInt64), .second, .val (.long (p2 >>> ((32 : Int32) &&& 0x3f).toInt64).toInt32.toInt64), .second, .val (.long p3.toInt32.toInt64), .second, .val (.long (p3 >>> ((32 : Int32) &&& 0x3f).toInt64).toInt32.toInt64), .second, .unset, .unset, .unset, .unset, .unset, .unset, .unset, .unset, .unset, .unset, .unset, .unset, .unset, .unset, .unset, .unset, .unset, .unset] [])) (fun t kk => ?_) ?_
    · show Steps p.tables e below (T0.setTop (mkF m 10 _ [])) t
      refine XS.iload P0.here P0.x rfl (hb hby at_10) rfl ?_
      show Steps p.tables e below (T0.setTop (mkF m 12 _ [(.int (8 : Int32))])) t
      refine XS.iconst P0.here P0.x rfl (hb hby at_12) ?_
      show Steps p.tables e below (T0.setTop (mkF m 13 _ [(.int (1 : Int32)), (.int (8 : Int32))])) t
      refine XS.icmpNo P0.here P0.x rfl (hb hby at_13) rfl (iiW_lt_f (by decide)) ?_
      show Steps p.tables e below (T0.setTop (mkF m 16 _ [])) t
      refine XS.lloadN P0.here P0.x rfl (hb hby at_16) rfl ?_
      show Steps p.tables e below (T0.setTop (mkF m 17 _ [(.long p0)])) t
      refine XS.l2i P0.here P0.x rfl (hb hby at_17) rfl ?_
      show Steps p.tables e below (T0.setTop (mkF m 18 _ [(.int p0.toInt32)])) t
      refine XS.i2l P0.here P0.x rfl (hb hby at_18) rfl ?_
      show Steps p.tables e below (T0.setTop (mkF m 19 _ [(.long p0.toInt32.toInt64)])) t
      refine XS.goto P0.here P0.x rfl (pc0 := 19) (pc' := 23) rfl (hb hby at_19) (by decide) (by decide) ?_
      show Steps p.tables e below (T0.setTop (mkF m 23 _ [(.long p0.toInt32.toInt64)])) t
      refine XS.lstore P0.here P0.x rfl (hb hby at_23) rfl (l' := #[.val (.long p0), .second, .val (.long p1), .second, .val (.long p2), .second, .val (.long p3), .second, .val (.int p4), .val (.int (8 : Int32)), .val (.long p0.toInt32.toInt64), .second, .unset, .unset, .unset, .unset, .unset, .unset, .unset, .unset, .unset, .unset, .unset, .unset, .unset, .unset, .unset, .unset, .unset, .unset, .unset, .unset, .unset, .unset, .unset, .unset, .unset, .unset, .unset, .unset, .unset, .unset, .unset, .unset]) rfl ?_
      show Steps p.tables e below (T0.setTop (mkF m 25 _ [])) t
      refine XS.iload P0.here P0.x rfl (hb hby at_25) rfl ?_
      show Steps p.tables e below (T0.setTop (mkF m 27 _ [(.int (8 : Int32))])) t
      refine XS.iconst P0.here P0.x rfl (hb hby at_27) ?_
      show Steps p.tables e below (T0.setTop (mkF m 28 _ [(.int (2 : Int32)), (.int (8 : Int32))])) t
      refine XS.icmpNo P0.here P0.x rfl (hb hby at_28) rfl (iiW_lt_f (by decide)) ?_
      show Steps p.tables e below (T0.setTop (mkF m 31 _ [])) t
      refine XS.lloadN P0.here P0.x rfl (hb hby at_31) rfl ?_
      show Steps p.tables e below (T0.setTop (mkF m 32 _ [(.long p0)])) t
      refine XS.bipush P0.here P0.x rfl (hb hby at_32) ?_
      show Steps p.tables e below (T0.setTop (mkF m 34 _ [(.int (32 : Int32)), (.long p0)])) t
      refine XS.lshr P0.here P0.x rfl (hb hby at_34) rfl ?_
      show Steps p.tables e below (T0.setTop (mkF m 35 _ [(.long (p0 >>> ((32 : Int32) &&& 0x3f).toInt64))])) t
      refine XS.l2i P0.here P0.x rfl (hb hby at_35) rfl ?_
      show Steps p.tables e below (T0.setTop (mkF m 36 _ [(.int (p0 >>> ((32 : Int32) &&& 0x3f).toInt64).toInt32)])) t
      refine XS.i2l P0.here P0.x rfl (hb hby at_36) rfl ?_
      show Steps p.tables e below (T0.setTop (mkF m 37 _ [(.long (p0 >>> ((32 : Int32) &&& 0x3f).toInt64).toInt32.toInt64)])) t
      refine XS.goto P0.here P0.x rfl (pc0 := 37) (pc' := 41) rfl (hb hby at_37) (by decide) (by decide) ?_
      show Steps p.tables e below (T0.setTop (mkF m 41 _ [(.long (p0 >>> ((32 : Int32) &&& 0x3f).toInt64).toInt32.toInt64)])) t
      refine XS.lstore P0.here P0.x rfl (hb hby at_41) rfl (l' := #[.val (.long p0), .second, .val (.long p1), .second, .val (.long p2), .second, .val (.long p3), .second, .val (.int p4), .val (.int (8 : Int32)), .val (.long p0.toInt32.toInt64), .second, .val (.long (p0 >>> ((32 : Int32) &&& 0x3f).toInt64).toInt32.toInt64), .second, .unset, .unset, .unset, .unset, .unset, .unset, .unset, .unset, .unset, .unset, .unset, .unset, .unset, .unset, .unset, .unset, .unset, .unset, .unset, .unset, .unset, .unset, .unset, .unset, .unset, .unset, .unset, .unset, .unset, .unset]) rfl ?_
      show Steps p.tables e below (T0.setTop (mkF m 43 _ [])) t
      refine XS.iload P0.here P0.x rfl (hb hby at_43) rfl ?_
      show Steps p.tables e below (T0.setTop (mkF m 45 _ [(.int (8 : Int32))])) t
      refine XS.iconst P0.here P0.x rfl (hb hby at_45) ?_
      show Steps p.tables e below (T0.setTop (mkF m 46 _ [(.int (3 : Int32)), (.int (8 : Int32))])) t
      refine XS.icmpNo P0.here P0.x rfl (hb hby at_46) rfl (iiW_lt_f (by decide)) ?_
      show Steps p.tables e below (T0.setTop (mkF m 49 _ [])) t
      refine XS.lloadN P0.here P0.x rfl (hb hby at_49) rfl ?_
      show Steps p.tables e below (T0.setTop (mkF m 50 _ [(.long p1)])) t
      refine XS.l2i P0.here P0.x rfl (hb hby at_50) rfl ?_
      show Steps p.tables e below (T0.setTop (mkF m 51 _ [(.int p1.toInt32)])) t
      refine XS.i2l P0.here P0.x rfl (hb hby at_51) rfl ?_
      show Steps p.tables e below (T0.setTop (mkF m 52 _ [(.long p1.toInt32.toInt64)])) t
      refine XS.goto P0.here P0.x rfl (pc0 := 52) (pc' := 56) rfl (hb hby at_52) (by decide) (by decide) ?_
      show Steps p.tables e below (T0.setTop (mkF m 56 _ [(.long p1.toInt32.toInt64)])) t
      refine XS.lstore P0.here P0.x rfl (hb hby at_56) rfl (l' := #[.val (.long p0), .second, .val (.long p1), .second, .val (.long p2), .second, .val (.long p3), .second, .val (.int p4), .val (.int (8 : Int32)), .val (.long p0.toInt32.toInt64), .second, .val (.long (p0 >>> ((32 : Int32) &&& 0x3f).toInt64).toInt32.toInt64), .second, .val (.long p1.toInt32.toInt64), .second, .unset, .unset, .unset, .unset, .unset, .unset, .unset, .unset, .unset, .unset, .unset, .unset, .unset, .unset, .unset, .unset, .unset, .unset, .unset, .unset, .unset, .unset, .unset, .unset, .unset, .unset, .unset, .unset]) rfl ?_
      show Steps p.tables e below (T0.setTop (mkF m 58 _ [])) t
      refine XS.iload P0.here P0.x rfl (hb hby at_58) rfl ?_
      show Steps p.tables e below (T0.setTop (mkF m 60 _ [(.int (8 : Int32))])) t
      refine XS.iconst P0.here P0.x rfl (hb hby at_60) ?_
      show Steps p.tables e below (T0.setTop (mkF m 61 _ [(.int (4 : Int32)), (.int (8 : Int32))])) t
      refine XS.icmpNo P0.here P0.x rfl (hb hby at_61) rfl (iiW_lt_f (by decide)) ?_
      show Steps p.tables e below (T0.setTop (mkF m 64 _ [])) t
      refine XS.lloadN P0.here P0.x rfl (hb hby at_64) rfl ?_
      show Steps p.tables e below (T0.setTop (mkF m 65 _ [(.long p1)])) t
      refine XS.bipush P0.here P0.x rfl (hb hby at_65) ?_
      show Steps p.tables e below (T0.setTop (mkF m 67 _ [(.int (32 : Int32)), (.long p1)])) t
      refine XS.lshr P0.here P0.x rfl (hb hby at_67) rfl ?_
      show Steps p.tables e below (T0.setTop (mkF m 68 _ [(.long (p1 >>> ((32 : Int32) &&& 0x3f).toInt64))])) t
      refine XS.l2i P0.here P0.x rfl (hb hby at_68) rfl ?_
      show Steps p.tables e below (T0.setTop (mkF m 69 _ [(.int (p1 >>> ((32 : Int32) &&& 0x3f).toInt64).toInt32)])) t
      refine XS.i2l P0.here P0.x rfl (hb hby at_69) rfl ?_
      show Steps p.tables e below (T0.setTop (mkF m 70 _ [(.long (p1 >>> ((32 : Int32) &&& 0x3f).toInt64).toInt32.toInt64)])) t
      refine XS.goto P0.here P0.x rfl (pc0 := 70) (pc' := 74) rfl (hb hby at_70) (by decide) (by decide) ?_
      show Steps p.tables e below (T0.setTop (mkF m 74 _ [(.long (p1 >>> ((32 : Int32) &&& 0x3f).toInt64).toInt32.toInt64)])) t
      refine XS.lstore P0.here P0.x rfl (hb hby at_74) rfl (l' := #[.val (.long p0), .second, .val (.long p1), .second, .val (.long p2), .second, .val (.long p3), .second, .val (.int p4), .val (.int (8 : Int32)), .val (.long p0.toInt32.toInt64), .second, .val (.long (p0 >>> ((32 : Int32) &&& 0x3f).toInt64).toInt32.toInt64), .second, .val (.long p1.toInt32.toInt64), .second, .val (.long (p1 >>> ((32 : Int32) &&& 0x3f).toInt64).toInt32.toInt64), .second, .unset, .unset, .unset, .unset, .unset, .unset, .unset, .unset, .unset, .unset, .unset, .unset, .unset, .unset, .unset, .unset, .unset, .unset, .unset, .unset, .unset, .unset, .unset, .unset, .unset, .unset]) rfl ?_
      show Steps p.tables e below (T0.setTop (mkF m 76 _ [])) t
      refine XS.iload P0.here P0.x rfl (hb hby at_76) rfl ?_
      show Steps p.tables e below (T0.setTop (mkF m 78 _ [(.int (8 : Int32))])) t
      refine XS.iconst P0.here P0.x rfl (hb hby at_78) ?_
      show Steps p.tables e below (T0.setTop (mkF m 79 _ [(.int (5 : Int32)), (.int (8 : Int32))])) t
      refine XS.icmpNo P0.here P0.x rfl (hb hby at_79) rfl (iiW_lt_f (by decide)) ?_
      show Steps p.tables e below (T0.setTop (mkF m 82 _ [])) t
      refine XS.lload P0.here P0.x rfl (hb hby at_82) rfl ?_
      show Steps p.tables e below (T0.setTop (mkF m 84 _ [(.long p2)])) t
      refine XS.l2i P0.here P0.x rfl (hb hby at_84) rfl ?_
      show Steps p.tables e below (T0.setTop (mkF m 85 _ [(.int p2.toInt32)])) t
      refine XS.i2l P0.here P0.x rfl (hb hby at_85) rfl ?_
      show Steps p.tables e below (T0.setTop (mkF m 86 _ [(.long p2.toInt32.toInt64)])) t
      refine XS.goto P0.here P0.x rfl (pc0 := 86) (pc' := 90) rfl (hb hby at_86) (by decide) (by decide) ?_
      show Steps p.tables e below (T0.setTop (mkF m 90 _ [(.long p2.toInt32.toInt64)])) t
      refine XS.lstore P0.here P0.x rfl (hb hby at_90) rfl (l' := #[.val (.long p0), .second, .val (.long p1), .second, .val (.long p2), .second, .val (.long p3), .second, .val (.int p4), .val (.int (8 : Int32)), .val (.long p0.toInt32.toInt64), .second, .val (.long (p0 >>> ((32 : Int32) &&& 0x3f).toInt64).toInt32.toInt64), .second, .val (.long p1.toInt32.toInt64), .second, .val (.long (p1 >>> ((32 : Int32) &&& 0x3f).toInt64).toInt32.toInt64), .second, .val (.long p2.toInt32.toInt64), .second, .unset, .unset, .unset, .unset, .unset, .unset, .unset, .unset, .unset, .unset, .unset, .unset, .unset, .unset, .unset, .unset, .unset, .unset, .unset, .unset, .unset, .unset, .unset, .unset]) rfl ?_
      show Steps p.tables e below (T0.setTop (mkF m 92 _ [])) t
      refine XS.iload P0.here P0.x rfl (hb hby at_92) rfl ?_
      show Steps p.tables e below (T0.setTop (mkF m 94 _ [(.int (8 : Int32))])) t
      refine XS.bipush P0.here P0.x rfl (hb hby at_94) ?_
      show Steps p.tables e below (T0.setTop (mkF m 96 _ [(.int (6 : Int32)), (.int (8 : Int32))])) t
      refine XS.icmpNo P0.here P0.x rfl (hb hby at_96) rfl (iiW_lt_f (by decide)) ?_
      show Steps p.tables e below (T0.setTop (mkF m 99 _ [])) t
      refine XS.lload P0.here P0.x rfl (hb hby at_99) rfl ?_
      show Steps p.tables e below (T0.setTop (mkF m 101 _ [(.long p2)])) t
      refine XS.bipush P0.here P0.x rfl (hb hby at_101) ?_
      show Steps p.tables e below (T0.setTop (mkF m 103 _ [(.int (32 : Int32)), (.long p2)])) t
      refine XS.lshr P0.here P0.x rfl (hb hby at_103) rfl ?_
      show Steps p.tables e below (T0.setTop (mkF m 104 _ [(.long (p2 >>> ((32 : Int32) &&& 0x3f).toInt64))])) t
      refine XS.l2i P0.here P0.x rfl (hb hby at_104) rfl ?_
      show Steps p.tables e below (T0.setTop (mkF m 105 _ [(.int (p2 >>> ((32 : Int32) &&& 0x3f).toInt64).toInt32)])) t
      refine XS.i2l P0.here P0.x rfl (hb hby at_105) rfl ?_
      show Steps p.tables e below (T0.setTop (mkF m 106 _ [(.long (p2 >>> ((32 : Int32) &&& 0x3f).toInt64).toInt32.toInt64)])) t
      refine XS.goto P0.here P0.x rfl (pc0 := 106) (pc' := 110) rfl (hb hby at_106) (by decide) (by decide) ?_
      show Steps p.tables e below (T0.setTop (mkF m 110 _ [(.long (p2 >>> ((32 : Int32) &&& 0x3f).toInt64).toInt32.toInt64)])) t
      refine XS.lstore P0.here P0.x rfl (hb hby at_110) rfl (l' := #[.val (.long p0), .second, .val (.long p1), .second, .val (.long p2), .second, .val (.long p3), .second, .val (.int p4), .val (.int (8 : Int32)), .val (.long p0.toInt32.toInt64), .second, .val (.long (p0 >>> ((32 : Int32) &&& 0x3f).toInt64).toInt32.toInt64), .second, .val (.long p1.toInt32.toInt64), .second, .val (.long (p1 >>> ((32 : Int32) &&& 0x3f).toInt64).toInt32.toInt64), .second, .val (.long p2.toInt32.toInt64), .second, .val (.long (p2 >>> ((32 : Int32) &&& 0x3f).toInt64).toInt32.toInt64), .second, .unset, .unset, .unset, .unset, .unset, .unset, .unset, .unset, .unset, .unset, .unset, .unset, .unset, .unset, .unset, .unset, .unset, .unset, .unset, .unset, .unset, .unset]) rfl ?_
      show Steps p.tables e below (T0.setTop (mkF m 112 _ [])) t
      refine XS.iload P0.here P0.x rfl (hb hby at_112) rfl ?_
      show Steps p.tables e below (T0.setTop (mkF m 114 _ [(.int (8 : Int32))])) t
      refine XS.bipush P0.here P0.x rfl (hb hby at_114) ?_
      show Steps p.tables e below (T0.setTop (mkF m 116 _ [(.int (7 : Int32)), (.int (8 : Int32))])) t
      refine XS.icmpNo P0.here P0.x rfl (hb hby at_116) rfl (iiW_lt_f (by decide)) ?_
      show Steps p.tables e below (T0.setTop (mkF m 119 _ [])) t
      refine XS.lload P0.here P0.x rfl (hb hby at_119) rfl ?_
      show Steps p.tables e below (T0.setTop (mkF m 121 _ [(.long p3)])) t
      refine XS.l2i P0.here P0.x rfl (hb hby at_121) rfl ?_
      show Steps p.tables e below (T0.setTop (mkF m 122 _ [(.int p3.toInt32)])) t
      refine XS.i2l P0.here P0.x rfl (hb hby at_122) rfl ?_
      show Steps p.tables e below (T0.setTop (mkF m 123 _ [(.long p3.toInt32.toInt64)])) t
      refine XS.goto P0.here P0.x rfl (pc0 := 123) (pc' := 127) rfl (hb hby at_123) (by decide) (by decide) ?_
      show Steps p.tables e below (T0.setTop (mkF m 127 _ [(.long p3.toInt32.toInt64)])) t
      refine XS.lstore P0.here P0.x rfl (hb hby at_127) rfl (l' := #[.val (.long p0), .second, .val (.long p1), .second, .val (.long p2), .second, .val (.long p3), .second, .val (.int p4), .val (.int (8 : Int32)), .val (.long p0.toInt32.toInt64), .second, .val (.long (p0 >>> ((32 : Int32) &&& 0x3f).toInt64).toInt32.toInt64), .second, .val (.long p1.toInt32.toInt64), .second, .val (.long (p1 >>> ((32 : Int32) &&& 0x3f).toInt64).toInt32.toInt64), .second, .val (.long p2.toInt32.toInt64), .second, .val (.long (p2 >>> ((32 : Int32) &&& 0x3f).toInt64).toInt32.toInt64), .second, .val (.long p3.toInt32.toInt64), .second, .unset, .unset, .unset, .unset, .unset, .unset, .unset, .unset, .unset, .unset, .unset, .unset, .unset, .unset, .unset, .unset, .unset, .unset, .unset, .unset]) rfl ?_
      show Steps p.tables e below (T0.setTop (mkF m 129 _ [])) t
      refine XS.iload P0.here P0.x rfl (hb hby at_129) rfl ?_
      show Steps p.tables e below (T0.setTop (mkF m 131 _ [(.int (8 : Int32))])) t
      refine XS.bipush P0.here P0.x rfl (hb hby at_131) ?_
      show Steps p.tables e below (T0.setTop (mkF m 133 _ [(.int (8 : Int32)), (.int (8 : Int32))])) t
      refine XS.icmpNo P0.here P0.x rfl (hb hby at_133) rfl (iiW_lt_f (by decide)) ?_
      show Steps p.tables e below (T0.setTop (mkF m 136 _ [])) t
      refine XS.lload P0.here P0.x rfl (hb hby at_136) rfl ?_
      show Steps p.tables e below (T0.setTop (mkF m 138 _ [(.long p3)])) t
      refine XS.bipush P0.here P0.x rfl (hb hby at_138) ?_
      show Steps p.tables e below (T0.setTop (mkF m 140 _ [(.int (32 : Int32)), (.long p3)])) t
      refine XS.lshr P0.here P0.x rfl (hb hby at_140) rfl ?_
      show Steps p.tables e below (T0.setTop (mkF m 141 _ [(.long (p3 >>> ((32 : Int32) &&& 0x3f).toInt64))])) t
      refine XS.l2i P0.here P0.x rfl (hb hby at_141) rfl ?_
      show Steps p.tables e below (T0.setTop (mkF m 142 _ [(.int (p3 >>> ((32 : Int32) &&& 0x3f).toInt64).toInt32)])) t
      refine XS.i2l P0.here P0.x rfl (hb hby at_142) rfl ?_
      show Steps p.tables e below (T0.setTop (mkF m 143 _ [(.long (p3 >>> ((32 : Int32) &&& 0x3f).toInt64).toInt32.toInt64)])) t
      refine XS.goto P0.here P0.x rfl (pc0 := 143) (pc' := 147) rfl (hb hby at_143) (by decide) (by decide) ?_
      show Steps p.tables e below (T0.setTop (mkF m 147 _ [(.long (p3 >>> ((32 : Int32) &&& 0x3f).toInt64).toInt32.toInt64)])) t
      refine XS.lstore P0.here P0.x rfl (hb hby at_147) rfl (l' := #[.val (.long p0), .second, .val (.long p1), .second, .val (.long p2), .second, .val (.long p3), .second, .val (.int p4), .val (.int (8 : Int32)), .val (.long p0.toInt32.toInt64), .second, .val (.long (p0 >>> ((32 : Int32) &&& 0x3f).toInt64).toInt32.toInt64), .second, .val (.long p1.toInt32.toInt64), .second, .val (.long (p1 >>> ((32 : Int32) &&& 0x3f).toInt64).toInt32.toInt64), .second, .val (.long p2.toInt32.toInt64), .second, .val (.long (p2 >>> ((32 : Int32) &&& 0x3f).toInt64).toInt32.toInt64), .second, .val (.long p3.toInt32.toInt64), .second, .val (.long (p3 >>> ((32 : Int32) &&& 0x3f).toInt64).toInt32.toInt64), .second, .unset, .unset, .unset, .unset, .unset, .unset, .unset, .unset, .unset, .unset, .unset, .unset, .unset, .unset, .unset, .unset, .unset, .unset]) rfl ?_
      exact kk
    exact tail 8 (8 : Int32) p0.toInt32.toInt64 (p0 >>> ((32 : Int32) &&& 0x3f).toInt64).toInt32.toInt64 p1.toInt32.toInt64 (p1 >>> ((32 : Int32) &&& 0x3f).toInt64).toInt32.toInt64 p2.toInt32.toInt64 (p2 >>> ((32 : Int32) &&& 0x3f).toInt64).toInt32.toInt64 p3.toInt32.toInt64 (p3 >>> ((32 : Int32) &&& 0x3f).toInt64).toInt32.toInt64 (by decide) (by decide) (own_i2lb _) (own_i2lb _) (own_i2lb _) (own_i2lb _) (own_i2lb _) (own_i2lb _) (own_i2lb _) (own_i2lb _) (fun hh => absurd hh (by decide)) (fun hh => absurd hh (by decide)) (fun hh => absurd hh (by decide)) (fun hh => absurd hh (by decide)) (fun hh => absurd hh (by decide)) (fun hh => absurd hh (by decide)) (fun hh => absurd hh (by decide)) (fun hh => absurd hh (by decide))
set_option maxRecDepth 65536 in
set_option maxHeartbeats 4000000 in
theorem comes_1 {Post : Tables → Env → Array Value → State → Outcome → State → Prop} (hpost : ∀ tb e args s v u, (limb_1_1.after args s (.returned v) u = true ∧ limb_1_2.after args s (.returned v) u = true ∧ True) → FrameEnd s (.returned v) u (Jvm.fieldLocs frame_1_writes args s ++ Jvm.arrayLocs frame_1_arrays args s ++ Jvm.staticLocs frame_1_statics s) 40 256 → Post tb e args s (.returned v) u) :
    ArmFor flags0 classFile x code maxLocals ret World_1 tables_1 room_1 Calls_1 rest_1 Pre_1 Post := by
  intro l hfl _ _ p e ha hc hk s m args below hf hA hF happ hP
  obtain ⟨hcalls, hrest, hpre⟩ := hP
  obtain ⟨-, -, -, hnamed, -, -, -, hat⟩ := (Spec.applies_iff hf).mp happ
  obtain ⟨hg, hn⟩ := and_e (Cond.before_iff.mp (show (Jvm.Cond.and given_1 narrow_1).before args s = true from hpre))
  obtain ⟨h1, g0⟩ := and_e hg
  obtain ⟨q0, g1⟩ := and_e g0
  obtain ⟨q1, g2⟩ := and_e g1
  obtain ⟨q2, g3⟩ := and_e g2
  obtain ⟨q3, g4⟩ := and_e g3
  obtain ⟨w0, w1, w2, w3, w4, rfl⟩ : ∃ w0 w1 w2 w3 w4 : Value, args = #[w0, w1, w2, w3, w4] := by
    have hs : args.size = 5 := by simpa [Cond.value, given_1] using h1
    obtain ⟨L⟩ := args
    match L, hs with
    | [w0, w1, w2, w3, w4], _ => exact ⟨w0, w1, w2, w3, w4, rfl⟩
  have hw := fun d (hd : d ∈ tables_1) => atoms_spec (ws := Jvm.Cond.code x code maxLocals ret :: tables_1) hat d (List.mem_cons_of_mem _ hd)
  have hfit : Fit s := fun {y c} hc i hi => by
    obtain ⟨ha, rfl⟩ := Array.getElem?_eq_some_iff.mp hc
    have q := List.all_eq_true.mp ((Array.all_eq_true_iff_forall_mem.mp hF) _ (Array.getElem_mem ha)) i (List.mem_range.mpr hi)
    simpa [Array.getElem?_eq_getElem hi] using q
  obtain ⟨i0, e0⟩ := isL_v q0
  obtain rfl : w0 = (.long i0) := Option.some.inj e0
  obtain ⟨i1, e1⟩ := isL_v q1
  obtain rfl : w1 = (.long i1) := Option.some.inj e1
  obtain ⟨i2, e2⟩ := isL_v q2
  obtain rfl : w2 = (.long i2) := Option.some.inj e2
  obtain ⟨i3, e3⟩ := isL_v q3
  obtain rfl : w3 = (.long i3) := Option.some.inj e3
  obtain ⟨i4, e4⟩ := is_v g4
  obtain rfl : w4 = (.int i4) := Option.some.inj e4
  obtain ⟨n, o, h1, h2, h3, _, L, rfl, ⟨rfl, N, -⟩, hq⟩ := m_law l s _ hw  i0 i1 i2 i3 i4  s.heap  p e ha hc hk s m _ below hf ((Spec.applies_iff_loose hf).mp happ).1 ⟨rfl, State.Warmed39.refl s, rfl⟩ trivial
  refine ⟨n, _, h1, h2, h3, hpost _ _ _ _ _ _ ⟨Cond.after_iff.mpr rfl, Cond.after_iff.mpr (eq_i res_at (Term.int_eval (1)) rfl), trivial⟩ ⟨hq.1, hq.2.1, (hq.2.2.sift fun y hy => Or.inr ((N y hy).resolve_left (by simp))).mono (by decide) (by decide)⟩⟩
theorem main_1_1 : Claimed_1_1 := comes_1 fun _ _ _ _ _ _ h hF => ⟨h.1, hF⟩
theorem main_1_2 : Claimed_1_2 := comes_1 fun _ _ _ _ _ _ h hF => ⟨h.2.1, hF⟩
end Jvm.Pilot.@@N@@
namespace Jvm.Pilot.@@N@@
open Jvm Jvm.ClassFile Sem Op Lib Jvm.Free Jvm.Stand Jvm.Pilot.@@N@@.Jvm.D
/-! MADE BY PROGRAM (witnessworld.py) out of the Statement's table words and the real class files: 14 classes; the members and pool entries that the words name. The judged class is class 1, her method 1. -/
namespace start1
open Jvm.ClassFile
def u (s : String) : CpInfo := .utf8 (stringToUtf16 s)
/-- a pool by its gaps: so many unusable entries, then the entry; so many at the end -/
def gap : Nat → List CpInfo → List CpInfo
  | 0, r => r
  | n + 1, r => .unusable :: gap n r
def poolList (es : List (Nat × CpInfo)) (last : Nat) : List CpInfo := es.foldr (fun e r => gap e.1 (e.2 :: r)) (gap last [])
def pool (es : List (Nat × CpInfo)) (last : Nat) : Array CpInfo := ⟨poolList es last⟩
def fileOf (pool : Array CpInfo) (this : Nat) (attrs : Array Attribute := #[]) (ms : Array MethodInfo := #[]) (fl : Nat := 33) (sup : Nat := 0) (ifs : Array Nat := #[]) (fds : Array FieldInfo := #[]) : ClassFile where
  minorVersion := 0
  majorVersion := 65
  constantPool := pool
  accessFlags := fl
  thisClass := this
  superClass := sup
  interfaces := ifs
  fields := fds
  methods := ms
  attributes := attrs
def plain (name : String) (sup : Option ClassId) : Class where
  name := name
  kind := .ordinary
  loader := none
  accessFlags := 33
  super := sup
  interfaces := #[]
  cf := none
  fields := #[]
  methods := #[]
  instanceTypes := #[]
  staticTypes := #[]
  resolved := #[]
  callSites := []
  init := .initialized
  statics := none
  mirror := none

def pool0 : Array CpInfo := pool [(5, u "<init>"), (0, u "()V"), (1, .class_ 10), (1, u "java/lang/Object"), (85, u "clone"), (0, u "()Ljava/lang/Object;")] 26

def k0m0 : Method := { name := "<init>", desc := "()V", sig := { parameters := [], returnType := none }, accessFlags := 1, code := none }
def k0m1 : Method := { name := "clone", desc := "()Ljava/lang/Object;", sig := { parameters := [], returnType := some (.object "java/lang/Object") }, accessFlags := 260, code := none }
/-- java/lang/Object -/
def k0 : Class := { plain "java/lang/Object" none with
  accessFlags := 33
  interfaces := #[]
  cf := some (fileOf pool0 8 #[] #[{ accessFlags := 1, nameIndex := 5, descriptorIndex := 6, attributes := #[] }, { accessFlags := 260, nameIndex := 96, descriptorIndex := 97, attributes := #[] }] 33 0 #[] #[])
  fields := #[]
  methods := #[k0m0, k0m1]
  instanceTypes := #[]
  staticTypes := #[]
  resolved := Array.replicate 124 none
  statics := none }

def pool1 : Array CpInfo := pool [(2, .class_ 4), (1, u "java/lang/Object"), (0, u "<init>"), (0, u "()V"), (0, .integer 2147483647), (0, .methodref 9 10), (0, .class_ 11), (0, .nameAndType 12 13), (0, u "com/example/graticule/graticule/referencing/operation/SineSeriesPolynomialPinLaw"), (0, u "put"), (0, u "([DIJ)V"), (0, .methodref 15 16), (0, .class_ 17), (0, .nameAndType 18 19), (0, u "com/example/graticule/graticule/referencing/operation/SineSeries"), (0, u "polynomial"), (0, u "([D)[D"), (0, .long 2), (1, .long 4), (1, .long 6), (1, .long 8), (1, .long 12), (1, .long 24), (1, .long 32), (1, .long 80), (1, .long 16), (1, .long 192), (1, .long 64), (1, .long 128), (1, .methodref 9 45), (0, .nameAndType 46 47), (0, u "at"), (0, u "([DIJ)Z"), (2, u "law"), (0, u "(JJJJI)Z")] 5

def k1m0 : Method := { name := "<init>", desc := "()V", sig := { parameters := [], returnType := none }, accessFlags := 2, code := none }
def k1c1 : Code := { maxStack := 6, maxLocals := 44, code := code, exceptionTable := #[], attributes := #[] }
def k1m1 : Method := { name := "law", desc := "(JJJJI)Z", sig := { parameters := [.long, .long, .long, .long, .int], returnType := some .boolean }, accessFlags := 9, code := some k1c1 }
def k1c2 : Code := { maxStack := 4, maxLocals := 4, code := method_3_code, exceptionTable := #[], attributes := #[] }
def k1m2 : Method := { name := "put", desc := "([DIJ)V", sig := { parameters := [(.array .double), .int, .long], returnType := none }, accessFlags := 10, code := some k1c2 }
def k1c3 : Code := { maxStack := 4, maxLocals := 4, code := method_4_code, exceptionTable := #[], attributes := #[] }
def k1m3 : Method := { name := "at", desc := "([DIJ)Z", sig := { parameters := [(.array .double), .int, .long], returnType := some .boolean }, accessFlags := 10, code := some k1c3 }
/-- com/example/graticule/graticule/referencing/operation/SineSeriesPolynomialPinLaw -/
def k1 : Class := { plain "com/example/graticule/graticule/referencing/operation/SineSeriesPolynomialPinLaw" (some 0) with
  accessFlags := 49
  interfaces := #[]
  cf := some (fileOf pool1 9 #[] #[{ accessFlags := 2, nameIndex := 5, descriptorIndex := 6, attributes := #[] }, { accessFlags := 9, nameIndex := 50, descriptorIndex := 51, attributes := #[] }, { accessFlags := 10, nameIndex := 12, descriptorIndex := 13, attributes := #[] }, { accessFlags := 10, nameIndex := 46, descriptorIndex := 47, attributes := #[] }] 49 2 #[] #[])
  fields := #[]
  methods := #[k1m0, k1m1, k1m2, k1m3]
  instanceTypes := #[]
  staticTypes := #[]
  resolved := Array.replicate 57 none
  statics := none }

def pool2 : Array CpInfo := pool [(2, .class_ 4), (1, u "java/lang/Object"), (0, u "<init>"), (0, u "()V"), (0, .double 4611686018427387904), (1, .methodref 10 11), (0, .class_ 12), (0, .nameAndType 13 14), (0, u "com/example/graticule/graticule/referencing/operation/SineSeries"), (0, u "chebyshevSum"), (0, u "([D[D[D)[D"), (2, .methodref 18 19), (0, .class_ 20), (0, .nameAndType 21 22), (0, u "java/util/Arrays"), (0, u "copyOf"), (0, u "([DI)[D"), (2, u "polynomial"), (0, u "([D)[D")] 8

def k2m0 : Method := { name := "<init>", desc := "()V", sig := { parameters := [], returnType := none }, accessFlags := 2, code := none }
def k2c1 : Code := { maxStack := 7, maxLocals := 1, code := prog_19_method_2_code, exceptionTable := #[], attributes := #[] }
def k2m1 : Method := { name := "polynomial", desc := "([D)[D", sig := { parameters := [(.array .double)], returnType := some (.array .double) }, accessFlags := 8, code := some k2c1 }
def k2c2 : Code := { maxStack := 8, maxLocals := 10, code := prog_19_method_5_code, exceptionTable := #[], attributes := #[] }
def k2m2 : Method := { name := "chebyshevSum", desc := "([D[D[D)[D", sig := { parameters := [(.array .double), (.array .double), (.array .double)], returnType := some (.array .double) }, accessFlags := 10, code := some k2c2 }
/-- com/example/graticule/graticule/referencing/operation/SineSeries -/
def k2 : Class := { plain "com/example/graticule/graticule/referencing/operation/SineSeries" (some 0) with
  accessFlags := 48
  interfaces := #[]
  cf := some (fileOf pool2 10 #[] #[{ accessFlags := 2, nameIndex := 5, descriptorIndex := 6, attributes := #[] }, { accessFlags := 8, nameIndex := 25, descriptorIndex := 26, attributes := #[] }, { accessFlags := 10, nameIndex := 13, descriptorIndex := 14, attributes := #[] }] 48 2 #[] #[])
  fields := #[]
  methods := #[k2m0, k2m1, k2m2]
  instanceTypes := #[]
  staticTypes := #[]
  resolved := Array.replicate 35 none
  statics := none }

def pool3 : Array CpInfo := pool [(2, .class_ 4), (1, u "java/lang/Object"), (0, u "<init>"), (0, u "()V"), (7, .class_ 16), (1, u "java/util/Arrays"), (57, .class_ 76), (1, u "java/util/Arrays$NaturalOrder"), (32, u "()Ljava/lang/Object;"), (3, .class_ 115), (1, u "java/util/Arrays$LegacyMergeSort"), (1, u "Z"), (10, .nameAndType 129 109), (0, u "clone"), (20, .methodref 151 152), (0, .class_ 153), (0, .nameAndType 154 155), (0, u "java/lang/System"), (0, u "arraycopy"), (0, u "(Ljava/lang/Object;ILjava/lang/Object;II)V"), (146, u "copyOf"), (1, .methodref 305 306), (0, .class_ 307), (0, .nameAndType 308 309), (0, u "java/lang/Math"), (0, u "min"), (0, u "(II)I"), (18, .methodref 329 128), (0, .class_ 330), (0, u "[D"), (44, .class_ 376), (0, u "java/util/Arrays$ArrayList"), (68, u "$assertionsDisabled"), (269, u "MIN_ARRAY_SORT_GRAN"), (0, u "I"), (2, u "INSERTIONSORT_THRESHOLD"), (155, u "([DI)[D"), (99, .class_ 976), (0, u "java/util/Arrays$ArrayItr")] 52

def k3m0 : Method := { name := "<init>", desc := "()V", sig := { parameters := [], returnType := none }, accessFlags := 2, code := none }
def k3c1 : Code := { maxStack := 6, maxLocals := 3, code := jdk_65_method_127_code, exceptionTable := #[], attributes := #[] }
def k3m1 : Method := { name := "copyOf", desc := "([DI)[D", sig := { parameters := [(.array .double), .int], returnType := some (.array .double) }, accessFlags := 9, code := some k3c1 }
/-- java/util/Arrays -/
def k3 : Class := { plain "java/util/Arrays" (some 0) with
  accessFlags := 49
  interfaces := #[]
  cf := some (fileOf pool3 14 #[.nestMembers #[975, 375, 113, 74]] #[{ accessFlags := 2, nameIndex := 5, descriptorIndex := 6, attributes := #[] }, { accessFlags := 9, nameIndex := 302, descriptorIndex := 875, attributes := #[] }] 49 2 #[] #[{ accessFlags := 26, nameIndex := 715, descriptorIndex := 716, attributes := #[] }, { accessFlags := 26, nameIndex := 719, descriptorIndex := 716, attributes := #[] }, { accessFlags := 4120, nameIndex := 445, descriptorIndex := 117, attributes := #[] }])
  fields := #[{ name := "MIN_ARRAY_SORT_GRAN", type := .int, accessFlags := 26, slot := 0, constantValue := 0 }, { name := "INSERTIONSORT_THRESHOLD", type := .int, accessFlags := 26, slot := 1, constantValue := 0 }, { name := "$assertionsDisabled", type := .boolean, accessFlags := 4120, slot := 2, constantValue := 0 }]
  methods := #[k3m0, k3m1]
  instanceTypes := #[]
  staticTypes := #[.int, .int, .boolean]
  resolved := Array.replicate 1029 none
  statics := none }

def pool4 : Array CpInfo := pool [(1, .class_ 2), (0, u "java/lang/Math"), (1, .class_ 6), (1, u "java/lang/Object"), (0, u "<init>"), (0, u "()V"), (89, .class_ 100), (1, u "java/lang/Math$RandomNumberGeneratorHolder"), (71, u "negativeZeroFloatBits"), (0, u "J"), (2, u "negativeZeroDoubleBits"), (24, u "min"), (43, u "$assertionsDisabled"), (0, u "Z"), (88, u "(II)I"), (2, u "twoToTheDoubleScaleDown"), (0, u "D"), (4, u "twoToTheDoubleScaleUp"), (9, u "E"), (3, u "PI"), (2, u "TAU"), (2, u "DEGREES_TO_RADIANS"), (0, u "RADIANS_TO_DEGREES")] 94

def k4m0 : Method := { name := "<init>", desc := "()V", sig := { parameters := [], returnType := none }, accessFlags := 2, code := none }
def k4c1 : Code := { maxStack := 2, maxLocals := 2, code := jdk_29_method_69_code, exceptionTable := #[], attributes := #[] }
def k4m1 : Method := { name := "min", desc := "(II)I", sig := { parameters := [.int, .int], returnType := some .int }, accessFlags := 9, code := some k4c1 }
/-- java/lang/Math -/
def k4 : Class := { plain "java/lang/Math" (some 0) with
  accessFlags := 49
  interfaces := #[]
  cf := some (fileOf pool4 1 #[.nestMembers #[98]] #[{ accessFlags := 2, nameIndex := 7, descriptorIndex := 8, attributes := #[] }, { accessFlags := 9, nameIndex := 201, descriptorIndex := 335, attributes := #[] }] 49 4 #[] #[{ accessFlags := 25, nameIndex := 354, descriptorIndex := 339, attributes := #[] }, { accessFlags := 25, nameIndex := 358, descriptorIndex := 339, attributes := #[] }, { accessFlags := 25, nameIndex := 361, descriptorIndex := 339, attributes := #[] }, { accessFlags := 26, nameIndex := 364, descriptorIndex := 339, attributes := #[] }, { accessFlags := 26, nameIndex := 365, descriptorIndex := 339, attributes := #[] }, { accessFlags := 26, nameIndex := 172, descriptorIndex := 173, attributes := #[] }, { accessFlags := 26, nameIndex := 176, descriptorIndex := 173, attributes := #[] }, { accessFlags := 8, nameIndex := 344, descriptorIndex := 339, attributes := #[] }, { accessFlags := 8, nameIndex := 338, descriptorIndex := 339, attributes := #[] }, { accessFlags := 4120, nameIndex := 245, descriptorIndex := 246, attributes := #[] }])
  fields := #[{ name := "E", type := .double, accessFlags := 25, slot := 0, constantValue := 0 }, { name := "PI", type := .double, accessFlags := 25, slot := 1, constantValue := 0 }, { name := "TAU", type := .double, accessFlags := 25, slot := 2, constantValue := 0 }, { name := "DEGREES_TO_RADIANS", type := .double, accessFlags := 26, slot := 3, constantValue := 0 }, { name := "RADIANS_TO_DEGREES", type := .double, accessFlags := 26, slot := 4, constantValue := 0 }, { name := "negativeZeroFloatBits", type := .long, accessFlags := 26, slot := 5, constantValue := 0 }, { name := "negativeZeroDoubleBits", type := .long, accessFlags := 26, slot := 6, constantValue := 0 }, { name := "twoToTheDoubleScaleUp", type := .double, accessFlags := 8, slot := 7, constantValue := 0 }, { name := "twoToTheDoubleScaleDown", type := .double, accessFlags := 8, slot := 8, constantValue := 0 }, { name := "$assertionsDisabled", type := .boolean, accessFlags := 4120, slot := 9, constantValue := 0 }]
  methods := #[k4m0, k4m1]
  instanceTypes := #[]
  staticTypes := #[.double, .double, .double, .double, .double, .long, .long, .double, .double, .boolean]
  resolved := Array.replicate 460 none
  statics := none }

def pool5 : Array CpInfo := pool [(2, .class_ 4), (1, u "java/lang/Object"), (0, u "<init>"), (0, u "()V"), (1, .class_ 10), (1, u "java/lang/System"), (0, u "allowSecurityManager"), (0, u "I"), (16, u "cons"), (0, u "Ljava/io/Console;"), (77, .class_ 110), (1, u "java/lang/System$CallersHolder"), (43, u "initialErrStream"), (0, u "Ljava/io/PrintStream;"), (19, u "security"), (0, u "Ljava/lang/SecurityManager;"), (31, .class_ 209), (0, u "java/lang/System$1"), (7, u "props"), (0, u "Ljava/util/Properties;"), (2, u "lineSeparator"), (0, u "Ljava/lang/String;"), (96, .class_ 321), (1, u "java/lang/System$LoggerFinder"), (5, .class_ 328), (0, u "java/lang/System$Logger"), (67, u "err"), (2, u "out"), (91, u "notSupportedJnuEncoding"), (15, u "in"), (17, u "initialIn"), (0, u "Ljava/io/InputStream;"), (35, u "bootLayer"), (0, u "Ljava/lang/ModuleLayer;"), (99, .class_ 664), (0, u "java/lang/System$2"), (9, u "NEVER"), (2, u "MAYBE"), (49, u "arraycopy"), (0, u "(Ljava/lang/Object;ILjava/lang/Object;II)V"), (72, .class_ 802), (0, u "java/lang/System$Logger$Level")] 31

def k5m0 : Method := { name := "<init>", desc := "()V", sig := { parameters := [], returnType := none }, accessFlags := 2, code := none }
def k5m1 : Method := { name := "arraycopy", desc := "(Ljava/lang/Object;ILjava/lang/Object;II)V", sig := { parameters := [(.object "java/lang/Object"), .int, (.object "java/lang/Object"), .int, .int], returnType := none }, accessFlags := 265, code := none }
/-- java/lang/System -/
def k5 : Class := { plain "java/lang/System" (some 0) with
  accessFlags := 49
  interfaces := #[]
  cf := some (fileOf pool5 8 #[.nestMembers #[319, 327, 801, 108, 663, 208]] #[{ accessFlags := 2, nameIndex := 5, descriptorIndex := 6, attributes := #[] }, { accessFlags := 265, nameIndex := 727, descriptorIndex := 728, attributes := #[] }] 49 2 #[] #[{ accessFlags := 25, nameIndex := 507, descriptorIndex := 526, attributes := #[] }, { accessFlags := 25, nameIndex := 399, descriptorIndex := 155, attributes := #[] }, { accessFlags := 25, nameIndex := 396, descriptorIndex := 155, attributes := #[] }, { accessFlags := 10, nameIndex := 525, descriptorIndex := 526, attributes := #[] }, { accessFlags := 26, nameIndex := 674, descriptorIndex := 12, attributes := #[] }, { accessFlags := 26, nameIndex := 677, descriptorIndex := 12, attributes := #[] }, { accessFlags := 10, nameIndex := 11, descriptorIndex := 12, attributes := #[] }, { accessFlags := 74, nameIndex := 175, descriptorIndex := 176, attributes := #[] }, { accessFlags := 10, nameIndex := 491, descriptorIndex := 222, attributes := #[] }, { accessFlags := 74, nameIndex := 29, descriptorIndex := 30, attributes := #[] }, { accessFlags := 74, nameIndex := 154, descriptorIndex := 155, attributes := #[] }, { accessFlags := 10, nameIndex := 217, descriptorIndex := 218, attributes := #[] }, { accessFlags := 10, nameIndex := 221, descriptorIndex := 222, attributes := #[] }, { accessFlags := 8, nameIndex := 562, descriptorIndex := 563, attributes := #[] }])
  fields := #[{ name := "in", type := (.object "java/io/InputStream"), accessFlags := 25, slot := 0, constantValue := 0 }, { name := "out", type := (.object "java/io/PrintStream"), accessFlags := 25, slot := 1, constantValue := 0 }, { name := "err", type := (.object "java/io/PrintStream"), accessFlags := 25, slot := 2, constantValue := 0 }, { name := "initialIn", type := (.object "java/io/InputStream"), accessFlags := 10, slot := 3, constantValue := 0 }, { name := "NEVER", type := .int, accessFlags := 26, slot := 4, constantValue := 0 }, { name := "MAYBE", type := .int, accessFlags := 26, slot := 5, constantValue := 0 }, { name := "allowSecurityManager", type := .int, accessFlags := 10, slot := 6, constantValue := 0 }, { name := "security", type := (.object "java/lang/SecurityManager"), accessFlags := 74, slot := 7, constantValue := 0 }, { name := "notSupportedJnuEncoding", type := (.object "java/lang/String"), accessFlags := 10, slot := 8, constantValue := 0 }, { name := "cons", type := (.object "java/io/Console"), accessFlags := 74, slot := 9, constantValue := 0 }, { name := "initialErrStream", type := (.object "java/io/PrintStream"), accessFlags := 74, slot := 10, constantValue := 0 }, { name := "props", type := (.object "java/util/Properties"), accessFlags := 10, slot := 11, constantValue := 0 }, { name := "lineSeparator", type := (.object "java/lang/String"), accessFlags := 10, slot := 12, constantValue := 0 }, { name := "bootLayer", type := (.object "java/lang/ModuleLayer"), accessFlags := 8, slot := 13, constantValue := 0 }]
  methods := #[k5m0, k5m1]
  instanceTypes := #[]
  staticTypes := #[(.object "java/io/InputStream"), (.object "java/io/PrintStream"), (.object "java/io/PrintStream"), (.object "java/io/InputStream"), .int, .int, .int, (.object "java/lang/SecurityManager"), (.object "java/lang/String"), (.object "java/io/Console"), (.object "java/io/PrintStream"), (.object "java/util/Properties"), (.object "java/lang/String"), (.object "java/lang/ModuleLayer")]
  resolved := Array.replicate 834 none
  statics := none }

def pool6 : Array CpInfo := pool [(1, .class_ 2), (0, u "java/lang/Cloneable"), (0, .class_ 4), (0, u "java/lang/Object")] 2

/-- java/lang/Cloneable -/
def k6 : Class := { plain "java/lang/Cloneable" (some 0) with
  accessFlags := 1537
  interfaces := #[]
  cf := some (fileOf pool6 1 #[] #[] 1537 3 #[] #[])
  fields := #[]
  methods := #[]
  instanceTypes := #[]
  staticTypes := #[]
  resolved := Array.replicate 7 none
  statics := none }

def pool7 : Array CpInfo := pool [(1, u "java/io/Serializable"), (0, .class_ 1), (0, u "java/lang/Object"), (0, .class_ 3)] 3

/-- java/io/Serializable -/
def k7 : Class := { plain "java/io/Serializable" (some 0) with
  accessFlags := 1537
  interfaces := #[]
  cf := some (fileOf pool7 2 #[] #[] 1537 4 #[] #[])
  fields := #[]
  methods := #[]
  instanceTypes := #[]
  staticTypes := #[]
  resolved := Array.replicate 8 none
  statics := none }

/-- the primitive byte -/
def k8 : Class := { plain "byte" none with kind := .primitive 'B', accessFlags := 0x411 }
/-- [B -/
def k9 : Class := { plain "[B" (some 0) with kind := .array 8 .byte, interfaces := #[6, 7], accessFlags := 1041 }

/-- the primitive double -/
def k10 : Class := { plain "double" none with kind := .primitive 'D', accessFlags := 0x411 }
/-- [D -/
def k11 : Class := { plain "[D" (some 0) with kind := .array 10 .double, interfaces := #[6, 7], accessFlags := 1041 }

/-- the primitive int -/
def k12 : Class := { plain "int" none with kind := .primitive 'I', accessFlags := 0x411 }
/-- [I -/
def k13 : Class := { plain "[I" (some 0) with kind := .array 12 .int, interfaces := #[6, 7], accessFlags := 1041 }

def heap : Heap := #[]
def classes : Array Class := #[k0, k1, k2, k3, k4, k5, k6, k7, k8, k9, k10, k11, k12, k13]
def interned : List (Array UInt16 × Addr) := []
def slotsUsed : Nat := 0
def theMethod : MethodId := ⟨1, 1⟩
def args0 : Array Value := #[.long 5, .long 1, .long 2, .long 3, .int 4]
def aboutOver (below : List Frame) : State where
  vm := { classes := classes, interned := interned.toArray }
  heap := heap
  slotsUsed := slotsUsed
  threads := #[{ frames := .invoking theMethod args0 :: below }]
def below0 : List Frame := [.native { method := ⟨0, 0⟩, args := #[] }]
def about1 : State := aboutOver below0
def p0 : Program := .bare "" "" ""
def e0 : Env := launch0.env 0 0 0
theorem w_frames : about1.frames = Frame.invoking theMethod args0 :: below0 := rfl
set_option maxRecDepth 65536 in
theorem w_args : argsFit about1.vm theMethod args0 = true := by decide +kernel
set_option maxRecDepth 65536 in
theorem w_heap : heapFits about1 = true := by decide +kernel
set_option maxRecDepth 65536 in
theorem w_runnable : about1.curStatus? = some .runnable := by decide +kernel
set_option maxRecDepth 65536 in
theorem w_alone : about1.alone = true := by decide +kernel
set_option maxRecDepth 65536 in
theorem w_named : about1.methodNamed? x = some theMethod := by decide +kernel
set_option maxRecDepth 65536 in
theorem w_hears : about1.hears theMethod below0 = true := by decide +kernel
set_option maxRecDepth 65536 in
theorem w_ripe : about1.ripe theMethod args0 below0 = true := by decide +kernel
theorem w_running : about1.status = .running := rfl
set_option maxRecDepth 65536 in
theorem w_room : about1.hasRoom e0.platform room_1 = true :=
  launch0.hasRoom_least _ room_1 (by decide +kernel) (by decide +kernel) (by decide +kernel) (by decide +kernel) (by decide +kernel) (by decide +kernel)
theorem allAtoms_all (ts : List Jvm.Cond) (a : Array Jvm.Value) (st : Jvm.State) : (allAtoms ts).before a st = ts.all (fun c => c.before a st) := by
  induction ts with
  | nil => rfl
  | cons c t ih =>
    show (Jvm.Cond.and c (allAtoms t)).before a st = _
    rw [Jvm.Cond.before_and, ih, List.all_cons]
def words1 : List Jvm.Cond := Jvm.Cond.code x code maxLocals ret :: tables_1
/-- a 'code' word, met by the world's own term for the bytes: nothing is compared byte by byte -/
theorem code_word {y : MethodName} {bytes : ByteArray} {mx : Nat} {rt : Option FieldType} {a : Array Value} {s : State} {m : MethodId} {meth : Method} {c : Code} (h1 : s.methodNamed? y = some m) (h2 : s.vm.method? m = some meth) (h3 : meth.code = some c) (h4 : c.code = bytes)
    (h5 : (c.maxLocals == mx && c.exceptionTable.isEmpty && decide (c.maxStack ≤ mostOperands) && decide (meth.sig.returnType = rt) && !meth.locks && decide (parseMethodDescriptor y.desc = some meth.sig)) = true) : (Jvm.Cond.code y bytes mx rt).before a s = true := by
  simp only [Bool.and_eq_true, beq_iff_eq, Bool.not_eq_true', decide_eq_true_eq] at h5
  obtain ⟨⟨⟨⟨⟨g1, g2⟩, g3⟩, g4⟩, g5⟩, g6⟩ := h5
  simp [Cond.before, Cond.holds, Cond.value, h1, h2, h3, h4, g1, g2, g3, g4, g5, g6]
def isCode : Jvm.Cond → Bool
  | .code _ _ _ _ => true
  | _ => false
theorem all_split {L : List Jvm.Cond} {P : Jvm.Cond → Bool} (h1 : L.all (fun c => isCode c || P c) = true) (h2 : ∀ c ∈ L.filter isCode, P c = true) : L.all P = true := by
  refine List.all_eq_true.mpr fun c hc => ?_
  have h := List.all_eq_true.mp h1 c hc
  rcases Bool.eq_false_or_eq_true (isCode c) with hi | hi
  · exact h2 c (List.mem_filter.mpr ⟨hc, hi⟩)
  · simpa [hi] using h
set_option maxRecDepth 65536 in
theorem w_c0 : (Jvm.Cond.code x code maxLocals ret).before args0 about1 = true := code_word (m := ⟨1, 1⟩) (meth := k1m1) (c := k1c1) (by decide +kernel) rfl rfl rfl (by decide +kernel)
set_option maxRecDepth 65536 in
theorem w_c1 : (Jvm.Cond.code ({ cls := "com/example/graticule/graticule/referencing/operation/SineSeriesPolynomialPinLaw", name := "put", desc := "([DIJ)V" } : Jvm.MethodName) method_3_code (4 : Nat) (Option.none : Option Jvm.ClassFile.FieldType)).before args0 about1 = true := code_word (m := ⟨1, 2⟩) (meth := k1m2) (c := k1c2) (by decide +kernel) rfl rfl rfl (by decide +kernel)
set_option maxRecDepth 65536 in
theorem w_c2 : (Jvm.Cond.code ({ cls := "com/example/graticule/graticule/referencing/operation/SineSeries", name := "polynomial", desc := "([D)[D" } : Jvm.MethodName) prog_19_method_2_code (1 : Nat) (Option.some (Jvm.ClassFile.FieldType.array Jvm.ClassFile.FieldType.double))).before args0 about1 = true := code_word (m := ⟨2, 1⟩) (meth := k2m1) (c := k2c1) (by decide +kernel) rfl rfl rfl (by decide +kernel)
set_option maxRecDepth 65536 in
theorem w_c3 : (Jvm.Cond.code ({ cls := "com/example/graticule/graticule/referencing/operation/SineSeries", name := "chebyshevSum", desc := "([D[D[D)[D" } : Jvm.MethodName) prog_19_method_5_code (10 : Nat) (Option.some (Jvm.ClassFile.FieldType.array Jvm.ClassFile.FieldType.double))).before args0 about1 = true := code_word (m := ⟨2, 2⟩) (meth := k2m2) (c := k2c2) (by decide +kernel) rfl rfl rfl (by decide +kernel)
set_option maxRecDepth 65536 in
theorem w_c4 : (Jvm.Cond.code ({ cls := "java/util/Arrays", name := "copyOf", desc := "([DI)[D" } : Jvm.MethodName) jdk_65_method_127_code (3 : Nat) (Option.some (Jvm.ClassFile.FieldType.array Jvm.ClassFile.FieldType.double))).before args0 about1 = true := code_word (m := ⟨3, 1⟩) (meth := k3m1) (c := k3c1) (by decide +kernel) rfl rfl rfl (by decide +kernel)
set_option maxRecDepth 65536 in
theorem w_c5 : (Jvm.Cond.code ({ cls := "java/lang/Math", name := "min", desc := "(II)I" } : Jvm.MethodName) jdk_29_method_69_code (2 : Nat) (Option.some Jvm.ClassFile.FieldType.int)).before args0 about1 = true := code_word (m := ⟨4, 1⟩) (meth := k4m1) (c := k4c1) (by decide +kernel) rfl rfl rfl (by decide +kernel)
set_option maxRecDepth 65536 in
theorem w_c6 : (Jvm.Cond.code ({ cls := "com/example/graticule/graticule/referencing/operation/SineSeriesPolynomialPinLaw", name := "at", desc := "([DIJ)Z" } : Jvm.MethodName) method_4_code (4 : Nat) (Option.some Jvm.ClassFile.FieldType.boolean)).before args0 about1 = true := code_word (m := ⟨1, 3⟩) (meth := k1m3) (c := k1c3) (by decide +kernel) rfl rfl rfl (by decide +kernel)
def codes1 : List Jvm.Cond := [Jvm.Cond.code x code maxLocals ret, Jvm.Cond.code ({ cls := "com/example/graticule/graticule/referencing/operation/SineSeriesPolynomialPinLaw", name := "put", desc := "([DIJ)V" } : Jvm.MethodName) method_3_code (4 : Nat) (Option.none : Option Jvm.ClassFile.FieldType), Jvm.Cond.code ({ cls := "com/example/graticule/graticule/referencing/operation/SineSeries", name := "polynomial", desc := "([D)[D" } : Jvm.MethodName) prog_19_method_2_code (1 : Nat) (Option.some (Jvm.ClassFile.FieldType.array Jvm.ClassFile.FieldType.double)), Jvm.Cond.code ({ cls := "com/example/graticule/graticule/referencing/operation/SineSeries", name := "chebyshevSum", desc := "([D[D[D)[D" } : Jvm.MethodName) prog_19_method_5_code (10 : Nat) (Option.some (Jvm.ClassFile.FieldType.array Jvm.ClassFile.FieldType.double)), Jvm.Cond.code ({ cls := "java/util/Arrays", name := "copyOf", desc := "([DI)[D" } : Jvm.MethodName) jdk_65_method_127_code (3 : Nat) (Option.some (Jvm.ClassFile.FieldType.array Jvm.ClassFile.FieldType.double)), Jvm.Cond.code ({ cls := "java/lang/Math", name := "min", desc := "(II)I" } : Jvm.MethodName) jdk_29_method_69_code (2 : Nat) (Option.some Jvm.ClassFile.FieldType.int), Jvm.Cond.code ({ cls := "com/example/graticule/graticule/referencing/operation/SineSeriesPolynomialPinLaw", name := "at", desc := "([DIJ)Z" } : Jvm.MethodName) method_4_code (4 : Nat) (Option.some Jvm.ClassFile.FieldType.boolean)]
set_option maxRecDepth 65536 in
theorem codes_eq : words1.filter isCode = codes1 := rfl
theorem w_codes : ∀ c ∈ words1.filter isCode, c.before args0 about1 = true := by
  rw [codes_eq]
  intro c hc
  simp only [codes1, List.mem_cons, List.not_mem_nil, or_false] at hc
  rcases hc with rfl | rfl | rfl | rfl | rfl | rfl | rfl
  · exact w_c0
  · exact w_c1
  · exact w_c2
  · exact w_c3
  · exact w_c4
  · exact w_c5
  · exact w_c6
set_option maxRecDepth 65536 in
theorem w_t1 : (words1.take 24).all (fun c => isCode c || c.before args0 about1) = true := by decide +kernel
set_option maxRecDepth 65536 in
theorem w_t2 : ((words1.drop 24).take 24).all (fun c => isCode c || c.before args0 about1) = true := by decide +kernel
set_option maxRecDepth 65536 in
theorem w_t3 : ((words1.drop 24).drop 24).all (fun c => isCode c || c.before args0 about1) = true := by decide +kernel
theorem w_tables : (allAtoms (Jvm.Cond.code x code maxLocals ret :: tables_1)).before args0 about1 = true := by
  rw [allAtoms_all]
  show words1.all (fun c => c.before args0 about1) = true
  refine all_split ?_ w_codes
  rw [← List.take_append_drop 24 words1, List.all_append, w_t1, ← List.take_append_drop 24 (words1.drop 24), List.all_append, w_t2, w_t3]
  rfl
set_option maxRecDepth 65536 in
theorem w_case : (Jvm.Cond.and given_1 narrow_1).before args0 about1 = true := by decide +kernel
theorem w_applies : (headSpec (Jvm.Cond.code x code maxLocals ret :: tables_1) room_1).applies x e0.platform about1 = true :=
  (Spec.applies_iff w_frames).mpr ⟨w_running, w_runnable, w_alone, w_named, w_hears, w_ripe, w_room, w_tables⟩
theorem atStart : AtStart classFile x code maxLocals ret World_1 tables_1 room_1 Calls_1 rest_1 Pre_1 launch0 p0 e0 about1 theMethod args0 below0 :=
  ⟨lists_1, trivial, launch0.admits_env _ _ _, launch0.least_env, fairChoices_fair.cas, fairChoices_fair.clock, w_frames, w_args, w_heap, w_applies, trivial, trivial, w_case⟩
end start1
theorem witness_1 : WitnessClaimed_1 := ⟨start1.p0, start1.e0, start1.about1, start1.theMethod, start1.args0, start1.below0, start1.atStart⟩
end Jvm.Pilot.@@N@@
