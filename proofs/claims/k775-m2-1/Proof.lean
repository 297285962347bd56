import JvmDerived
import JvmDerived.Pilot.@@N@@Statement
import JvmDerived.Pilot.@@N@@Code
set_option linter.unusedVariables false
set_option linter.unusedSimpArgs false
namespace Jvm.OwnW
open Sem ClassFile Op Lib Jvm.Stand Jvm.Free Jvm.LawKit Jvm.RoadKit
theorem adr_ne {a b : Nat} (h : a < b ∨ b < a) : @Ne Addr a b := fun z => by
  have z : @Eq Nat a b := z
  omega
/-- what was written lies in one of 'ws' or is new -/
def Fw (ws : List Addr) (N : Nat) (L : List Loc) : Prop := ∀ y ∈ L, y.base ∈ ws ∨ N ≤ y.base
theorem Fw.nil (ws : List Addr) (N : Nat) : Fw ws N [] := fun _ q => nomatch q
theorem Fw.app {ws : List Addr} {N : Nat} {L L' : List Loc} (A : Fw ws N L) (B : Fw ws N L') : Fw ws N (L ++ L') := fun y q => (List.mem_append.mp q).elim (A y) (B y)
theorem Fw.snoc {ws : List Addr} {N : Nat} {L : List Loc} {a : Addr} {sl : Nat} (A : Fw ws N L) (q : a ∈ ws ∨ N ≤ a) : Fw ws N (L ++ [⟨a, sl⟩]) := A.app fun y hy => by cases List.mem_singleton.mp hy; exact q
/-- where a walk stands: what was written is new, the heap, the figures within the room -/
def Pos (p : Program) (l : Launch) (e : Env) (R : Room) (s : State) (m : MethodId) (args : Array Value) (below : List Frame) (meth : Method) (c : Code) (Z : State) (own : String) (ws : List Addr) (bd : Nat) (T : State) (h : Heap) (k n : Nat) : Prop :=
  (∃ locs, Stand p l e R s m args below meth c T locs k n ∧ Fw ws bd locs) ∧ T.heap = h ∧ bd ≤ h.size ∧ Z.Warmed39 s.vm ∧ p.tables.exec = Jvm.exec ∧ s.vm.findClass own = some m.cls ∧ meth.locks = false ∧ k ≤ R.cells ∧ n ≤ R.slots
/-- the walk that stands at the frame g in T comes to its return, and Q holds of what it returns and of the heap it leaves -/
def Done (p : Program) (l : Launch) (e : Env) (R : Room) (s : State) (m : MethodId) (args : Array Value) (below : List Frame) (meth : Method) (c : Code) (Z : State) (own : String) (ws : List Addr) (bd : Nat) (Q : Option Value → Heap → Prop) (T : State) (g : JFrame) : Prop :=
  ∃ v T' h' k n, Pos p l e R s m args below meth c Z own ws bd T' h' k n ∧ (meth.sig.returnType = none → v = none) ∧ Q v h' ∧
    ∀ fs, (∀ (f : JFrame) (acts : List Action), f.method = m → f.locked = none → f.entered = [] → (doReturn e (T'.setTop f) acts v).1 = T'.setFrames fs) → Steps p.tables e below (T.setTop g) (T'.setFrames fs)
/-- a method's contract, asked at one heap and one row of arguments; it writes what lies in 'ws' and what it makes, alone -/
def OMet (l : Launch) (y : MethodName) (bytes : ByteArray) (maxL : Nat) (ret : Option FieldType) (wd : List Cond) (rm : Room) (Z : State) (h : Heap) (ws : List Addr) (as' : Array Value) (Q : Option Value → Heap → Prop) : Prop :=
  MetFree l y (head1 (Cond.code y bytes maxL ret :: wd) rm) (fun a U => a = as' ∧ Z.Warmed39 U.vm ∧ U.heap = h) (fun _ _ _ _ _ => True) (fun _ U o U' => ∃ v L, o = .returned v ∧ (Q v U'.heap ∧ Fw ws h.size L ∧ Keep h U'.heap ws) ∧ FrameEnd U o U' L rm.cells rm.slots)
section A
variable {p : Program} {l : Launch} {e : Env} {R : Room} {s : State} {m : MethodId} {args : Array Value} {below : List Frame} {meth : Method} {c : Code} {Z : State} {own : String} {ws : List Addr} {bd : Nat} {T : State} {h h' : Heap} {k n : Nat} {a0 : Array Value} {Q : Option Value → Heap → Prop} {pc pc' : Nat} {Ls : Array Slot} {st : List Value} {T₁ : State} {g₁ : JFrame}
theorem Pos.here (P : Pos p l e R s m args below meth c Z own ws bd T h k n) : At T m c below := by obtain ⟨⟨_, X, _⟩, _⟩ := P; exact X.here
theorem Pos.x (P : Pos p l e R s m args below meth c Z own ws bd T h k n) : p.tables.exec = Jvm.exec := P.2.2.2.2.1
theorem Pos.ge (P : Pos p l e R s m args below meth c Z own ws bd T h k n) : bd ≤ h.size := P.2.2.1
theorem Pos.wa (P : Pos p l e R s m args below meth c Z own ws bd T h k n) : Z.Warmed39 s.vm := P.2.2.2.1
theorem Pos.more (P : Pos p l e R s m args below meth c Z own ws bd T h k n) {k' n' : Nat} (hk : k ≤ k') (hn : n ≤ n') (hk' : k' ≤ R.cells) (hn' : n' ≤ R.slots) : Pos p l e R s m args below meth c Z own ws bd T h k' n' := by
  obtain ⟨⟨L, X, N'⟩, a, b, c, d, f, g, _, _⟩ := P
  exact ⟨⟨L, X.more hk hn, N'⟩, a, b, c, d, f, g, hk', hn'⟩
theorem Pos.cast {k' n' : Nat} (P : Pos p l e R s m args below meth c Z own ws bd T h k n) (hk : k = k') (hn : n = n') : Pos p l e R s m args below meth c Z own ws bd T h k' n' := by subst hk hn; exact P
theorem Done.step {T' : State} {g g' : JFrame} (hs : ∀ t, Steps p.tables e below (T'.setTop g') t → Steps p.tables e below (T.setTop g) t) (D : Done p l e R s m args below meth c Z own ws bd Q T' g') : Done p l e R s m args below meth c Z own ws bd Q T g := by
  obtain ⟨v, T1, h1, k1, n1, P, hv, hq, st⟩ := D
  exact ⟨v, T1, h1, k1, n1, P, hv, hq, fun fs hl => hs _ (st fs hl)⟩
theorem Done.stepL {st' : List Value} (hs : ∀ t, Steps p.tables e below (T.setTop (mkF m pc' Ls st')) t → Steps p.tables e below (T.setTop (mkF m pc Ls st)) t) (D : Done p l e R s m args below meth c Z own ws bd Q T (mkF m pc' Ls st')) : Done p l e R s m args below meth c Z own ws bd Q T (mkF m pc Ls st) := Done.step hs D
theorem Done.imp {Q' : Option Value → Heap → Prop} {g : JFrame} (D : Done p l e R s m args below meth c Z own ws bd Q T g) (q : ∀ v h, Q v h → Q' v h) : Done p l e R s m args below meth c Z own ws bd Q' T g := by
  obtain ⟨v, T1, h1, k1, n1, P, hv, hq, st⟩ := D
  exact ⟨v, T1, h1, k1, n1, P, hv, q _ _ hq, st⟩
theorem keepOf {u : State} {L : List Loc} (q : s.sameButNew u L k n) (F : Fw ws s.heap.size L) : Keep s.heap u.heap ws := by
  obtain ⟨-, h1, -, -, -, H⟩ := q
  refine ⟨h1, fun x cl hx hn => ?_, fun x cl hx => ?_⟩
  · obtain ⟨c', e1, e2, e3, e4⟩ := H x cl hx
    have hlt := (Array.getElem?_eq_some_iff.mp hx).1
    have es : c'.slots = cl.slots := by
      apply Array.ext_getElem?
      intro i
      exact e4 i fun hm => (F _ hm).elim (fun z => hn z) (fun z => absurd z (Nat.not_le.mpr hlt))
    rw [e1, e2, es]
  · obtain ⟨c', e1, e2, e3, e4⟩ := H x cl hx
    exact ⟨c', e1, by rw [e2], by rw [e2], e3⟩
/-- a contract out of a walk -/
theorem OMet.of {y : MethodName} {bytes : ByteArray} {maxL : Nat} {ret : Option FieldType} {wd : List Cond} {rm : Room} {as' : Array Value} {nm : String} (hy : plainFor y = true) (hyc : y.cls = own) (hyn : y.name = nm)
    (H : ∀ p e s m below meth c s₁, Pos p l e rm s m as' below meth c Z own ws h.size s₁ h 0 0 → c.code = bytes → c.maxLocals = maxL → meth.sig.returnType = ret → meth.name = nm → Done p l e rm s m as' below meth c Z own ws h.size Q s₁ (entryFrame m as' maxL)) :
    OMet l y bytes maxL ret wd rm Z h ws as' Q := by
  subst hyc hyn
  refine MetFree.of_bodySF hy hisR ?_
  intro p e s m args below meth c s₁ Bd hml hP hK
  obtain ⟨rfl, hZ, hh⟩ := hP
  have hown : s.vm.findClass y.cls = some m.cls := findClass_of_methodNamed Bd.named
  have hnm := (name_of_methodNamed Bd.named Bd.method).1
  have X0 : Stand p l e rm s m args below meth c s₁ [] 0 0 := Stand.of_body Bd
  have e0 : s₁.heap = h := by rw [← hh, Bd.state]; rfl
  obtain ⟨v, T', h', k, n, ⟨⟨L, X, N⟩, eT, _, _, _, _, hlk, hk, hnn⟩, hv, hq, st⟩ := H p e s m below meth c s₁ ⟨⟨[], X0, Fw.nil _ _⟩, e0, Nat.le_refl _, hZ, Bd.exec, hown, Bd.notSynchronized, Nat.zero_le _, Nat.zero_le _⟩ Bd.bytes hml Bd.returns hnm
  obtain ⟨fs, hr, hrun, hended, hW, hsame⟩ := X.leave (v := v) hv hlk
  refine ⟨_, _, st fs hr, hrun, hended, v, L, rfl, ⟨?_, N, ?_⟩, ⟨_, rfl⟩, hW, hsame.mono hk hnn⟩
  · rw [show (T'.setFrames fs).heap = T'.heap from rfl, eT]
    exact hq
  · subst hh
    have q := keepOf hsame N
    exact q
/-! returns -/
theorem wRet {w : Value} {t : FieldType} {i : Instr} (P : Pos p l e R s m args below meth c Z own ws bd T h k n) (hret : meth.sig.returnType = some t) (hn : narrow t w = w)
    (hi : (i = .ireturn ∧ (t = .int ∨ t = .boolean ∨ t = .byte ∨ t = .char ∨ t = .short) ∧ ∃ z, w = .int z) ∨ (i = .lreturn ∧ t = .long ∧ ∃ z, w = .long z) ∨ (i = .dreturn ∧ t = .double ∧ ∃ z, w = .double z) ∨ (i = .freturn ∧ t = .float ∧ ∃ z, w = .float z) ∨ (i = .areturn ∧ t.isReference = true ∧ w.isRef = true))
    (hd : decode c.code pc = .ok (i, 1)) (hq : Q (some w) h) : Done p l e R s m args below meth c Z own ws bd Q T (mkF m pc Ls (w :: st)) := by
  obtain ⟨⟨L, X, N'⟩, r⟩ := id P
  exact ⟨some w, T, h, k, n, P, (fun q => by rw [hret] at q; cases q), hq, fun fs hl => retOut X P.x hret hn hi hd hl⟩
theorem wRetI {z : Int32} (P : Pos p l e R s m args below meth c Z own ws bd T h k n) (hret : meth.sig.returnType = some .int) (hd : decode c.code pc = .ok (.ireturn, 1)) (hq : Q (some (.int z)) h) : Done p l e R s m args below meth c Z own ws bd Q T (mkF m pc Ls (.int z :: st)) :=
  wRet P hret rfl (Or.inl ⟨rfl, Or.inl rfl, z, rfl⟩) hd hq
theorem wRetJ {z : Int64} (P : Pos p l e R s m args below meth c Z own ws bd T h k n) (hret : meth.sig.returnType = some .long) (hd : decode c.code pc = .ok (.lreturn, 1)) (hq : Q (some (.long z)) h) : Done p l e R s m args below meth c Z own ws bd Q T (mkF m pc Ls (.long z :: st)) :=
  wRet P hret rfl (Or.inr (Or.inl ⟨rfl, rfl, z, rfl⟩)) hd hq
theorem wRetD {z : UInt64} (P : Pos p l e R s m args below meth c Z own ws bd T h k n) (hret : meth.sig.returnType = some .double) (hd : decode c.code pc = .ok (.dreturn, 1)) (hq : Q (some (.double z)) h) : Done p l e R s m args below meth c Z own ws bd Q T (mkF m pc Ls (.double z :: st)) :=
  wRet P hret rfl (Or.inr (Or.inr (Or.inl ⟨rfl, rfl, z, rfl⟩))) hd hq
theorem wRetA {w : Value} {t : FieldType} (P : Pos p l e R s m args below meth c Z own ws bd T h k n) (hret : meth.sig.returnType = some t) (ht : t.isReference = true) (hw : w.isRef = true) (hd : decode c.code pc = .ok (.areturn, 1)) (hq : Q (some w) h) : Done p l e R s m args below meth c Z own ws bd Q T (mkF m pc Ls (w :: st)) :=
  wRet P hret (by cases w <;> first | rfl | (simp [Value.isRef] at hw; done) | (cases t <;> first | rfl | (simp [FieldType.isReference] at ht))) (Or.inr (Or.inr (Or.inr (Or.inr ⟨rfl, ht, hw⟩)))) hd hq
theorem wRetN {z : Int32} {t : FieldType} (P : Pos p l e R s m args below meth c Z own ws bd T h k n) (hret : meth.sig.returnType = some t) (ht : t = .boolean ∨ t = .byte ∨ t = .char ∨ t = .short) (hd : decode c.code pc = .ok (.ireturn, 1)) (hq : Q (some (.int (nar t z))) h) : Done p l e R s m args below meth c Z own ws bd Q T (mkF m pc Ls (.int z :: st)) := by
  obtain ⟨⟨L, X, N'⟩, r⟩ := id P
  exact ⟨_, T, h, k, n, P, (fun q => by rw [hret] at q; cases q), hq, fun fs hl => retN X P.x hret ht hd hl⟩
theorem wRetV (P : Pos p l e R s m args below meth c Z own ws bd T h k n) (hret : meth.sig.returnType = none) (hd : decode c.code pc = .ok (.return_, 1)) (hq : Q none h) : Done p l e R s m args below meth c Z own ws bd Q T (mkF m pc Ls []) := by
  obtain ⟨⟨L, X, N'⟩, r⟩ := id P
  exact ⟨none, T, h, k, n, P, fun _ => rfl, hq, fun fs hl => X.returnOut P.x hret hd hl⟩
/-! fields -/
theorem wGet {R0 O nm d host : String} {index : Nat} {a : Addr} {v : Value} (P : Pos p l e R s m args below meth c Z own ws bd T h k n) (w : (Cond.fieldLink own index R0 nm d).before a0 Z = true ∨ (Cond.fieldLinkNest own index R0 nm d host).before a0 Z = true) (via : Via Z R0 O nm d) (F : Fld Z h a O nm d v)
    (hd : decode c.code pc = .ok (.getfield index, 3)) (hp : pc + 3 = pc') (K : ∀ T', Pos p l e R s m args below meth c Z own ws bd T' h k n → Done p l e R s m args below meth c Z own ws bd Q T' (mkF m pc' Ls (v :: st))) : Done p l e R s m args below meth c Z own ws bd Q T (mkF m pc Ls (.ref a :: st)) := by
  obtain ⟨⟨L, X, N'⟩, eT, b, hZ, hx, ho, r⟩ := id P
  obtain ⟨T', X', e', stp⟩ := getF X hx hZ ho w via eT F (g := mkF m pc Ls (.ref a :: st)) rfl rfl hd
  subst hp
  exact Done.step stp (K T' ⟨⟨L, X', N'⟩, e', b, hZ, hx, ho, r⟩)
theorem wGetS {R0 O nm d host : String} {index : Nat} {v : Value} (P : Pos p l e R s m args below meth c Z own ws bd T h k n) (w : (Cond.fieldLink own index R0 nm d).before a0 Z = true ∨ (Cond.fieldLinkNest own index R0 nm d host).before a0 Z = true) (via : Via Z R0 O nm d) (F : Sta Z h O nm d v)
    (hd : decode c.code pc = .ok (.getstatic index, 3)) (hp : pc + 3 = pc') (K : ∀ T', Pos p l e R s m args below meth c Z own ws bd T' h k n → Done p l e R s m args below meth c Z own ws bd Q T' (mkF m pc' Ls (v :: st))) : Done p l e R s m args below meth c Z own ws bd Q T (mkF m pc Ls st) := by
  obtain ⟨⟨L, X, N'⟩, eT, b, hZ, hx, ho, r⟩ := id P
  obtain ⟨T', X', e', stp⟩ := getS2 X hx hZ ho w via eT F (g := mkF m pc Ls st) rfl hd
  subst hp
  exact Done.step stp (K T' ⟨⟨L, X', N'⟩, e', b, hZ, hx, ho, r⟩)
theorem wPut {R0 O nm d host C : String} {index kk : Nat} {ty : FieldType} {a : Addr} {v old : Value} (P : Pos p l e R s m args below meth c Z own ws bd T h k n) (w : (Cond.fieldLink own index R0 nm d).before a0 Z = true ∨ (Cond.fieldLinkNest own index R0 nm d host).before a0 Z = true) (via : Via Z R0 O nm d) (F : Fld Z h a O nm d old) (E : Exa Z h a C)
    (La : (Cond.lays C O nm d).before a0 Z = true ∨ ((Cond.laysFinal C O nm d).before a0 Z = true ∧ own = O ∧ meth.name = "<init>")) (wi : (Cond.instantiable C kk).before a0 Z = true) (hty : parseFieldDescriptor d = some ty) (hn : narrow ty v = v) (hf : fits ty v = true) (hge : a ∈ ws ∨ bd ≤ a)
    (hd : decode c.code pc = .ok (.putfield index, 3)) (hp : pc + 3 = pc') (K : ∀ T' h', Pos p l e R s m args below meth c Z own ws bd T' h' k n → Wr h h' a (Jvm.RoadKit.slotOf Z O nm d) v → Fld Z h' a O nm d v → Done p l e R s m args below meth c Z own ws bd Q T' (mkF m pc' Ls st)) : Done p l e R s m args below meth c Z own ws bd Q T (mkF m pc Ls (v :: .ref a :: st)) := by
  obtain ⟨⟨L, X, N'⟩, eT, b, hZ, hx, ho, r⟩ := id P
  obtain ⟨T', h', X', e', W, stp⟩ := putF X hx hZ ho w via eT F E La wi hty hn hf (g := mkF m pc Ls (v :: .ref a :: st)) rfl rfl hd
  subst hp
  exact Done.step stp (K T' h' ⟨⟨_, X', Fw.snoc N' hge⟩, e', by rw [W.size]; exact b, hZ, hx, ho, r⟩ W (F.same W))
theorem wPutN {R0 O nm d C : String} {index kk : Nat} {ty : FieldType} {a : Addr} {x x' : Int32} {old : Value} (P : Pos p l e R s m args below meth c Z own ws bd T h k n) (w : (Cond.fieldLink own index R0 nm d).before a0 Z = true) (via : Via Z R0 O nm d) (F : Fld Z h a O nm d old) (E : Exa Z h a C)
    (La : (Cond.lays C O nm d).before a0 Z = true ∨ ((Cond.laysFinal C O nm d).before a0 Z = true ∧ own = O ∧ meth.name = "<init>")) (wi : (Cond.instantiable C kk).before a0 Z = true) (hty : parseFieldDescriptor d = some ty) (hn : narrow ty (.int x) = .int x') (hf : fits ty (.int x') = true) (hge : a ∈ ws ∨ bd ≤ a)
    (hd : decode c.code pc = .ok (.putfield index, 3)) (hp : pc + 3 = pc') (K : ∀ T' h', Pos p l e R s m args below meth c Z own ws bd T' h' k n → Wr h h' a (Jvm.RoadKit.slotOf Z O nm d) (.int x') → Fld Z h' a O nm d (.int x') → Done p l e R s m args below meth c Z own ws bd Q T' (mkF m pc' Ls st)) : Done p l e R s m args below meth c Z own ws bd Q T (mkF m pc Ls (.int x :: .ref a :: st)) := by
  obtain ⟨⟨L, X, N'⟩, eT, b, hZ, hx, ho, r⟩ := id P
  obtain ⟨T', h', X', e', W, stp⟩ := putFN X hx hZ ho w via eT F E La wi (v' := .int x') hty hn hf (g := mkF m pc Ls (.int x :: .ref a :: st)) rfl rfl hd
  subst hp
  exact Done.step stp (K T' h' ⟨⟨_, X', Fw.snoc N' hge⟩, e', by rw [W.size]; exact b, hZ, hx, ho, r⟩ W (F.same W))
/-! objects and arrays -/
theorem wNew {C : String} {index nn : Nat} (P : Pos p l e R s m args below meth c Z own ws bd T h k n) (w : (Cond.classLink own index C).before a0 Z = true) (wi : (Cond.instantiable C nn).before a0 Z = true) (wz : (Cond.initialized C).before a0 Z = true)
    (hd : decode c.code pc = .ok (.new index, 3)) (hp : pc + 3 = pc') (hc : k + 1 ≤ R.cells) (hl : n + nn ≤ R.slots) {k' n' : Nat} (hk' : k + 1 = k') (hn' : n + nn = n')
    (K : ∀ T' h' a, a = h.size → h.size < h'.size → Pos p l e R s m args below meth c Z own ws bd T' h' k' n' → Ext h h' → Exa Z h' a C → (∀ {O nm d : String} {ty : FieldType}, Laid Z a0 C O nm d → parseFieldDescriptor d = some ty → Fld Z h' a O nm d (defaultValue ty)) → Done p l e R s m args below meth c Z own ws bd Q T' (mkF m pc' Ls (.ref a :: st))) : Done p l e R s m args below meth c Z own ws bd Q T (mkF m pc Ls st) := by
  obtain ⟨⟨L, X, N'⟩, eT, b, hZ, hx, ho, hlk, _, _⟩ := id P
  obtain ⟨T', h', X', e', E, A, D, -, stp⟩ := newO X hx hZ ho w wi wz eT (g := mkF m pc Ls st) rfl hd hc hl
  subst hp hk' hn'
  exact Done.step stp (K T' h' h.size rfl A.lt ⟨⟨L, X', N'⟩, e', Nat.le_trans b E.1, hZ, hx, ho, hlk, hc, hl⟩ E A D)
/-- an array by its places' values -/
def Ar (Z : State) (h : Heap) (a : Addr) (ty : FieldType) (n : Nat) (f : Nat → Value) : Prop := ∃ cl : Cell, Arr Z h a cl ty ∧ cl.slots.size = n ∧ n < 2147483648 ∧ ∀ i, i < n → cl.slots[i]? = some (f i)
def oupd {α : Type} (f : Nat → α) (i : Nat) (v : α) : Nat → α := fun j => if j = i then v else f j
theorem oupd_same {α : Type} (f : Nat → α) (i : Nat) (v : α) : oupd f i v i = v := if_pos rfl
theorem oupd_ne {α : Type} {f : Nat → α} {i j : Nat} {v : α} (q : j ≠ i) : oupd f i v j = f j := if_neg q
theorem Ar.lt {a : Addr} {ty : FieldType} {N : Nat} {f : Nat → Value} (A : Ar Z h a ty N f) : a < h.size := by obtain ⟨c, A, -⟩ := A; exact A.lt
theorem Ar.ltN {a : Addr} {ty : FieldType} {N : Nat} {f : Nat → Value} (A : Ar Z h a ty N f) : @LT.lt Nat instLTNat a h.size := A.lt
theorem exaN {a : Addr} {C : String} (E : Exa Z h a C) : @LT.lt Nat instLTNat a h.size := E.lt
theorem Ar.ext {a : Addr} {ty : FieldType} {N : Nat} {f : Nat → Value} (A : Ar Z h a ty N f) (E : Ext h h') : Ar Z h' a ty N f := by obtain ⟨c, A, r⟩ := A; exact ⟨c, A.ext E, r⟩
theorem Ar.other {a b : Addr} {sl : Nat} {v : Value} {ty : FieldType} {N : Nat} {f : Nat → Value} (A : Ar Z h b ty N f) (W : Wr h h' a sl v) (q : b ≠ a) : Ar Z h' b ty N f := by obtain ⟨c, A, r⟩ := A; exact ⟨c, A.other W q, r⟩
theorem Ar.keep {a : Addr} {ws : List Addr} {ty : FieldType} {N : Nat} {f : Nat → Value} (A : Ar Z h a ty N f) (K : Keep h h' ws) (q : a ∉ ws) : Ar Z h' a ty N f := by obtain ⟨c, A, r⟩ := A; exact ⟨c, ⟨K.2.1 a c A.1 q, A.2⟩, r⟩
theorem Ar.len {a : Addr} {ty : FieldType} {N : Nat} {f : Nat → Value} (A : Ar Z h a ty N f) : N < 2147483648 := by obtain ⟨c, A, r1, r2, -⟩ := A; exact r2
theorem Ar.congr {a : Addr} {ty : FieldType} {N : Nat} {f g : Nat → Value} (A : Ar Z h a ty N f) (q : ∀ i, i < N → f i = g i) : Ar Z h a ty N g := by obtain ⟨c, A, r1, r2, r3⟩ := A; exact ⟨c, A, r1, r2, fun i hi => by rw [← q i hi]; exact r3 i hi⟩
theorem in_of {cl : Cell} {N i : Nat} {j : Int32} (S : cl.slots.size = N) (hj : j.toInt = (i : Int)) (hi : i < N) : ¬ (j < 0 ∨ cl.slots.size ≤ j.toNatClampNeg) ∧ j.toNatClampNeg = i := by
  have e : j.toNatClampNeg = i := by rw [Int32.toNatClampNeg, hj]; omega
  refine ⟨?_, e⟩
  rw [S, e, Int32.lt_iff_toInt_lt, hj, show (0 : Int32).toInt = 0 from rfl]
  omega
theorem toI32 {N : Nat} (h : N < 2147483648) : (N.toInt32).toInt = (N : Int) := by
  rw [show N.toInt32 = Int32.ofNat N from rfl, Int32.toInt_ofNat_of_lt (by omega)]
theorem wNewA {aty : ArrayType} {z : Int32} {N cap : Nat} (P : Pos p l e R s m args below meth c Z own ws bd T h k n) (w : (Cond.arrayClass (newarray.typeOf aty)).before a0 Z = true) (hd : decode c.code pc = .ok (.newarray aty, 2)) (hp : pc + 2 = pc') (hz : z.toInt = (N : Int)) (hcap : N ≤ cap) (hb : cap * 8 ≤ 536870912) (hc : k + 1 ≤ R.cells) (hl : n + cap ≤ R.slots)
    {ad : String} (had : "[" ++ (newarray.typeOf aty).toString = ad) {ty : FieldType} {dv : Value} (hty : newarray.typeOf aty = ty) (hdv : defaultValue ty = dv) {k' n' : Nat} (hk' : k + 1 = k') (hn' : n + cap = n')
    (K : ∀ T' h' a, a = h.size → h.size < h'.size → Pos p l e R s m args below meth c Z own ws bd T' h' k' n' → Ext h h' → Ar Z h' a ty N (fun _ => dv) → Exa Z h' a ad → Done p l e R s m args below meth c Z own ws bd Q T' (mkF m pc' Ls (.ref a :: st))) : Done p l e R s m args below meth c Z own ws bd Q T (mkF m pc Ls (.int z :: st)) := by
  obtain ⟨⟨L, X, N'⟩, eT, b, hZ, hx, ho, hlk, _, _⟩ := id P
  have hz0 : ¬ z < 0 := by rw [Int32.lt_iff_toInt_lt, hz, show (0 : Int32).toInt = 0 from rfl]; omega
  have hzn : z.toNatClampNeg = N := by rw [Int32.toNatClampNeg, hz]; omega
  have hN := z.toInt_lt
  obtain ⟨T', h', kA, X', e', E, A, Ex, stp⟩ := newPE X hx hZ w eT (g := mkF m pc Ls (.int z :: st)) rfl hd rfl hz0 (by rw [hzn]; exact hcap) hb hc hl had
  subst hp hk' hn' hty hdv
  refine Done.step stp (K T' h' h.size rfl A.lt ⟨⟨L, X', N'⟩, e', Nat.le_trans b E.1, hZ, hx, ho, hlk, hc, hl⟩ E ⟨_, A, by rw [sz_new, hzn], by omega, fun i hi => ?_⟩ Ex)
  simp [newA, hzn, hi]
theorem wLen {ty : FieldType} {N : Nat} {f : Nat → Value} {a : Addr} (P : Pos p l e R s m args below meth c Z own ws bd T h k n) (A : Ar Z h a ty N f) {z : Int32} (hz : z.toInt = (N : Int)) (hd : decode c.code pc = .ok (.arraylength, 1)) (hp : pc + 1 = pc')
    (K : Done p l e R s m args below meth c Z own ws bd Q T (mkF m pc' Ls (.int z :: st))) : Done p l e R s m args below meth c Z own ws bd Q T (mkF m pc Ls (.ref a :: st)) := by
  obtain ⟨⟨L, X, N'⟩, eT, b, hZ, hx, ho, hlk, _, _⟩ := id P
  obtain ⟨cl, Ar, S, hN, H⟩ := A
  subst hp
  refine Done.step (fun t kk => X.arraylength hx (by rw [eT]; exact Ar.1) (State.isArrayOf_alike hZ.alike Ar.2.1) (g := mkF m pc Ls (.ref a :: st)) rfl rfl hd t ?_) K
  rw [S, show N.toInt32 = z from Int32.toInt_inj.mp (by rw [toI32 hN, hz])]
  exact kk
theorem wDaload {N i : Nat} {f : Nat → Value} {a : Addr} {j : Int32} (P : Pos p l e R s m args below meth c Z own ws bd T h k n) (A : Ar Z h a .double N f) (hj : j.toInt = (i : Int)) (hi : i < N) {v : Value} (hv : f i = v) (hd : decode c.code pc = .ok (.daload, 1)) (hp : pc + 1 = pc')
    (K : Done p l e R s m args below meth c Z own ws bd Q T (mkF m pc' Ls (v :: st))) : Done p l e R s m args below meth c Z own ws bd Q T (mkF m pc Ls (.int j :: .ref a :: st)) := by
  obtain ⟨⟨L, X, N'⟩, eT, b, hZ, hx, ho, hlk, _, _⟩ := id P
  obtain ⟨cl, Ar, S, hN, H⟩ := A
  obtain ⟨q1, q2⟩ := in_of S hj hi
  subst hp hv
  exact Done.step (fun t kk => X.daload hx (by rw [eT]; exact Ar.1) (State.isArrayOf_alike hZ.alike Ar.2.1) Ar.2.2 q1 (by rw [q2]; exact H i hi) (g := mkF m pc Ls (.int j :: .ref a :: st)) rfl rfl hd t kk) K
theorem wIaload {N i : Nat} {f : Nat → Value} {a : Addr} {j : Int32} (P : Pos p l e R s m args below meth c Z own ws bd T h k n) (A : Ar Z h a .int N f) (hj : j.toInt = (i : Int)) (hi : i < N) {v : Value} (hv : f i = v) (hd : decode c.code pc = .ok (.iaload, 1)) (hp : pc + 1 = pc')
    (K : Done p l e R s m args below meth c Z own ws bd Q T (mkF m pc' Ls (v :: st))) : Done p l e R s m args below meth c Z own ws bd Q T (mkF m pc Ls (.int j :: .ref a :: st)) := by
  obtain ⟨⟨L, X, N'⟩, eT, b, hZ, hx, ho, hlk, _, _⟩ := id P
  obtain ⟨cl, Ar, S, hN, H⟩ := A
  obtain ⟨q1, q2⟩ := in_of S hj hi
  subst hp hv
  exact Done.step (fun t kk => X.iaload hx (by rw [eT]; exact Ar.1) (State.isArrayOf_alike hZ.alike Ar.2.1) Ar.2.2 q1 (by rw [q2]; exact H i hi) (g := mkF m pc Ls (.int j :: .ref a :: st)) rfl rfl hd t kk) K
theorem wCaload {N i : Nat} {f : Nat → Value} {a : Addr} {j : Int32} (P : Pos p l e R s m args below meth c Z own ws bd T h k n) (A : Ar Z h a .char N f) (hj : j.toInt = (i : Int)) (hi : i < N) {v : Value} (hv : f i = v) (hd : decode c.code pc = .ok (.caload, 1)) (hp : pc + 1 = pc')
    (K : Done p l e R s m args below meth c Z own ws bd Q T (mkF m pc' Ls (v :: st))) : Done p l e R s m args below meth c Z own ws bd Q T (mkF m pc Ls (.int j :: .ref a :: st)) := by
  obtain ⟨⟨L, X, N'⟩, eT, b, hZ, hx, ho, hlk, _, _⟩ := id P
  obtain ⟨cl, Ar, S, hN, H⟩ := A
  obtain ⟨q1, q2⟩ := in_of S hj hi
  subst hp hv
  exact Done.step (fun t kk => X.caload hx (by rw [eT]; exact Ar.1) (State.isArrayOf_alike hZ.alike Ar.2.1) Ar.2.2 q1 (by rw [q2]; exact H i hi) (g := mkF m pc Ls (.int j :: .ref a :: st)) rfl rfl hd t kk) K
theorem wAaload {N i : Nat} {f : Nat → Value} {a : Addr} {j : Int32} {ty : FieldType} (P : Pos p l e R s m args below meth c Z own ws bd T h k n) (A : Ar Z h a ty N f) (hty : ty.isReference = true) (hj : j.toInt = (i : Int)) (hi : i < N) {v : Value} (hv : f i = v) (hd : decode c.code pc = .ok (.aaload, 1)) (hp : pc + 1 = pc')
    (K : Done p l e R s m args below meth c Z own ws bd Q T (mkF m pc' Ls (v :: st))) : Done p l e R s m args below meth c Z own ws bd Q T (mkF m pc Ls (.int j :: .ref a :: st)) := by
  obtain ⟨⟨L, X, N'⟩, eT, b, hZ, hx, ho, hlk, _, _⟩ := id P
  obtain ⟨cl, Ar, S, hN, H⟩ := A
  obtain ⟨q1, q2⟩ := in_of S hj hi
  subst hp hv
  exact Done.step (fun t kk => X.aaload hx (by rw [eT]; exact Ar.1) (State.isArrayOf_alike hZ.alike Ar.2.1) hty Ar.2.2 q1 (by rw [q2]; exact H i hi) (g := mkF m pc Ls (.int j :: .ref a :: st)) rfl rfl hd t kk) K
theorem Ar.set {cl : Cell} {a : Addr} {ty : FieldType} {N i : Nat} {f : Nat → Value} {v : Value} (A : Arr Z h a cl ty) (S : cl.slots.size = N) (hN : N < 2147483648) (H : ∀ i, i < N → cl.slots[i]? = some (f i)) (hi : i < N) (W : Wr h h' a i v) : Ar Z h' a ty N (oupd f i v) := by
  refine ⟨cl.setSlot i v, A.same W, by rw [sz_set]; exact S, hN, fun j hj => ?_⟩
  by_cases q : j = i
  · subst q; rw [oupd_same]; exact Cell.slots_setSlot_self v (by omega)
  · rw [oupd_ne q, Cell.slots_setSlot_ne v (Ne.symm q)]; exact H j hj
theorem wDastore {N i : Nat} {f : Nat → UInt64} {a : Addr} {j : Int32} {x : UInt64} (P : Pos p l e R s m args below meth c Z own ws bd T h k n) (A : Ar Z h a .double N (fun i => .double (f i))) (hj : j.toInt = (i : Int)) (hi : i < N) (hge : a ∈ ws ∨ bd ≤ a) (hd : decode c.code pc = .ok (.dastore, 1)) (hp : pc + 1 = pc')
    (K : ∀ T' h', Pos p l e R s m args below meth c Z own ws bd T' h' k n → Wr h h' a i (.double x) → Ar Z h' a .double N (fun j => .double (oupd f i x j)) → Done p l e R s m args below meth c Z own ws bd Q T' (mkF m pc' Ls st)) : Done p l e R s m args below meth c Z own ws bd Q T (mkF m pc Ls (.double x :: .int j :: .ref a :: st)) := by
  obtain ⟨⟨L, X, N'⟩, eT, b, hZ, hx, ho, r⟩ := id P
  obtain ⟨cl, Ar', S, hN, H⟩ := A
  obtain ⟨q1, q2⟩ := in_of S hj hi
  obtain ⟨T', h', X', e', W, stp⟩ := stD X hx hZ eT Ar' q1 (g := mkF m pc Ls (.double x :: .int j :: .ref a :: st)) rfl rfl hd
  subst hp
  rw [q2] at W
  refine Done.step stp (K T' h' ⟨⟨_, X', Fw.snoc N' hge⟩, e', by rw [W.size]; exact b, hZ, hx, ho, r⟩ W ((Ar.set Ar' S hN H hi W).congr fun j _ => ?_))
  unfold oupd; split <;> rfl
theorem wIastore {N i : Nat} {f : Nat → Int32} {a : Addr} {j : Int32} {x : Int32} (P : Pos p l e R s m args below meth c Z own ws bd T h k n) (A : Ar Z h a .int N (fun i => .int (f i))) (hj : j.toInt = (i : Int)) (hi : i < N) (hge : a ∈ ws ∨ bd ≤ a) (hd : decode c.code pc = .ok (.iastore, 1)) (hp : pc + 1 = pc')
    (K : ∀ T' h', Pos p l e R s m args below meth c Z own ws bd T' h' k n → Wr h h' a i (.int x) → Ar Z h' a .int N (fun j => .int (oupd f i x j)) → Done p l e R s m args below meth c Z own ws bd Q T' (mkF m pc' Ls st)) : Done p l e R s m args below meth c Z own ws bd Q T (mkF m pc Ls (.int x :: .int j :: .ref a :: st)) := by
  obtain ⟨⟨L, X, N'⟩, eT, b, hZ, hx, ho, r⟩ := id P
  obtain ⟨cl, Ar', S, hN, H⟩ := A
  obtain ⟨q1, q2⟩ := in_of S hj hi
  obtain ⟨T', h', X', e', W, stp⟩ := stI X hx hZ eT Ar' q1 (g := mkF m pc Ls (.int x :: .int j :: .ref a :: st)) rfl rfl hd
  subst hp
  rw [q2] at W
  refine Done.step stp (K T' h' ⟨⟨_, X', Fw.snoc N' hge⟩, e', by rw [W.size]; exact b, hZ, hx, ho, r⟩ W ((Ar.set Ar' S hN H hi W).congr fun j _ => ?_))
  unfold oupd; split <;> rfl
theorem wCastore {N i : Nat} {f : Nat → Int32} {a : Addr} {j : Int32} {x : Int32} (P : Pos p l e R s m args below meth c Z own ws bd T h k n) (A : Ar Z h a .char N (fun i => .int (f i))) (hj : j.toInt = (i : Int)) (hi : i < N) (hge : a ∈ ws ∨ bd ≤ a) (hd : decode c.code pc = .ok (.castore, 1)) (hp : pc + 1 = pc')
    (K : ∀ T' h', Pos p l e R s m args below meth c Z own ws bd T' h' k n → Wr h h' a i (.int (nar .char x)) → Ar Z h' a .char N (fun j => .int (oupd f i (nar .char x) j)) → Done p l e R s m args below meth c Z own ws bd Q T' (mkF m pc' Ls st)) : Done p l e R s m args below meth c Z own ws bd Q T (mkF m pc Ls (.int x :: .int j :: .ref a :: st)) := by
  obtain ⟨⟨L, X, N'⟩, eT, b, hZ, hx, ho, r⟩ := id P
  obtain ⟨cl, Ar', S, hN, H⟩ := A
  obtain ⟨q1, q2⟩ := in_of S hj hi
  obtain ⟨T', h', X', e', W, stp⟩ := stC X hx hZ eT Ar' q1 (g := mkF m pc Ls (.int x :: .int j :: .ref a :: st)) rfl rfl hd
  subst hp
  rw [q2] at W
  refine Done.step stp (K T' h' ⟨⟨_, X', Fw.snoc N' hge⟩, e', by rw [W.size]; exact b, hZ, hx, ho, r⟩ W ((Ar.set Ar' S hN H hi W).congr fun j _ => ?_))
  unfold oupd; split <;> rfl
theorem wBastore {N i : Nat} {f : Nat → Int32} {a : Addr} {j : Int32} {x : Int32} (P : Pos p l e R s m args below meth c Z own ws bd T h k n) (A : Ar Z h a .byte N (fun i => .int (f i))) (hj : j.toInt = (i : Int)) (hi : i < N) (hge : a ∈ ws ∨ bd ≤ a) (hd : decode c.code pc = .ok (.bastore, 1)) (hp : pc + 1 = pc')
    (K : ∀ T' h', Pos p l e R s m args below meth c Z own ws bd T' h' k n → Wr h h' a i (.int (nar .byte x)) → Ar Z h' a .byte N (fun j => .int (oupd f i (nar .byte x) j)) → Done p l e R s m args below meth c Z own ws bd Q T' (mkF m pc' Ls st)) : Done p l e R s m args below meth c Z own ws bd Q T (mkF m pc Ls (.int x :: .int j :: .ref a :: st)) := by
  obtain ⟨⟨L, X, N'⟩, eT, b, hZ, hx, ho, r⟩ := id P
  obtain ⟨cl, Ar', S, hN, H⟩ := A
  obtain ⟨q1, q2⟩ := in_of S hj hi
  obtain ⟨T', h', X', e', W, stp⟩ := stB X hx hZ eT Ar' q1 (g := mkF m pc Ls (.int x :: .int j :: .ref a :: st)) rfl rfl hd
  subst hp
  rw [q2] at W
  refine Done.step stp (K T' h' ⟨⟨_, X', Fw.snoc N' hge⟩, e', by rw [W.size]; exact b, hZ, hx, ho, r⟩ W ((Ar.set Ar' S hN H hi W).congr fun j _ => ?_))
  unfold oupd; split <;> rfl
theorem wZastore {N i : Nat} {f : Nat → Int32} {a : Addr} {j : Int32} {x : Int32} (P : Pos p l e R s m args below meth c Z own ws bd T h k n) (A : Ar Z h a .boolean N (fun i => .int (f i))) (hj : j.toInt = (i : Int)) (hi : i < N) (hge : a ∈ ws ∨ bd ≤ a) (hd : decode c.code pc = .ok (.bastore, 1)) (hp : pc + 1 = pc')
    (K : ∀ T' h', Pos p l e R s m args below meth c Z own ws bd T' h' k n → Wr h h' a i (.int (nar .boolean x)) → Ar Z h' a .boolean N (fun j => .int (oupd f i (nar .boolean x) j)) → Done p l e R s m args below meth c Z own ws bd Q T' (mkF m pc' Ls st)) : Done p l e R s m args below meth c Z own ws bd Q T (mkF m pc Ls (.int x :: .int j :: .ref a :: st)) := by
  obtain ⟨⟨L, X, N'⟩, eT, b, hZ, hx, ho, r⟩ := id P
  obtain ⟨cl, Ar', S, hN, H⟩ := A
  obtain ⟨q1, q2⟩ := in_of S hj hi
  obtain ⟨T', h', X', e', W, stp⟩ := stZ X hx hZ eT Ar' q1 (g := mkF m pc Ls (.int x :: .int j :: .ref a :: st)) rfl rfl hd
  subst hp
  rw [q2] at W
  refine Done.step stp (K T' h' ⟨⟨_, X', Fw.snoc N' hge⟩, e', by rw [W.size]; exact b, hZ, hx, ho, r⟩ W ((Ar.set Ar' S hN H hi W).congr fun j _ => ?_))
  unfold oupd; split <;> rfl
theorem wBaload {N i : Nat} {f : Nat → Value} {a : Addr} {j : Int32} (P : Pos p l e R s m args below meth c Z own ws bd T h k n) (A : Ar Z h a .byte N f) (hj : j.toInt = (i : Int)) (hi : i < N) {v : Value} (hv : f i = v) (hd : decode c.code pc = .ok (.baload, 1)) (hp : pc + 1 = pc')
    (K : Done p l e R s m args below meth c Z own ws bd Q T (mkF m pc' Ls (v :: st))) : Done p l e R s m args below meth c Z own ws bd Q T (mkF m pc Ls (.int j :: .ref a :: st)) := by
  obtain ⟨⟨L, X, N'⟩, eT, b, hZ, hx, ho, hlk, _, _⟩ := id P
  obtain ⟨cl, Ar, S, hN, H⟩ := A
  obtain ⟨q1, q2⟩ := in_of S hj hi
  subst hp hv
  exact Done.step (fun t kk => X.baloadBytes hx (by rw [eT]; exact Ar.1) (State.isArrayOf_alike hZ.alike Ar.2.1) Ar.2.2 q1 (by rw [q2]; exact H i hi) (g := mkF m pc Ls (.int j :: .ref a :: st)) rfl rfl hd t kk) K
theorem staKeep {C nm d : String} {v : Value} {ws' : List Addr} (F : Sta Z h C nm d v) (K : Keep h h' ws') (hw : ∀ x ∈ ws', ∀ cell : Cell, h[x]? = some cell → cell.vm.isStatics = false) : Sta Z h' C nm d v := by
  obtain ⟨cf, i, k, f, st, cell, h1, h2, h3, h4, h5, h6, r⟩ := F
  exact ⟨cf, i, k, f, st, cell, h1, h2, h3, h4, K.2.1 _ _ h5 (fun q => by rw [hw _ q _ h5] at h6; cases h6), h6, r⟩
theorem wCast {K : String} {index : Nat} {a : Addr} (P : Pos p l e R s m args below meth c Z own ws bd T h k n) (w : (Cond.classLink own index K).before a0 Z = true) (F : Ins Z h a K true) (hd : decode c.code pc = .ok (.checkcast index, 3)) (hp : pc + 3 = pc')
    (K' : ∀ T', Pos p l e R s m args below meth c Z own ws bd T' h k n → Done p l e R s m args below meth c Z own ws bd Q T' (mkF m pc' Ls (.ref a :: st))) : Done p l e R s m args below meth c Z own ws bd Q T (mkF m pc Ls (.ref a :: st)) := by
  obtain ⟨⟨L, X, N'⟩, eT, b, hZ, hx, ho, r⟩ := id P
  obtain ⟨T', X', e', stp⟩ := castY X hx hZ ho w eT F (g := mkF m pc Ls (.ref a :: st)) rfl rfl hd
  subst hp
  exact Done.step stp (K' T' ⟨⟨L, X', N'⟩, e', b, hZ, hx, ho, r⟩)
theorem wInstY {K : String} {index : Nat} {a : Addr} (P : Pos p l e R s m args below meth c Z own ws bd T h k n) (w : (Cond.classLink own index K).before a0 Z = true) (F : Ins Z h a K true) (hd : decode c.code pc = .ok (.instanceof index, 3)) (hp : pc + 3 = pc')
    (K' : ∀ T', Pos p l e R s m args below meth c Z own ws bd T' h k n → Done p l e R s m args below meth c Z own ws bd Q T' (mkF m pc' Ls (.int 1 :: st))) : Done p l e R s m args below meth c Z own ws bd Q T (mkF m pc Ls (.ref a :: st)) := by
  obtain ⟨⟨L, X, N'⟩, eT, b, hZ, hx, ho, r⟩ := id P
  obtain ⟨T', X', e', stp⟩ := instY X hx hZ ho w eT F (g := mkF m pc Ls (.ref a :: st)) rfl rfl hd
  subst hp
  exact Done.step stp (K' T' ⟨⟨L, X', N'⟩, e', b, hZ, hx, ho, r⟩)
theorem wInstN {K C : String} {index : Nat} {a : Addr} (P : Pos p l e R s m args below meth c Z own ws bd T h k n) (w : (Cond.classLink own index K).before a0 Z = true) (E : Exa Z h a C) (F : ∃ c t, Z.vm.findClass C = some c ∧ Z.vm.findClass K = some t ∧ Z.vm.assignable c t = false) (hd : decode c.code pc = .ok (.instanceof index, 3)) (hp : pc + 3 = pc')
    (K' : ∀ T', Pos p l e R s m args below meth c Z own ws bd T' h k n → Done p l e R s m args below meth c Z own ws bd Q T' (mkF m pc' Ls (.int 0 :: st))) : Done p l e R s m args below meth c Z own ws bd Q T (mkF m pc Ls (.ref a :: st)) := by
  obtain ⟨⟨L, X, N'⟩, eT, b, hZ, hx, ho, r⟩ := id P
  obtain ⟨T', X', e', stp⟩ := instNo X hx hZ ho w eT E F (g := mkF m pc Ls (.ref a :: st)) rfl rfl hd
  subst hp
  exact Done.step stp (K' T' ⟨⟨L, X', N'⟩, e', b, hZ, hx, ho, r⟩)
theorem wInst0 {index : Nat} (P : Pos p l e R s m args below meth c Z own ws bd T h k n) (hd : decode c.code pc = .ok (.instanceof index, 3)) (hp : pc + 3 = pc') (D : Done p l e R s m args below meth c Z own ws bd Q T (mkF m pc' Ls (.int 0 :: st))) : Done p l e R s m args below meth c Z own ws bd Q T (mkF m pc Ls (.null :: st)) := by
  obtain ⟨⟨L, X, N'⟩, eT, b, hZ, hx, ho, r⟩ := id P
  subst hp
  exact Done.step (Jvm.Stand.instanceofNull X hx (g := mkF m pc Ls (.null :: st)) rfl rfl hd) D
/-! calls -/
theorem wInit {index : Nat} {a : Addr} {W : Nat} (P : Pos p l e R s m args below meth c Z own ws bd T h k n) (w1 : (Cond.methodLink own index Lib.objectInit).before a0 Z = true) (w2 : (Cond.instanceMethod Lib.objectInit).before a0 Z = true) (w3 : (Cond.code Lib.objectInit ⟨#[0xb1]⟩ 1 none).before a0 Z = true) (hml : Ls.size = c.maxLocals)
    (hd : decode c.code pc = .ok (.invokespecial index, 3)) (hf : 1 ≤ R.frames) (hW : (st.map fun v => v.category).sum ≤ W) (hl : W + 12 ≤ R.locals) (hp : pc + 3 = pc')
    (K : ∀ T', Pos p l e R s m args below meth c Z own ws bd T' h k n → Done p l e R s m args below meth c Z own ws bd Q T' (mkF m pc' Ls st)) : Done p l e R s m args below meth c Z own ws bd Q T (mkF m pc Ls (.ref a :: st)) := by
  obtain ⟨⟨L, X, N'⟩, eT, b, hZ, hx, ho, r⟩ := id P
  obtain ⟨T', X', e', stp⟩ := initO X hx hZ ho w1 w2 w3 eT (g := mkF m pc Ls (.ref a :: st)) rfl hml rfl hd hf (W := W) (by show 2 * 0 + _ ≤ _; omega) hl
  subst hp
  exact Done.step stp (K T' ⟨⟨L, X', N'⟩, e', b, hZ, hx, ho, r⟩)
theorem wCallS {y : MethodName} {bytes : ByteArray} {maxL : Nat} {ret : Option FieldType} {rm : Room} {as' : Array Value} {ws' : List Addr} {Q' : Option Value → Heap → Prop} {index W : Nat} {argsL rest stk : List Value} (P : Pos p l e R s m args below meth c Z own ws bd T h k n) (M : OMet l y bytes maxL ret [] rm Z h ws' as' Q')
    (w1 : (Cond.methodLink own index y).before a0 Z = true) (w2 : (Cond.static y).before a0 Z = true) (w3 : (Cond.initialized y.cls).before a0 Z = true) (w4 : (Cond.code y bytes maxL ret).before a0 Z = true) (hy : y.cls ≠ "java/lang/invoke/MethodHandle" ∧ y.cls ≠ "java/lang/invoke/VarHandle") (hml : Ls.size = c.maxLocals)
    (hlen : ∀ sig, parseMethodDescriptor y.desc = some sig → argsL.length = sig.parameters.length) (has : (argsL).toArray = as') (hst : stk = argsL.reverse ++ rest) (hW : (rest.map fun v => v.category).sum ≤ W) (hf : rm.frames + 1 ≤ R.frames) (hl : W + (maxL + 11) + rm.locals ≤ R.locals) (hc : k + rm.cells ≤ R.cells) (hs : n + rm.slots ≤ R.slots)
    (hws : ∀ x ∈ ws', x ∈ ws ∨ bd ≤ x) (hd : decode c.code pc = .ok (.invokestatic index, 3)) (hp : pc + 3 = pc') {k' n' : Nat} (hk' : k + rm.cells = k') (hn' : n + rm.slots = n')
    (K : ∀ T' h' v, Pos p l e R s m args below meth c Z own ws bd T' h' k' n' → Keep h h' ws' → Q' v h' → Done p l e R s m args below meth c Z own ws bd Q T' (mkF m pc' Ls (v.toList ++ rest))) : Done p l e R s m args below meth c Z own ws bd Q T (mkF m pc Ls stk) := by
  obtain ⟨⟨L, X, N'⟩, eT, b, hZ, hx, ho, hlk, _, _⟩ := id P
  subst hst has hp hk' hn'
  obtain ⟨v, _, ⟨T', L', k1, n1⟩, -, X', ⟨Lc, hq, l', y', z'⟩, stp⟩ := Jvm.LawKit.callS X hx (y := y) ho (mvT hZ w1) (mvT hZ w2) (mvT hZ w3) (mvT hZ w4) hy (backOf (W := W) (Q := fun v h' L => Q' v h' ∧ Fw ws' h.size L ∧ Keep h h' ws') M hZ w4 w3 hf hl) (g := mkF m pc Ls (argsL.reverse ++ rest)) rfl hml (argsL := argsL) (rest := rest) hlen rfl (by show 2 * 0 + _ ≤ _; omega) hd (fun _ _ => ⟨rfl, eT, hc, hs⟩)
  dsimp only [Pt.U, Pt.locs, Pt.cells, Pt.slots] at X' l' y' z' stp hq
  subst l' y' z'
  exact Done.step (stp) (K T' T'.heap v ⟨⟨_, X', N'.app fun y hy => (hq.2.1 y hy).elim (fun q => hws _ q) (fun q => Or.inr (Nat.le_trans b q))⟩, rfl, Nat.le_trans b hq.2.2.1, hZ, hx, ho, hlk, hc, hs⟩ hq.2.2 hq.1)
theorem wCallI {y : MethodName} {bytes : ByteArray} {maxL : Nat} {rm : Room} {as' : Array Value} {ws' : List Addr} {Q' : Option Value → Heap → Prop} {index W : Nat} {argsL rest stk : List Value} {a : Addr} (P : Pos p l e R s m args below meth c Z own ws bd T h k n) (M : OMet l y bytes maxL none [] rm Z h ws' as' Q')
    (hyn : y.name = "<init>") (w1 : (Cond.methodLink own index y).before a0 Z = true) (w2 : (Cond.instanceMethod y).before a0 Z = true) (w3 : (Cond.initialized y.cls).before a0 Z = true) (w4 : (Cond.code y bytes maxL none).before a0 Z = true) (hy : y.cls ≠ "java/lang/invoke/MethodHandle" ∧ y.cls ≠ "java/lang/invoke/VarHandle") (hml : Ls.size = c.maxLocals)
    (hlen : ∀ sig, parseMethodDescriptor y.desc = some sig → argsL.length = sig.parameters.length) (has : (.ref a :: argsL).toArray = as') (hst : stk = argsL.reverse ++ .ref a :: rest) (hW : (rest.map fun v => v.category).sum ≤ W) (hf : rm.frames + 1 ≤ R.frames) (hl : W + (maxL + 11) + rm.locals ≤ R.locals) (hc : k + rm.cells ≤ R.cells) (hs : n + rm.slots ≤ R.slots)
    (hws : ∀ x ∈ ws', x ∈ ws ∨ bd ≤ x) (hd : decode c.code pc = .ok (.invokespecial index, 3)) (hp : pc + 3 = pc') {k' n' : Nat} (hk' : k + rm.cells = k') (hn' : n + rm.slots = n')
    (K : ∀ T' h' v, Pos p l e R s m args below meth c Z own ws bd T' h' k' n' → Keep h h' ws' → Q' v h' → Done p l e R s m args below meth c Z own ws bd Q T' (mkF m pc' Ls (v.toList ++ rest))) : Done p l e R s m args below meth c Z own ws bd Q T (mkF m pc Ls stk) := by
  obtain ⟨⟨L, X, N'⟩, eT, b, hZ, hx, ho, hlk, _, _⟩ := id P
  subst hst has hp hk' hn'
  obtain ⟨v, _, ⟨T', L', k1, n1⟩, -, X', ⟨Lc, hq, l', y', z'⟩, stp⟩ := X.specialBack hx (y := y) hyn ho (mvT hZ w1) (mvT hZ w2) (mvT hZ w4) hy (backOf (W := W) (Q := fun v h' L => Q' v h' ∧ Fw ws' h.size L ∧ Keep h h' ws') M hZ w4 w3 hf hl) (g := mkF m pc Ls (argsL.reverse ++ .ref a :: rest)) rfl hml (Steps.refl _) (a := a) (argsL := argsL) (rest := rest) hlen rfl (by show 2 * 0 + _ ≤ _; omega) hd (fun _ _ => ⟨rfl, eT, hc, hs⟩)
  dsimp only [Pt.U, Pt.locs, Pt.cells, Pt.slots] at X' l' y' z' stp hq
  subst l' y' z'
  exact Done.step (fun t kk => stp.trans kk) (K T' T'.heap v ⟨⟨_, X', N'.app fun y hy => (hq.2.1 y hy).elim (fun q => hws _ q) (fun q => Or.inr (Nat.le_trans b q))⟩, rfl, Nat.le_trans b hq.2.2.1, hZ, hx, ho, hlk, hc, hs⟩ hq.2.2 hq.1)
theorem wCallV {y : MethodName} {bytes : ByteArray} {maxL : Nat} {ret : Option FieldType} {rm : Room} {as' : Array Value} {ws' : List Addr} {Q' : Option Value → Heap → Prop} {index W : Nat} {argsL rest stk : List Value} {z : MethodName} {C : String} {a : Addr} (P : Pos p l e R s m args below meth c Z own ws bd T h k n) (M : OMet l z bytes maxL ret [] rm Z h ws' as' Q')
    (w1 : (Cond.methodLink own index y).before a0 Z = true) (w2 : (Cond.declares y).before a0 Z = true) (w5 : (Cond.selects C y z).before a0 Z = true) {D : String} (w7 : (Cond.selects D y y).before a0 Z = true) (w6 : (Cond.instanceMethod z).before a0 Z = true) (w3 : (Cond.initialized z.cls).before a0 Z = true) (w4 : (Cond.code z bytes maxL ret).before a0 Z = true) (hy : y.cls ≠ "java/lang/invoke/MethodHandle" ∧ y.cls ≠ "java/lang/invoke/VarHandle") (E : Exa Z h a C) (hml : Ls.size = c.maxLocals)
    (hlen : ∀ sig, parseMethodDescriptor y.desc = some sig → argsL.length = sig.parameters.length) (has : (.ref a :: argsL).toArray = as') (hst : stk = argsL.reverse ++ .ref a :: rest) (hW : (rest.map fun v => v.category).sum ≤ W) (hf : rm.frames + 1 ≤ R.frames) (hl : W + (maxL + 11) + rm.locals ≤ R.locals) (hc : k + rm.cells ≤ R.cells) (hs : n + rm.slots ≤ R.slots)
    (hws : ∀ x ∈ ws', x ∈ ws ∨ bd ≤ x) (hd : decode c.code pc = .ok (.invokevirtual index, 3)) (hp : pc + 3 = pc') {k' n' : Nat} (hk' : k + rm.cells = k') (hn' : n + rm.slots = n')
    (K : ∀ T' h' v, Pos p l e R s m args below meth c Z own ws bd T' h' k' n' → Keep h h' ws' → Q' v h' → Done p l e R s m args below meth c Z own ws bd Q T' (mkF m pc' Ls (v.toList ++ rest))) : Done p l e R s m args below meth c Z own ws bd Q T (mkF m pc Ls stk) := by
  obtain ⟨⟨L, X, N'⟩, eT, b, hZ, hx, ho, hlk, _, _⟩ := id P
  subst hst has hp hk' hn'
  obtain ⟨cq, kq, qa, qb, qc⟩ := isOf hZ eT E
  obtain ⟨v, _, ⟨T', L', k1, n1⟩, -, X', ⟨Lc, hq, l', y', z'⟩, stp⟩ := X.virtualBack hx (y := y) (z := z) ho (mvT hZ w1) (mvT hZ w2) (notFace_of_selects (args := #[]) (mvT hZ w7)) (mvT hZ w5) (mvT hZ w6) hy (backOf (W := W) (Q := fun v h' L => Q' v h' ∧ Fw ws' h.size L ∧ Keep h h' ws') M hZ w4 w3 hf hl) qa qc (g := mkF m pc Ls (argsL.reverse ++ .ref a :: rest)) rfl hml (Steps.refl _) (argsL := argsL) (rest := rest) hlen rfl (by show 2 * 0 + _ ≤ _; omega) hd (fun _ _ => ⟨rfl, eT, hc, hs⟩)
  dsimp only [Pt.U, Pt.locs, Pt.cells, Pt.slots] at X' l' y' z' stp hq
  subst l' y' z'
  exact Done.step (fun t kk => stp.trans kk) (K T' T'.heap v ⟨⟨_, X', N'.app fun y hy => (hq.2.1 y hy).elim (fun q => hws _ q) (fun q => Or.inr (Nat.le_trans b q))⟩, rfl, Nat.le_trans b hq.2.2.1, hZ, hx, ho, hlk, hc, hs⟩ hq.2.2 hq.1)
theorem wCallP {y : MethodName} {bytes : ByteArray} {maxL : Nat} {ret : Option FieldType} {rm : Room} {as' : Array Value} {ws' : List Addr} {Q' : Option Value → Heap → Prop} {index W kk : Nat} {argsL rest stk : List Value} {a : Addr} {C : String} (P : Pos p l e R s m args below meth c Z own ws bd T h k n) (M : OMet l y bytes maxL ret [] rm Z h ws' as' Q')
    (w1 : (Cond.methodLink own index y).before a0 Z = true) (w2 : (Cond.instanceMethod y).before a0 Z = true) (w5 : (Cond.privateMethod y).before a0 Z = true) (wi : (Cond.instantiable y.cls kk).before a0 Z = true) (w3 : (Cond.initialized y.cls).before a0 Z = true) (w4 : (Cond.code y bytes maxL ret).before a0 Z = true) (hy : y.cls ≠ "java/lang/invoke/MethodHandle" ∧ y.cls ≠ "java/lang/invoke/VarHandle") (E : Exa Z h a C) (hml : Ls.size = c.maxLocals)
    (hlen : ∀ sig, parseMethodDescriptor y.desc = some sig → argsL.length = sig.parameters.length) (has : (.ref a :: argsL).toArray = as') (hst : stk = argsL.reverse ++ .ref a :: rest) (hW : (rest.map fun v => v.category).sum ≤ W) (hf : rm.frames + 1 ≤ R.frames) (hl : W + (maxL + 11) + rm.locals ≤ R.locals) (hc : k + rm.cells ≤ R.cells) (hs : n + rm.slots ≤ R.slots)
    (hws : ∀ x ∈ ws', x ∈ ws ∨ bd ≤ x) (hd : decode c.code pc = .ok (.invokevirtual index, 3)) (hp : pc + 3 = pc') {k' n' : Nat} (hk' : k + rm.cells = k') (hn' : n + rm.slots = n')
    (K : ∀ T' h' v, Pos p l e R s m args below meth c Z own ws bd T' h' k' n' → Keep h h' ws' → Q' v h' → Done p l e R s m args below meth c Z own ws bd Q T' (mkF m pc' Ls (v.toList ++ rest))) : Done p l e R s m args below meth c Z own ws bd Q T (mkF m pc Ls stk) := by
  obtain ⟨⟨L, X, N'⟩, eT, b, hZ, hx, ho, hlk, _, _⟩ := id P
  subst hst has hp hk' hn'
  obtain ⟨cl, hcl, hst⟩ := E.cell
  have hpr : s.PrivateAt y := Cond.privateMethod_at (mvP hZ w5 (args := #[]))
  obtain ⟨ci, ki, hi1, hi2, -, hi3, -⟩ := Cond.instantiable_spec (mvT hZ wi : (Cond.instantiable y.cls kk).before args s = true)
  have hsel : (Cond.selects y.cls y y).before args s = true := selects_self_of_private hi1 hi2 (by simp only [Bool.or_eq_false_iff] at hi3; exact hi3.1) hpr (mvT hZ w2) hy
  obtain ⟨v, _, ⟨T', L', k1, n1⟩, -, X', ⟨Lc, hq, l', y', z'⟩, stp⟩ := X.privateBack hx (y := y) ho (mvT hZ w1) (mvT hZ w2) hsel hpr (mvT hZ w4) hy (backOf (W := W) (Q := fun v h' L => Q' v h' ∧ Fw ws' h.size L ∧ Keep h h' ws') M hZ w4 w3 hf hl) (g := mkF m pc Ls (argsL.reverse ++ .ref a :: rest)) rfl hml (Steps.refl _) (a := a) (by rw [eT]; exact hcl) hst (argsL := argsL) (rest := rest) hlen rfl (by show 2 * 0 + _ ≤ _; omega) hd (fun _ _ => ⟨rfl, eT, hc, hs⟩)
  dsimp only [Pt.U, Pt.locs, Pt.cells, Pt.slots] at X' l' y' z' stp hq
  subst l' y' z'
  exact Done.step (fun t kk => stp.trans kk) (K T' T'.heap v ⟨⟨_, X', N'.app fun y hy => (hq.2.1 y hy).elim (fun q => hws _ q) (fun q => Or.inr (Nat.le_trans b q))⟩, rfl, Nat.le_trans b hq.2.2.1, hZ, hx, ho, hlk, hc, hs⟩ hq.2.2 hq.1)
/-- a call that the machine answers itself -/
theorem wNat {y : MethodName} {by0 : ByteArray} {ml : Nat} {rt : Option FieldType} {index W : Nat} {F : Array Value → Prop} {val : Value} {argsL rest stk : List Value} (P : Pos p l e R s m args below meth c Z own ws bd T h k n)
    (w1 : (Cond.methodLink own index y).before a0 Z = true) (w2 : (Cond.static y).before a0 Z = true) (w3 : (Cond.initialized y.cls).before a0 Z = true) (w4 : (Cond.code y by0 ml rt).before a0 Z = true) (hy : y.cls ≠ "java/lang/invoke/MethodHandle" ∧ y.cls ≠ "java/lang/invoke/VarHandle")
    (hK : (Cond.code y by0 ml rt).before args s = true → Back l R p e below s args y 3 W (fun A a' => A.cells ≤ R.cells ∧ A.slots ≤ R.slots ∧ F a') (fun A _ v B => v = some val ∧ B = A)) (hml : Ls.size = c.maxLocals)
    (hlen : ∀ sig, parseMethodDescriptor y.desc = some sig → argsL.length = sig.parameters.length) (hst : stk = argsL.reverse ++ rest) (hW : (rest.map fun v => v.category).sum ≤ W) (hd : decode c.code pc = .ok (.invokestatic index, 3)) (hp : pc + 3 = pc') (hF : F argsL.toArray)
    (K : ∀ T', Pos p l e R s m args below meth c Z own ws bd T' h k n → Done p l e R s m args below meth c Z own ws bd Q T' (mkF m pc' Ls (val :: rest))) : Done p l e R s m args below meth c Z own ws bd Q T (mkF m pc Ls stk) := by
  obtain ⟨⟨L, X, N'⟩, eT, b, hZ, hx, ho, hlk, hc, hs⟩ := id P
  subst hst hp
  obtain ⟨T', X', e', stp⟩ := natS X hx hZ ho w1 w2 w3 w4 hy eT hK (g := mkF m pc Ls (argsL.reverse ++ rest)) rfl hml hlen rfl (by show 2 * 0 + _ ≤ _; omega) hd hc hs hF rfl
  exact Done.step stp (K T' ⟨⟨L, X', N'⟩, e', b, hZ, hx, ho, hlk, hc, hs⟩)
theorem Fw.toFr {bd : Nat} {L : List Loc} (N : Fw [] bd L) : Fr bd L := fun y hy => (N y hy).resolve_left (by simp)
theorem Fw.ofFr {ws : List Addr} {bd : Nat} {L : List Loc} (N : Fr bd L) : Fw ws bd L := fun y hy => Or.inr (N y hy)
theorem n32 {N : Nat} (h : N < 2147483648) : ¬ Int32.ofNat N < 0 ∧ (Int32.ofNat N).toNatClampNeg = N := by
  have e : (Int32.ofNat N).toInt = (N : Int) := Int32.toInt_ofNat_of_lt (by omega)
  refine ⟨?_, by rw [Int32.toNatClampNeg, e]; omega⟩
  rw [Int32.lt_iff_toInt_lt, e, show (0 : Int32).toInt = 0 from rfl]; omega
theorem Ar.toArv {a : Addr} {ty : FieldType} {N : Nat} {f : Nat → Value} (A : Ar Z h a ty N f) (dv : Value) (hf : ∀ i, fits ty (f i) = true) (hd : fits ty dv = true) : ∃ kA, Arv Z h a kA ty (Int32.ofNat N) ((List.range N).map f) dv := by
  obtain ⟨cl, Ar, S, hN, H⟩ := A
  have g : ∀ i, i < N → ((List.range N).map f).getD i dv = f i := fun i hi => by simp [List.getD_eq_getElem?_getD, hi]
  refine ⟨cl.cls, cl, Ar, rfl, by rw [(n32 hN).2, S], (n32 hN).1, fun i hi => ?_, fun i hi => ?_⟩
  · rw [g i (by omega)]; exact H i (by omega)
  · rw [g i (by omega)]; exact hf i
theorem Ar.ofArv {a : Addr} {ty : FieldType} {kA : ClassId} {N : Nat} {vs : List Value} {dv : Value} (hN : N < 2147483648) (A : Arv Z h a kA ty (Int32.ofNat N) vs dv) : Ar Z h a ty N (fun i => vs.getD i dv) := by
  obtain ⟨cl, Ar, -, S, -, H, -⟩ := A
  rw [(n32 hN).2] at S
  exact ⟨cl, Ar, S, hN, fun i hi => H i (by omega)⟩
/-- a copy of an array of doubles -/
theorem wClone {N cap index W : Nat} {f : Nat → UInt64} {a : Addr} (P : Pos p l e R s m args below meth c Z own ws bd T h k n) (A : Ar Z h a .double N (fun i => .double (f i))) (E : Exa Z h a "[D")
    (w1 : (Cond.methodLink own index ⟨"[D", "clone", "()Ljava/lang/Object;"⟩).before a0 Z = true) (w2 : (Cond.sameMethod "[D" "java/lang/Object" "clone" "()Ljava/lang/Object;").before a0 Z = true) (w3 : (Cond.native ⟨"java/lang/Object", "clone", "()Ljava/lang/Object;"⟩).before a0 Z = true)
    (w4 : (Cond.instanceMethod ⟨"java/lang/Object", "clone", "()Ljava/lang/Object;"⟩).before a0 Z = true) (w5 : (Cond.selects "[D" ⟨"[D", "clone", "()Ljava/lang/Object;"⟩ ⟨"java/lang/Object", "clone", "()Ljava/lang/Object;"⟩).before a0 Z = true) (w6 : (Cond.castable "[D" "java/lang/Cloneable").before a0 Z = true)
    (hml : Ls.size = c.maxLocals) (hd : decode c.code pc = .ok (.invokevirtual index, 3)) (hp : pc + 3 = pc') (hf : 1 ≤ R.frames) (hW : (st.map fun v => v.category).sum ≤ W) (hl : W + 14 ≤ R.locals) (hcap : N ≤ cap) (hc : k + 1 ≤ R.cells) (hsl : n + cap ≤ R.slots) {k' n' : Nat} (hk' : k + 1 = k') (hn' : n + cap = n')
    (K : ∀ T' h' b, b = h.size → h.size < h'.size → Pos p l e R s m args below meth c Z own ws bd T' h' k' n' → Ext h h' → Ar Z h' b .double N (fun i => .double (f i)) → Exa Z h' b "[D" → Done p l e R s m args below meth c Z own ws bd Q T' (mkF m pc' Ls (.ref b :: st))) : Done p l e R s m args below meth c Z own ws bd Q T (mkF m pc Ls (.ref a :: st)) := by
  obtain ⟨⟨L, X, N'⟩, eT, b, hZ, hx, ho, hlk, _, _⟩ := id P
  obtain ⟨cl, Ar, S, hN, H⟩ := A
  have FC : FitC Z cl := fitC_of Ar fun i hi v hv => by rw [H i (by omega)] at hv; cases hv; rfl
  obtain ⟨T', h', X', e', ex, A', E', stp⟩ := cloneA X hx hZ ho w1 w2 w3 w4 w5 w6 eT Ar E FC (g := mkF m pc Ls (.ref a :: st)) rfl hml rfl hd hf (W := W) (by show 2 * 0 + _ ≤ _; omega) hl (cap := cap) (by omega) hc hsl
  subst hp hk' hn'
  exact Done.step stp (K T' h' h.size rfl A'.lt ⟨⟨L, X', N'⟩, e', Nat.le_trans b ex.1, hZ, hx, ho, hlk, hc, hsl⟩ ex ⟨_, A', S, hN, H⟩ E')
/-- System.arraycopy of the first places of an array of doubles into a fresh one -/
theorem wCopyD {N M K0 index W : Nat} {f g : Nat → UInt64} {a b : Addr} {nn : Int32} (P : Pos p l e R s m args below meth c Z own [] bd T h k n) (A : Ar Z h a .double N (fun i => .double (f i))) (B : Ar Z h b .double M (fun i => .double (g i))) (hnn : nn.toInt = (K0 : Int)) (h1 : K0 ≤ N) (h2 : K0 ≤ M) (ge : bd ≤ b)
    (w1 : (Cond.methodLink own index Jvm.Stand.acN).before a0 Z = true) (w2 : (Cond.native Jvm.Stand.acN).before a0 Z = true) (w3 : (Cond.static Jvm.Stand.acN).before a0 Z = true) (w4 : (Cond.initialized "java/lang/System").before a0 Z = true)
    (hml : Ls.size = c.maxLocals) (hd : decode c.code pc = .ok (.invokestatic index, 3)) (hp : pc + 3 = pc') (hf : 1 ≤ R.frames) (hW : (st.map fun v => v.category).sum ≤ W) (hlo : W + (nativeFrameWords "java/lang/System" "arraycopy" 5 + 11) ≤ R.locals)
    (K : ∀ T' h', Pos p l e R s m args below meth c Z own [] bd T' h' k n → Keep h h' [b] → Ar Z h' b .double M (fun i => .double (if i < K0 then f i else g i)) → Done p l e R s m args below meth c Z own [] bd Q T' (mkF m pc' Ls st)) :
    Done p l e R s m args below meth c Z own [] bd Q T (mkF m pc Ls (.int nn :: .int 0 :: .ref b :: .int 0 :: .ref a :: st)) := by
  obtain ⟨⟨L, X, N'⟩, eT, hb', hZ, hx, ho, r⟩ := id P
  have hN := A.len
  have hM := B.len
  obtain ⟨kA, VA⟩ := A.toArv (.double 0) (fun _ => rfl) rfl
  obtain ⟨kB, VB⟩ := B.toArv (.double 0) (fun _ => rfl) rfl
  have z0 : ¬ (0 : Int32) < 0 := by decide
  have z1 : (0 : Int32).toNatClampNeg = 0 := by decide
  have q0 : ¬ nn < 0 := by rw [Int32.lt_iff_toInt_lt, hnn, show (0 : Int32).toInt = 0 from rfl]; omega
  have q1 : nn.toNatClampNeg = K0 := by rw [Int32.toNatClampNeg, hnn]; omega
  obtain ⟨T', h', L', X', e', F', Kp, V', stp⟩ := cpA X hx hZ ho w1 w2 w3 w4 eT VA VB (Or.inl ⟨rfl, rfl⟩) z0 z0 q0 (by rw [z1, q1, (n32 hN).2]; omega) (by rw [z1, q1, (n32 hM).2]; omega) rfl (by rw [z1, q1]; simp; omega) (n0 := bd) N'.toFr ge (g := mkF m pc Ls (.int nn :: .int 0 :: .ref b :: .int 0 :: .ref a :: st)) rfl hml rfl hd hf (W := W) (by show 2 * 0 + _ ≤ _; omega) hlo
  subst hp
  refine Done.step stp (K T' h' ⟨⟨L', X', Fw.ofFr F'⟩, e', Nat.le_trans hb' Kp.1, hZ, hx, ho, r⟩ Kp ((Ar.ofArv hM V').congr fun i hi => ?_))
  rw [z1, q1]
  by_cases q : i < K0
  · rw [if_pos q]
    simp [List.getD_eq_getElem?_getD, List.getElem?_append, q]
    rw [List.getElem?_range (by omega)]
    rfl
  · rw [if_neg q]
    simp [List.getD_eq_getElem?_getD, List.getElem?_append, q]
    have e2 : K0 + (i - K0) = i := by omega
    simp [e2, hi]
/-! constants and references -/
theorem pLdcI {index : Nat} {v : Int32} {t : State} (P : Pos p l e R s m args below meth c Z own ws bd T h k n) (w : (Cond.constant own index v).before a0 Z = true) (hd : decode c.code pc = .ok (.ldc index, 2)) (hp : pc + 2 = pc') (kk : Steps p.tables e below (T.setTop (mkF m pc' Ls (.int v :: st))) t) : Steps p.tables e below (T.setTop (mkF m pc Ls st)) t := by
  obtain ⟨⟨L, X, N'⟩, eT, b, hZ, hx, ho, hlk, _, _⟩ := id P
  subst hp
  exact X.ldcI hx ho (mvT hZ w) (g := mkF m pc Ls st) rfl hd kk
theorem pLdcIw {index : Nat} {v : Int32} {t : State} (P : Pos p l e R s m args below meth c Z own ws bd T h k n) (w : (Cond.constant own index v).before a0 Z = true) (hd : decode c.code pc = .ok (.ldc_w index, 3)) (hp : pc + 3 = pc') (kk : Steps p.tables e below (T.setTop (mkF m pc' Ls (.int v :: st))) t) : Steps p.tables e below (T.setTop (mkF m pc Ls st)) t := by
  obtain ⟨⟨L, X, N'⟩, eT, b, hZ, hx, ho, hlk, _, _⟩ := id P
  subst hp
  exact X.ldcWI hx ho (mvT hZ w) (g := mkF m pc Ls st) rfl hd kk
theorem pLdcJ {index : Nat} {v : Int64} {t : State} (P : Pos p l e R s m args below meth c Z own ws bd T h k n) (w : (Cond.constantLong own index v).before a0 Z = true) (hd : decode c.code pc = .ok (.ldc2_w index, 3)) (hp : pc + 3 = pc') (kk : Steps p.tables e below (T.setTop (mkF m pc' Ls (.long v :: st))) t) : Steps p.tables e below (T.setTop (mkF m pc Ls st)) t := by
  obtain ⟨⟨L, X, N'⟩, eT, b, hZ, hx, ho, hlk, _, _⟩ := id P
  subst hp
  exact X.ldc2J hx ho (mvT hZ w) (g := mkF m pc Ls st) rfl hd kk
theorem pLdcD {index : Nat} {v : UInt64} {t : State} (P : Pos p l e R s m args below meth c Z own ws bd T h k n) (w : (Cond.constantDouble own index v).before a0 Z = true) (hd : decode c.code pc = .ok (.ldc2_w index, 3)) (hp : pc + 3 = pc') (kk : Steps p.tables e below (T.setTop (mkF m pc' Ls (.double v :: st))) t) : Steps p.tables e below (T.setTop (mkF m pc Ls st)) t := by
  obtain ⟨⟨L, X, N'⟩, eT, b, hZ, hx, ho, hlk, _, _⟩ := id P
  subst hp
  exact X.ldc2DoubleC hx ho (mvT hZ w) (g := mkF m pc Ls st) rfl hd t kk
theorem pAcmp {cd : ACond} {x y : Value} {rest stk : List Value} {o : Int} {pc0 : Nat} {same : Bool} {t : State} (P : Pos p l e R s m args below meth c Z own ws bd T h k n) (h1 : x.isRef = true) (h2 : y.isRef = true) (hpc : pc = pc0) (hd : decode c.code pc = .ok (.if_acmp cd o, 3)) (hs : stk = y :: x :: rest) (hq : decide (x = y) = same) (ho : 0 ≤ (pc0 : Int) + o)
    (hp : pc' = if acV cd same = true then ((pc0 : Int) + o).toNat else pc0 + 3) (kk : Steps p.tables e below (T.setTop (mkF m pc' Ls rest)) t) : Steps p.tables e below (T.setTop (mkF m pc Ls stk)) t := by
  obtain ⟨⟨L, X, N'⟩, eT, b, hZ, hx, ho', hlk, _, _⟩ := id P
  exact Jvm.RoadKit.acmp (g := mkF m pc Ls stk) X hx rfl h1 h2 (pc0 := pc0) (pc' := pc') (same := same) hpc hd hs hq ho hp kk
end A
/-! conditions of branches -/
theorem iiW_lt_t {x y : Int32} (h : x < y) : if_icmp.holds .lt x y = true := (tlt h).1
theorem iiW_lt_f {x y : Int32} (h : ¬ (x < y)) : if_icmp.holds .lt x y = false := (flt h).1
theorem iiW_ge_t {x y : Int32} (h : ¬ (x < y)) : if_icmp.holds .ge x y = true := (flt h).2.1
theorem iiW_ge_f {x y : Int32} (h : ¬ ¬ (x < y)) : if_icmp.holds .ge x y = false := (tlt (Decidable.not_not.mp h)).2.1
theorem iiW_gt_t {x y : Int32} (h : y < x) : if_icmp.holds .gt x y = true := (tlt h).2.2.1
theorem iiW_gt_f {x y : Int32} (h : ¬ (y < x)) : if_icmp.holds .gt x y = false := (flt h).2.2.1
theorem iiW_le_t {x y : Int32} (h : ¬ (y < x)) : if_icmp.holds .le x y = true := (flt h).2.2.2
theorem iiW_le_f {x y : Int32} (h : ¬ ¬ (y < x)) : if_icmp.holds .le x y = false := (tlt (Decidable.not_not.mp h)).2.2.2
theorem iiW_eq_t {x y : Int32} (h : x = y) : if_icmp.holds .eq x y = true := (teq h).1
theorem iiW_eq_f {x y : Int32} (h : ¬ (x = y)) : if_icmp.holds .eq x y = false := (feq h).1
theorem iiW_ne_t {x y : Int32} (h : ¬ (x = y)) : if_icmp.holds .ne x y = true := (feq h).2
theorem iiW_ne_f {x y : Int32} (h : ¬ ¬ (x = y)) : if_icmp.holds .ne x y = false := (teq (Decidable.not_not.mp h)).2
theorem i0W_lt_t {x : Int32} (h : x < (0 : Int32)) : ifCond.holds .lt x = true := (if0 _ _).trans (iiW_lt_t h)
theorem i0W_lt_f {x : Int32} (h : ¬ (x < (0 : Int32))) : ifCond.holds .lt x = false := (if0 _ _).trans (iiW_lt_f h)
theorem i0W_ge_t {x : Int32} (h : ¬ (x < (0 : Int32))) : ifCond.holds .ge x = true := (if0 _ _).trans (iiW_ge_t h)
theorem i0W_ge_f {x : Int32} (h : ¬ ¬ (x < (0 : Int32))) : ifCond.holds .ge x = false := (if0 _ _).trans (iiW_ge_f h)
theorem i0W_gt_t {x : Int32} (h : (0 : Int32) < x) : ifCond.holds .gt x = true := (if0 _ _).trans (iiW_gt_t h)
theorem i0W_gt_f {x : Int32} (h : ¬ ((0 : Int32) < x)) : ifCond.holds .gt x = false := (if0 _ _).trans (iiW_gt_f h)
theorem i0W_le_t {x : Int32} (h : ¬ ((0 : Int32) < x)) : ifCond.holds .le x = true := (if0 _ _).trans (iiW_le_t h)
theorem i0W_le_f {x : Int32} (h : ¬ ¬ ((0 : Int32) < x)) : ifCond.holds .le x = false := (if0 _ _).trans (iiW_le_f h)
theorem i0W_eq_t {x : Int32} (h : x = (0 : Int32)) : ifCond.holds .eq x = true := (if0 _ _).trans (iiW_eq_t h)
theorem i0W_eq_f {x : Int32} (h : ¬ (x = (0 : Int32))) : ifCond.holds .eq x = false := (if0 _ _).trans (iiW_eq_f h)
theorem i0W_ne_t {x : Int32} (h : ¬ (x = (0 : Int32))) : ifCond.holds .ne x = true := (if0 _ _).trans (iiW_ne_t h)
theorem i0W_ne_f {x : Int32} (h : ¬ ¬ (x = (0 : Int32))) : ifCond.holds .ne x = false := (if0 _ _).trans (iiW_ne_f h)
theorem lcW_lt_t {x y : Int64} (h : x < y) : ifCond.holds .lt (lcmpW x y) = true := i0W_lt_t ((lw_lt x y).mpr h)
theorem lcW_lt_f {x y : Int64} (h : ¬ (x < y)) : ifCond.holds .lt (lcmpW x y) = false := i0W_lt_f fun q => h ((lw_lt x y).mp q)
theorem lcW_ge_t {x y : Int64} (h : ¬ (x < y)) : ifCond.holds .ge (lcmpW x y) = true := i0W_ge_t fun q => h ((lw_lt x y).mp q)
theorem lcW_ge_f {x y : Int64} (h : ¬ ¬ (x < y)) : ifCond.holds .ge (lcmpW x y) = false := i0W_ge_f fun q => h fun z => q ((lw_lt x y).mpr z)
theorem lcW_gt_t {x y : Int64} (h : y < x) : ifCond.holds .gt (lcmpW x y) = true := i0W_gt_t ((lw_gt x y).mpr h)
theorem lcW_gt_f {x y : Int64} (h : ¬ (y < x)) : ifCond.holds .gt (lcmpW x y) = false := i0W_gt_f fun q => h ((lw_gt x y).mp q)
theorem lcW_le_t {x y : Int64} (h : ¬ (y < x)) : ifCond.holds .le (lcmpW x y) = true := i0W_le_t fun q => h ((lw_gt x y).mp q)
theorem lcW_le_f {x y : Int64} (h : ¬ ¬ (y < x)) : ifCond.holds .le (lcmpW x y) = false := i0W_le_f fun q => h fun z => q ((lw_gt x y).mpr z)
theorem lcW_eq_t {x y : Int64} (h : x = y) : ifCond.holds .eq (lcmpW x y) = true := i0W_eq_t ((lw_eq x y).mpr h)
theorem lcW_eq_f {x y : Int64} (h : ¬ (x = y)) : ifCond.holds .eq (lcmpW x y) = false := i0W_eq_f fun q => h ((lw_eq x y).mp q)
theorem lcW_ne_t {x y : Int64} (h : ¬ (x = y)) : ifCond.holds .ne (lcmpW x y) = true := i0W_ne_t fun q => h ((lw_eq x y).mp q)
theorem lcW_ne_f {x y : Int64} (h : ¬ ¬ (x = y)) : ifCond.holds .ne (lcmpW x y) = false := i0W_ne_f fun q => h fun z => q ((lw_eq x y).mpr z)
/-- how two whole numbers compare, as dcmp pushes it -/
def cmpZ (i j : Int) : Int32 := if i < j then -1 else if i = j then 0 else 1
theorem cmpZ_lt (i j : Int) : cmpZ i j < (0 : Int32) ↔ i < j := by
  unfold cmpZ
  by_cases h1 : i < j
  · rw [if_pos h1]; exact ⟨fun _ => h1, fun _ => by decide⟩
  · rw [if_neg h1]
    by_cases h2 : i = j
    · rw [if_pos h2]; exact ⟨fun q => absurd q (by decide), fun q => absurd q h1⟩
    · rw [if_neg h2]; exact ⟨fun q => absurd q (by decide), fun q => absurd q h1⟩
theorem cmpZ_gt (i j : Int) : (0 : Int32) < cmpZ i j ↔ j < i := by
  unfold cmpZ
  by_cases h1 : i < j
  · rw [if_pos h1]; exact ⟨fun q => absurd q (by decide), fun q => by omega⟩
  · rw [if_neg h1]
    by_cases h2 : i = j
    · rw [if_pos h2]; exact ⟨fun q => absurd q (by decide), fun q => by omega⟩
    · rw [if_neg h2]; exact ⟨fun _ => by omega, fun _ => by decide⟩
theorem cmpZ_eq (i j : Int) : cmpZ i j = (0 : Int32) ↔ i = j := by
  unfold cmpZ
  by_cases h1 : i < j
  · rw [if_pos h1]; exact ⟨fun q => absurd q (by decide), fun q => by omega⟩
  · rw [if_neg h1]
    by_cases h2 : i = j
    · rw [if_pos h2]; exact ⟨fun _ => h2, fun _ => rfl⟩
    · rw [if_neg h2]; exact ⟨fun q => absurd q (by decide), fun q => absurd q h2⟩
theorem ciW_lt_t {x y : Int} (h : x < y) : ifCond.holds .lt (cmpZ x y) = true := i0W_lt_t ((cmpZ_lt x y).mpr h)
theorem ciW_lt_f {x y : Int} (h : ¬ (x < y)) : ifCond.holds .lt (cmpZ x y) = false := i0W_lt_f fun q => h ((cmpZ_lt x y).mp q)
theorem ciW_ge_t {x y : Int} (h : ¬ (x < y)) : ifCond.holds .ge (cmpZ x y) = true := i0W_ge_t fun q => h ((cmpZ_lt x y).mp q)
theorem ciW_ge_f {x y : Int} (h : ¬ ¬ (x < y)) : ifCond.holds .ge (cmpZ x y) = false := i0W_ge_f fun q => h fun z => q ((cmpZ_lt x y).mpr z)
theorem ciW_gt_t {x y : Int} (h : y < x) : ifCond.holds .gt (cmpZ x y) = true := i0W_gt_t ((cmpZ_gt x y).mpr h)
theorem ciW_gt_f {x y : Int} (h : ¬ (y < x)) : ifCond.holds .gt (cmpZ x y) = false := i0W_gt_f fun q => h ((cmpZ_gt x y).mp q)
theorem ciW_le_t {x y : Int} (h : ¬ (y < x)) : ifCond.holds .le (cmpZ x y) = true := i0W_le_t fun q => h ((cmpZ_gt x y).mp q)
theorem ciW_le_f {x y : Int} (h : ¬ ¬ (y < x)) : ifCond.holds .le (cmpZ x y) = false := i0W_le_f fun q => h fun z => q ((cmpZ_gt x y).mpr z)
theorem ciW_eq_t {x y : Int} (h : x = y) : ifCond.holds .eq (cmpZ x y) = true := i0W_eq_t ((cmpZ_eq x y).mpr h)
theorem ciW_eq_f {x y : Int} (h : ¬ (x = y)) : ifCond.holds .eq (cmpZ x y) = false := i0W_eq_f fun q => h ((cmpZ_eq x y).mp q)
theorem ciW_ne_t {x y : Int} (h : ¬ (x = y)) : ifCond.holds .ne (cmpZ x y) = true := i0W_ne_t fun q => h ((cmpZ_eq x y).mp q)
theorem ciW_ne_f {x y : Int} (h : ¬ ¬ (x = y)) : ifCond.holds .ne (cmpZ x y) = false := i0W_ne_f fun q => h fun z => q ((cmpZ_eq x y).mpr z)
section B
variable {C : Prop} [Decidable C]
theorem b01or (C : Prop) [Decidable C] : (if C then (1 : Int32) else (0 : Int32)) = 0 ∨ (if C then (1 : Int32) else (0 : Int32)) = 1 := by split <;> simp
theorem b01_eq_t (h : ¬ (C)) : ifCond.holds .eq (if C then (1 : Int32) else (0 : Int32)) = true := by rw [if_neg h]; rfl
theorem b01_eq_f (h : ¬ ¬ (C)) : ifCond.holds .eq (if C then (1 : Int32) else (0 : Int32)) = false := by rw [if_pos (Decidable.not_not.mp h)]; rfl
theorem b01_ne_t (h : C) : ifCond.holds .ne (if C then (1 : Int32) else (0 : Int32)) = true := by rw [if_pos h]; rfl
theorem b01_ne_f (h : ¬ (C)) : ifCond.holds .ne (if C then (1 : Int32) else (0 : Int32)) = false := by rw [if_neg h]; rfl
end B
theorem narrow_01 {x : Int32} (h : x = 0 ∨ x = 1) : narrow .boolean (.int x) = .int x := by rcases h with rfl | rfl <;> rfl
theorem fits_01 {x : Int32} (h : x = 0 ∨ x = 1) : fits .boolean (.int x) = true := by rcases h with rfl | rfl <;> rfl
theorem cat1 {v : Value} (h : v.isRef = true) : v.category = 1 := by cases v <;> first | rfl | (simp [Value.isRef] at h)
theorem narrow_refT {v : Value} {t : FieldType} (h : v.isRef = true) : narrow t v = v := by cases v <;> first | (simp [Value.isRef] at h; done) | (cases t <;> rfl)
theorem fits_refT {v : Value} {t : FieldType} (h : v.isRef = true) (ht : t.isReference = true) : fits t v = true := by cases v <;> first | (simp [Value.isRef] at h; done) | (cases t <;> first | rfl | (simp [FieldType.isReference] at ht; done))
theorem nab_mul {i j : Int} {A B : Nat} (h1 : i.natAbs ≤ A) (h2 : j.natAbs ≤ B) : (i * j).natAbs ≤ A * B := by rw [Int.natAbs_mul]; exact Nat.mul_le_mul h1 h2
theorem nab_add {i j : Int} {A B : Nat} (h1 : i.natAbs ≤ A) (h2 : j.natAbs ≤ B) : (i + j).natAbs ≤ A + B := by omega
theorem nab_sub {i j : Int} {A B : Nat} (h1 : i.natAbs ≤ A) (h2 : j.natAbs ≤ B) : (i - j).natAbs ≤ A + B := by omega
/-! whole numbers as doubles -/
section C
open Jvm.FP Jvm.FP.Core Jvm.Free.Fl
theorem dint_c0 : DInt 0 FP.dconst0 := by
  have h := i2d_int 0
  rwa [show Core.i2d 0 = FP.dconst0 from by decide +kernel] at h
theorem dint_c1 : DInt 1 FP.dconst1 := by
  have h := i2d_int 1
  rwa [show Core.i2d 1 = FP.dconst1 from by decide +kernel] at h
theorem dint_ite {C : Prop} [Decidable C] {i j : Int} {a b : UInt64} (h1 : C → DInt i a) (h0 : ¬ C → DInt j b) : DInt (if C then i else j) (if C then a else b) := by
  by_cases h : C
  · rw [if_pos h, if_pos h]; exact h1 h
  · rw [if_neg h, if_neg h]; exact h0 h
theorem nnD {i : Int} {a : UInt64} (h : DInt i a) : NoNaN64 a := val64_no.mpr (DInt_ne_nan h)
theorem dcmpZ {i j : Int} {a b : UInt64} (ha : DInt i a) (hb : DInt j b) {o : CmpOp} : cmpValue (FP.dcmp a b) o = cmpZ i j := by
  rw [show FP.dcmp a b = some (compare i j) from dcmp_int ha hb, compare_ite]
  unfold cmpZ
  split
  · rfl
  · split <;> rfl
end C
end Jvm.OwnW
namespace Jvm.Pilot.@@N@@
open Jvm Jvm.ClassFile Sem Op Lib Jvm.Free Jvm.Stand Jvm.LawKit Jvm.RoadKit Jvm.OwnW Bundle Jvm.Pilot.@@N@@.Jvm.D
open Jvm.FP.Core (DInt i2d_int l2d_int dadd_int dsub_int dmul_int dneg_int zval b64 val64 dcmp_zval compare_ite i2d_ne_zero DInt_ne_nan dcmp_int dcmp_l2d)

def own_up : Nat → (Nat → Int) → (Nat → Int32) → Nat → Int → Int32 → (Nat → Int) × (Nat → Int32)
  | 0, K, J, ip, k, i => (oupd K ip k, oupd J ip i)
  | r + 1, K, J, ip, k, i => if ip = 0 then (oupd K ip k, oupd J ip i) else if K ((ip - 1) / 2) < k then own_up r (oupd K ip (K ((ip - 1) / 2))) (oupd J ip (J ((ip - 1) / 2))) ((ip - 1) / 2) k i else (oupd K ip k, oupd J ip i)
def own_d (n : Nat) (K : Nat → Int) (ip : Nat) : Nat := if 2 * ip + 2 < n ∧ K (2 * ip + 1) < K (2 * ip + 2) then 2 * ip + 2 else 2 * ip + 1
def own_dn : Nat → Nat → (Nat → Int) → (Nat → Int32) → Nat → Int → Int32 → (Nat → Int) × (Nat → Int32)
  | 0, _, K, J, ip, k, i => (oupd K ip k, oupd J ip i)
  | r + 1, n, K, J, ip, k, i => if 2 * ip + 1 < n then (if k < K (own_d n K ip) then own_dn r n (oupd K ip (K (own_d n K ip))) (oupd J ip (J (own_d n K ip))) (own_d n K ip) k i else (oupd K ip k, oupd J ip i)) else (oupd K ip k, oupd J ip i)
def own_of (n : Nat) (c : Bool) (K : Nat → Int) (J : Nat → Int32) (k : Int) (i : Int32) : (Nat → Int) × (Nat → Int32) := if c then own_up n K J n k i else if k < K 0 then own_dn n n K J 0 k i else (K, J)
theorem own_dupd {N ip : Nat} {K : Nat → Int} {kf : Nat → UInt64} {x : Int} {y : UInt64} (h : ∀ i, i < N → DInt (K i) (kf i)) (q : DInt x y) (i : Nat) (hi : i < N) : DInt (oupd K ip x i) (oupd kf ip y i) := by
  by_cases z : i = ip
  · subst z; rw [oupd_same, oupd_same]; exact q
  · rw [oupd_ne z, oupd_ne z]; exact h i hi
theorem own_z {N : Nat} (h : N < 2147483648) : (Int32.ofNat N).toInt = (N : Int) := Int32.toInt_ofNat_of_lt (by omega)
theorem own_p0 {pv : Int32} {ip : Nat} (h : pv.toInt = (ip : Int)) (q : ¬ ((0 : Int32) < pv)) : ip = 0 := by
  rw [Int32.lt_iff_toInt_lt, h, show (0 : Int32).toInt = 0 from rfl] at q; omega
theorem own_p1 {pv : Int32} {ip : Nat} (h : pv.toInt = (ip : Int)) (q : ¬ ¬ ((0 : Int32) < pv)) : 0 < ip := by
  have q := Decidable.not_not.mp q
  rw [Int32.lt_iff_toInt_lt, h, show (0 : Int32).toInt = 0 from rfl] at q; omega
theorem own_par {pv : Int32} {ip : Nat} (h : pv.toInt = (ip : Int)) (hp : 0 < ip) : ((pv - (1 : Int32)) / (2 : Int32)).toInt = (((ip - 1) / 2 : Nat) : Int) := by
  have h1 := c_isub pv 1
  have h2 := rng32 (pv - 1)
  have h3 := rng32 pv
  have e1 : (1 : Int32).toInt = 1 := by decide
  have h4 := (c_idiv (pv - 1) 2 2 (by decide) (by decide)).1
  omega
theorem own_ch {hv : Int32} {ip : Nat} (h : hv.toInt = (ip : Int)) (hp : ip < 1000) : (((2 : Int32) * hv) + (1 : Int32)).toInt = ((2 * ip + 1 : Nat) : Int) := by
  have e1 : (1 : Int32).toInt = 1 := by decide
  have e2 : (2 : Int32).toInt = 2 := by decide
  have h1 := c_imul 2 hv
  have h2 := rng32 (2 * hv)
  have h3 := c_iadd (2 * hv) 1
  have h4 := rng32 (2 * hv + 1)
  rw [e2] at h1
  omega
theorem own_in {cv : Int32} {ip : Nat} (h : cv.toInt = (ip : Int)) (hp : ip < 1000) : (cv + (1 : Int32)).toInt = ((ip + 1 : Nat) : Int) := by
  have e1 : (1 : Int32).toInt = 1 := by decide
  have h3 := c_iadd cv 1
  have h4 := rng32 (cv + 1)
  omega
theorem own_lt' {x y : Int32} {i j : Nat} (hx : x.toInt = (i : Int)) (hy : y.toInt = (j : Int)) : x < y ↔ i < j := by
  rw [Int32.lt_iff_toInt_lt, hx, hy]; omega

theorem own_d_or (n : Nat) (K : Nat → Int) (ip : Nat) : own_d n K ip = 2 * ip + 1 ∨ own_d n K ip = 2 * ip + 2 := by unfold own_d; split <;> simp

def own_st (n : Nat) (K : Nat → Int) (J : Nat → Int32) : Nat → (Nat → Int) × (Nat → Int32)
  | 0 => (K, J)
  | j + 1 => own_dn (n - 1 - j) (n - 1 - j) (own_st n K J j).1 (own_st n K J j).2 0 ((own_st n K J j).1 (n - 1 - j)) ((own_st n K J j).2 (n - 1 - j))
theorem own_dec {x : Int32} {n : Nat} (h : x.toInt = ((n + 1 : Nat) : Int)) : (x - (1 : Int32)).toInt = (n : Int) := by
  have h1 := c_isub x 1
  have h2 := rng32 (x - 1)
  have h3 := rng32 x
  have e : (1 : Int32).toInt = 1 := by decide
  omega
theorem own_dm {x : Int32} {r : Nat} (h : x.toInt = (r : Int)) (hr : r < 1000) : (x + (-1 : Int32)).toInt = (r : Int) - 1 := by
  have h1 := c_iadd x (-1)
  have h2 := rng32 (x + (-1))
  have e : (-1 : Int32).toInt = -1 := by decide
  omega
theorem own_upto {n r : Nat} {F g : Nat → Int32} {x : Int32} (h : ∀ d, r + 1 ≤ d → d < n → g d = F d) (hx : x = F r) (d : Nat) (h1 : r ≤ d) (h2 : d < n) : oupd g r x d = F d := by
  by_cases q : d = r
  · subst q; rw [oupd_same]; exact hx
  · rw [oupd_ne q]; exact h d (by omega) h2

theorem own_dm' {x : Int32} {n : Nat} (h : x.toInt = (n : Int)) : (x - (1 : Int32)).toInt = (n : Int) - 1 := by
  have h1 := c_isub x 1
  have h2 := rng32 (x - 1)
  have h3 := rng32 x
  have e : (1 : Int32).toInt = 1 := by decide
  omega

theorem own_put {f : Int → Int} {e : Int32 → Int32} {m p : Nat} {K A : Nat → Int} {J B : Nat → Int32} {a : Int} {b : Int32} (h : ∀ i, i < m → i ≠ p → K i = f (A i) ∧ J i = e (B i)) (i : Nat) (hi : i < m) : (oupd K p (f a), oupd J p (e b)).1 i = f ((oupd A p a, oupd B p b).1 i) ∧ (oupd K p (f a), oupd J p (e b)).2 i = e ((oupd A p a, oupd B p b).2 i) := by
  show oupd K p (f a) i = f (oupd A p a i) ∧ oupd J p (e b) i = e (oupd B p b i)
  by_cases q : i = p
  · subst q; rw [oupd_same, oupd_same, oupd_same, oupd_same]; exact ⟨rfl, rfl⟩
  · rw [oupd_ne q, oupd_ne q, oupd_ne q, oupd_ne q]; exact h i hi q
theorem own_mvr {f : Int → Int} {e : Int32 → Int32} {m p d : Nat} {K A : Nat → Int} {J B : Nat → Int32} (h : ∀ i, i < m → i ≠ p → K i = f (A i) ∧ J i = e (B i)) (hd : d < m) (hdp : d ≠ p) (i : Nat) (hi : i < m) (q : i ≠ d) : oupd K p (K d) i = f (oupd A p (A d) i) ∧ oupd J p (J d) i = e (oupd B p (B d) i) := by
  by_cases q : i = p
  · subst q; rw [oupd_same, oupd_same, oupd_same, oupd_same]; exact h d hd hdp
  · rw [oupd_ne q, oupd_ne q, oupd_ne q, oupd_ne q]; exact h i hi q
theorem own_up_rel {f : Int → Int} {e : Int32 → Int32} (hf : ∀ x y, f x < f y ↔ x < y) {m : Nat} {a : Int} {b : Int32} : ∀ (r : Nat) (K A : Nat → Int) (J B : Nat → Int32) (p : Nat), p < m → (∀ i, i < m → i ≠ p → K i = f (A i) ∧ J i = e (B i)) → ∀ i, i < m → (own_up r K J p (f a) (e b)).1 i = f ((own_up r A B p a b).1 i) ∧ (own_up r K J p (f a) (e b)).2 i = e ((own_up r A B p a b).2 i)
  | 0, K, A, J, B, p, hp, h, i, hi => own_put h i hi
  | r + 1, K, A, J, B, p, hp, h, i, hi => by
    rw [own_up, own_up]
    by_cases q : p = 0
    · rw [if_pos q, if_pos q]; exact own_put h i hi
    · rw [if_neg q, if_neg q]
      have hpar := h ((p - 1) / 2) (by omega) (by omega)
      by_cases z : A ((p - 1) / 2) < a
      · rw [if_pos (by rw [hpar.1, hf]; exact z), if_pos z]
        exact own_up_rel hf r _ _ _ _ _ (by omega) (own_mvr h (by omega) (by omega)) i hi
      · rw [if_neg (by rw [hpar.1, hf]; exact z), if_neg z]; exact own_put h i hi
theorem own_d_rel {f : Int → Int} {e : Int32 → Int32} (hf : ∀ x y, f x < f y ↔ x < y) {m n p : Nat} {K A : Nat → Int} {J B : Nat → Int32} (hn : n ≤ m) (h : ∀ i, i < m → i ≠ p → K i = f (A i) ∧ J i = e (B i)) : own_d n K p = own_d n A p := by
  unfold own_d
  by_cases q : 2 * p + 2 < n
  · rw [(h (2 * p + 1) (by omega) (by omega)).1, (h (2 * p + 2) (by omega) (by omega)).1]
    simp only [hf]
  · rw [if_neg (fun z => q z.1), if_neg (fun z => q z.1)]
theorem own_dn_rel {f : Int → Int} {e : Int32 → Int32} (hf : ∀ x y, f x < f y ↔ x < y) {m n : Nat} (hn : n ≤ m) {a : Int} {b : Int32} : ∀ (r : Nat) (K A : Nat → Int) (J B : Nat → Int32) (p : Nat), p < m → (∀ i, i < m → i ≠ p → K i = f (A i) ∧ J i = e (B i)) → ∀ i, i < m → (own_dn r n K J p (f a) (e b)).1 i = f ((own_dn r n A B p a b).1 i) ∧ (own_dn r n K J p (f a) (e b)).2 i = e ((own_dn r n A B p a b).2 i)
  | 0, K, A, J, B, p, hp, h, i, hi => own_put h i hi
  | r + 1, K, A, J, B, p, hp, h, i, hi => by
    rw [own_dn, own_dn, own_d_rel hf hn h]
    by_cases q : 2 * p + 1 < n
    · rw [if_pos q, if_pos q]
      have hd := own_d_or n A p
      have hdn : own_d n A p < n := by
        rcases hd with z | z
        · omega
        · unfold own_d at z ⊢
          by_cases w : 2 * p + 2 < n ∧ A (2 * p + 1) < A (2 * p + 2)
          · rw [if_pos w]; exact w.1
          · rw [if_neg w] at z; omega
      have hpar := h (own_d n A p) (by omega) (by omega)
      by_cases z : a < A (own_d n A p)
      · rw [if_pos (by rw [hpar.1, hf]; exact z), if_pos z]
        exact own_dn_rel hf hn r _ _ _ _ _ (by omega) (own_mvr h (by omega) (by omega)) i hi
      · rw [if_neg (by rw [hpar.1, hf]; exact z), if_neg z]; exact own_put h i hi
    · rw [if_neg q, if_neg q]; exact own_put h i hi
theorem own_ofA {f : Int → Int} {e : Int32 → Int32} (hf : ∀ x y, f x < f y ↔ x < y) {n : Nat} {K A : Nat → Int} {J B : Nat → Int32} {k a : Int} {j b : Int32} (hk : k = f a) (hj : j = e b) (h : ∀ i, i < n → K i = f (A i) ∧ J i = e (B i)) : ∀ i, i < n + 1 → (own_of n true K J k j).1 i = f ((own_of n true A B a b).1 i) ∧ (own_of n true K J k j).2 i = e ((own_of n true A B a b).2 i) := by
  subst hk hj
  exact own_up_rel hf n K A J B n (by omega) fun i hi q => h i (by omega)
theorem own_ofB {f : Int → Int} {e : Int32 → Int32} (hf : ∀ x y, f x < f y ↔ x < y) {n : Nat} {K A : Nat → Int} {J B : Nat → Int32} {k a : Int} {j b : Int32} (hk : k = f a) (hj : j = e b) (h0 : 0 < n) (h : ∀ i, i < n → K i = f (A i) ∧ J i = e (B i)) : ∀ i, i < n → (own_of n false K J k j).1 i = f ((own_of n false A B a b).1 i) ∧ (own_of n false K J k j).2 i = e ((own_of n false A B a b).2 i) := by
  subst hk hj
  intro i hi
  unfold own_of
  rw [if_neg (show ¬ (false = true) by decide), if_neg (show ¬ (false = true) by decide)]
  by_cases z : a < A 0
  · rw [if_pos (by rw [(h 0 h0).1, hf]; exact z), if_pos z]
    exact own_dn_rel hf (Nat.le_refl n) n K A J B 0 h0 (fun i hi q => h i hi) i hi
  · rw [if_neg (by rw [(h 0 h0).1, hf]; exact z), if_neg z]; exact h i hi
theorem own_st_rel {f : Int → Int} {e : Int32 → Int32} (hf : ∀ x y, f x < f y ↔ x < y) {n : Nat} {K A : Nat → Int} {J B : Nat → Int32} (h0 : 0 < n) (h : ∀ i, i < n → K i = f (A i) ∧ J i = e (B i)) : ∀ j, j < n → ∀ i, i < n → (own_st n K J j).1 i = f ((own_st n A B j).1 i) ∧ (own_st n K J j).2 i = e ((own_st n A B j).2 i)
  | 0, _, i, hi => h i hi
  | j + 1, hj, i, hi => by
    have H := own_st_rel hf h0 h j (by omega)
    have q := H (n - 1 - j) (by omega)
    rw [own_st, own_st, q.1, q.2]
    exact own_dn_rel hf (show n - 1 - j ≤ n by omega) _ _ _ _ _ 0 h0 (fun i hi _ => H i hi) i hi
def own_f (v0 v1 v2 v3 x : Int) : Int := if x ≤ 0 then v0 + x else if x = 1 then v1 else if x = 2 then v2 else v3 + (x - 3)
theorem own_fm {v0 v1 v2 v3 : Int} (h1 : v0 < v1) (h2 : v1 < v2) (h3 : v2 < v3) (x y : Int) : own_f v0 v1 v2 v3 x < own_f v0 v1 v2 v3 y ↔ x < y := by
  unfold own_f
  split <;> split <;> (try split) <;> (try split) <;> (try split) <;> (try split) <;> omega
def own_e (e0 e1 e2 e3 z : Int32) : Int32 := if z = 0 then e0 else if z = 1 then e1 else if z = 2 then e2 else e3

theorem own_R0 (f : Int → Int) (e : Int32 → Int32) : ∀ i, i < 0 → (fun _ => (0 : Int)) i = f ((fun _ => (0 : Int)) i) ∧ (fun _ => (0 : Int32)) i = e ((fun _ => (0 : Int32)) i) := fun i hi => absurd hi (by omega)
theorem own_rp {f : Int → Int} {e : Int32 → Int32} (hf : ∀ x y, f x < f y ↔ x < y) {n : Nat} {K A : Nat → Int} {J B : Nat → Int32} {k a : Int} (h0 : 0 < n) (hk : k = f a) (h : ∀ i, i < n → K i = f (A i) ∧ J i = e (B i)) : ∀ i, i < n → (own_dn n n K J 0 k (J 0)).1 i = f ((own_dn n n A B 0 a (B 0)).1 i) ∧ (own_dn n n K J 0 k (J 0)).2 i = e ((own_dn n n A B 0 a (B 0)).2 i) := by
  intro i hi
  have hj := (h 0 h0).2
  rw [hj, hk]
  exact own_dn_rel hf (Nat.le_refl n) n K A J B 0 h0 (fun i hi _ => h i hi) i hi
theorem own_min16 {cv : Int32} {N : Nat} (h : cv.toInt = (N : Int)) (hN : N ≤ 16) : (if (16 : Int32) < cv then (16 : Int32) else cv).toInt = (N : Int) := by
  rw [if_neg (by rw [Int32.lt_iff_toInt_lt, h, show (16 : Int32).toInt = 16 from by decide]; omega)]
  exact h
def own_sel (a b c : Int) (i : Nat) : Int := if i = 0 then a else if i = 1 then b else c
theorem own_ds {V0 V1 V2 : Int} {w0 w1 w2 : UInt64} (E0 : DInt V0 w0) (E1 : DInt V1 w1) (E2 : DInt V2 w2) (i : Nat) (hi : i < 3) : DInt (own_sel V0 V1 V2 i) ((oupd (oupd (oupd (fun _ => (0 : UInt64)) 0 w0) 1 w1) 2 w2) i) := by
  have h : i = 0 ∨ i = 1 ∨ i = 2 := by omega
  rcases h with rfl | rfl | rfl
  · exact E0
  · exact E1
  · exact E2
theorem own_oiff {V0 V1 V2 : Int} (hv01 : V0 < V1) (hv12 : V1 < V2) {x y : Int32} {i j : Nat} (hx : x.toInt = (i : Int)) (hy : y.toInt = (j : Int)) (hi : i < 3) (hj : j < 3) : x < y ↔ own_sel V0 V1 V2 i < own_sel V0 V1 V2 j := by
  rw [own_lt' hx hy]
  have a : i = 0 ∨ i = 1 ∨ i = 2 := by omega
  have b : j = 0 ∨ j = 1 ∨ j = 2 := by omega
  have s0 : own_sel V0 V1 V2 0 = V0 := rfl
  have s1 : own_sel V0 V1 V2 1 = V1 := rfl
  have s2 : own_sel V0 V1 V2 2 = V2 := rfl
  rcases a with rfl | rfl | rfl <;> rcases b with rfl | rfl | rfl <;> simp only [s0, s1, s2] <;> constructor <;> intro h <;> omega
theorem own_yne {V0 V1 V2 : Int} (hv01 : V0 < V1) (hv12 : V1 < V2) {i j : Nat} (hi : i < 3) (hj : j < 3) (h : i ≠ j) : own_sel V0 V1 V2 i ≠ own_sel V0 V1 V2 j := by
  have a : i = 0 ∨ i = 1 ∨ i = 2 := by omega
  have b : j = 0 ∨ j = 1 ∨ j = 2 := by omega
  have s0 : own_sel V0 V1 V2 0 = V0 := rfl
  have s1 : own_sel V0 V1 V2 1 = V1 := rfl
  have s2 : own_sel V0 V1 V2 2 = V2 := rfl
  intro q
  rcases a with rfl | rfl | rfl <;> rcases b with rfl | rfl | rfl <;> simp only [s0, s1, s2] at q <;> omega
theorem own_xne {x y : Int32} {i j : Nat} (hx : x.toInt = (i : Int)) (hy : y.toInt = (j : Int)) (h : i ≠ j) : x ≠ y := fun z => h (by
  have := congrArg Int32.toInt z
  omega)
theorem own_100 {x : Int32} {i : Nat} (hx : x.toInt = (i : Int)) (hi : i < 3) : ((100 : Int32) + x).toInt = 100 + (i : Int) := by
  have a := c_iadd 100 x
  have b := rng32 (100 + x)
  have e : (100 : Int32).toInt = 100 := by decide
  omega
theorem own_neq {r s x y : Int32} {i j : Nat} (e : r = (100 : Int32) + x) (e' : s = (100 : Int32) + y) (hx : x.toInt = (i : Int)) (hy : y.toInt = (j : Int)) (hi : i < 3) (hj : j < 3) (h : i ≠ j) : ¬ (r = s) := fun z => h (by
  have a := own_100 hx hi
  have b := own_100 hy hj
  rw [← e] at a
  rw [← e'] at b
  have := congrArg Int32.toInt z
  omega)
theorem own_sub {r x : Int32} {i : Nat} (e : r = (100 : Int32) + x) (hx : x.toInt = (i : Int)) (hi : i < 3) : r - (100 : Int32) = x := by
  refine Int32.toInt_inj.mp ?_
  have a := own_100 hx hi
  rw [← e] at a
  have b := c_isub r 100
  have c := rng32 (r - 100)
  have e1 : (100 : Int32).toInt = 100 := by decide
  omega
theorem own_vals (p0 p1 p2 : Int32) : ∃ V0 V1 V2 : Int, Jvm.Free.Fl.NoNaN64 (FP.dadd (FP.i2d p0) FP.dconst1) ∧ Jvm.Free.Fl.NoNaN64 (FP.dadd (FP.dadd (FP.i2d p0) FP.dconst1) (FP.i2d (p1 &&& (255 : Int32)))) ∧ Jvm.Free.Fl.NoNaN64 (FP.dadd (FP.dadd (FP.dadd (FP.i2d p0) FP.dconst1) (FP.i2d (p1 &&& (255 : Int32)))) FP.dconst1) ∧ Jvm.Free.Fl.NoNaN64 (FP.dadd (FP.dadd (FP.dadd (FP.dadd (FP.i2d p0) FP.dconst1) (FP.i2d (p1 &&& (255 : Int32)))) FP.dconst1) (FP.i2d (p2 &&& (255 : Int32)))) ∧ DInt V0 (FP.i2d p0) ∧ DInt V1 (FP.dadd (FP.dadd (FP.i2d p0) FP.dconst1) (FP.i2d (p1 &&& (255 : Int32)))) ∧ DInt V2 (FP.dadd (FP.dadd (FP.dadd (FP.dadd (FP.i2d p0) FP.dconst1) (FP.i2d (p1 &&& (255 : Int32)))) FP.dconst1) (FP.i2d (p2 &&& (255 : Int32)))) ∧ V0 < V1 ∧ V1 < V2 := by
  have r0 := rng32 p0
  have b1 := c_and p1 255 (by decide)
  have b2 := c_and p2 255 (by decide)
  have e : (255 : Int32).toInt = 255 := by decide
  have d0 := i2d_int p0
  have d1 : DInt (p0.toInt + 1) (FP.dadd (FP.i2d p0) FP.dconst1) := dadd_int d0 dint_c1 (by omega)
  have d2 : DInt (p0.toInt + 1 + (p1 &&& (255 : Int32)).toInt) (FP.dadd (FP.dadd (FP.i2d p0) FP.dconst1) (FP.i2d (p1 &&& (255 : Int32)))) := dadd_int d1 (i2d_int _) (by omega)
  have d3 : DInt (p0.toInt + 1 + (p1 &&& (255 : Int32)).toInt + 1) (FP.dadd (FP.dadd (FP.dadd (FP.i2d p0) FP.dconst1) (FP.i2d (p1 &&& (255 : Int32)))) FP.dconst1) := dadd_int d2 dint_c1 (by omega)
  have d4 : DInt (p0.toInt + 1 + (p1 &&& (255 : Int32)).toInt + 1 + (p2 &&& (255 : Int32)).toInt) (FP.dadd (FP.dadd (FP.dadd (FP.dadd (FP.i2d p0) FP.dconst1) (FP.i2d (p1 &&& (255 : Int32)))) FP.dconst1) (FP.i2d (p2 &&& (255 : Int32)))) := dadd_int d3 (i2d_int _) (by omega)
  exact ⟨_, _, _, nnD d1, nnD d2, nnD d3, nnD d4, d0, d2, d4, by omega, by omega⟩
theorem own_nc (p : Int32) : (((1 : Int32) + ((p &&& (2147483647 : Int32)) - ((p &&& (2147483647 : Int32)) / (3 : Int32)) * (3 : Int32))) = 1 ∨ ((1 : Int32) + ((p &&& (2147483647 : Int32)) - ((p &&& (2147483647 : Int32)) / (3 : Int32)) * (3 : Int32))) = 2 ∨ ((1 : Int32) + ((p &&& (2147483647 : Int32)) - ((p &&& (2147483647 : Int32)) / (3 : Int32)) * (3 : Int32))) = 3) ∧ ∃ N : Nat, (((1 : Int32) + ((p &&& (2147483647 : Int32)) - ((p &&& (2147483647 : Int32)) / (3 : Int32)) * (3 : Int32))) + (((p &&& (2147483647 : Int32)) / (3 : Int32)) &&& (1 : Int32))).toInt = (N : Int) ∧ N ≤ 4 ∧ ((1 : Int32) + ((p &&& (2147483647 : Int32)) - ((p &&& (2147483647 : Int32)) / (3 : Int32)) * (3 : Int32))).toInt ≤ (N : Int) := by
  rw [irem_eq_mod]
  have h1 := c_and p 2147483647 (by decide)
  have h2 := (c_irem (p &&& (2147483647 : Int32)) 3 3 (by decide)).1 h1.1
  have e1 : (1 : Int32).toInt = 1 := by decide
  have h3 := c_iadd 1 ((p &&& (2147483647 : Int32)) % 3)
  have h4 := rng32 (1 + (p &&& (2147483647 : Int32)) % 3)
  have q : ∀ n : Int32, ((1 : Int32) + (p &&& (2147483647 : Int32)) % 3).toInt = n.toInt → (1 : Int32) + (p &&& (2147483647 : Int32)) % 3 = n := fun n h => Int32.toInt_inj.mp h
  have h5 := c_and ((p &&& (2147483647 : Int32)) / 3) 1 (by decide)
  have h6 := c_iadd (1 + (p &&& (2147483647 : Int32)) % 3) (((p &&& (2147483647 : Int32)) / 3) &&& 1)
  have h7 := rng32 (1 + (p &&& (2147483647 : Int32)) % 3 + (((p &&& (2147483647 : Int32)) / 3) &&& 1))
  generalize (p &&& (2147483647 : Int32)) % 3 = r at *
  generalize (((p &&& (2147483647 : Int32)) / 3) &&& 1) = b at *
  constructor
  · have h : ((1 : Int32) + r).toInt = 1 ∨ ((1 : Int32) + r).toInt = 2 ∨ ((1 : Int32) + r).toInt = 3 := by omega
    rcases h with h | h | h
    · exact Or.inl (q 1 h)
    · exact Or.inr (Or.inl (q 2 h))
    · exact Or.inr (Or.inr (q 3 h))
  · exact ⟨(1 + r + b).toInt.toNat, by omega, by omega, by omega⟩
theorem own_qv (p : Int32) : ((p &&& (2147483647 : Int32)) - ((p &&& (2147483647 : Int32)) / (6 : Int32)) * (6 : Int32)) = 0 ∨ ((p &&& (2147483647 : Int32)) - ((p &&& (2147483647 : Int32)) / (6 : Int32)) * (6 : Int32)) = 1 ∨ ((p &&& (2147483647 : Int32)) - ((p &&& (2147483647 : Int32)) / (6 : Int32)) * (6 : Int32)) = 2 ∨ ((p &&& (2147483647 : Int32)) - ((p &&& (2147483647 : Int32)) / (6 : Int32)) * (6 : Int32)) = 3 ∨ ((p &&& (2147483647 : Int32)) - ((p &&& (2147483647 : Int32)) / (6 : Int32)) * (6 : Int32)) = 4 ∨ ((p &&& (2147483647 : Int32)) - ((p &&& (2147483647 : Int32)) / (6 : Int32)) * (6 : Int32)) = 5 := by
  rw [show ((p &&& (2147483647 : Int32)) - ((p &&& (2147483647 : Int32)) / (6 : Int32)) * (6 : Int32)) = (p &&& (2147483647 : Int32)) % 6 from irem_eq_mod _ _]
  have h1 := c_and p 2147483647 (by decide)
  have h2 := (c_irem (p &&& 2147483647) 6 6 (by decide)).1 h1.1
  have q : ∀ n : Int32, ((p &&& 2147483647) % 6).toInt = n.toInt → (p &&& 2147483647) % 6 = n := fun n h => Int32.toInt_inj.mp h
  generalize ((p &&& 2147483647) % 6) = w at *
  have h : w.toInt = 0 ∨ w.toInt = 1 ∨ w.toInt = 2 ∨ w.toInt = 3 ∨ w.toInt = 4 ∨ w.toInt = 5 := by omega
  rcases h with h | h | h | h | h | h
  · exact Or.inl (q 0 h)
  · exact Or.inr (Or.inl (q 1 h))
  · exact Or.inr (Or.inr (Or.inl (q 2 h)))
  · exact Or.inr (Or.inr (Or.inr (Or.inl (q 3 h))))
  · exact Or.inr (Or.inr (Or.inr (Or.inr (Or.inl (q 4 h)))))
  · exact Or.inr (Or.inr (Or.inr (Or.inr (Or.inr (q 5 h)))))
theorem own_ord2 (x0 x1 : Int) (d01 : x0 ≠ x1) : (x0 < x1) ∨ (x1 < x0) := by omega
theorem own_ord3 (x0 x1 x2 : Int) (d01 : x0 ≠ x1) (d02 : x0 ≠ x2) (d12 : x1 ≠ x2) : (x0 < x1 ∧ x1 < x2) ∨ (x0 < x2 ∧ x2 < x1) ∨ (x1 < x0 ∧ x0 < x2) ∨ (x1 < x2 ∧ x2 < x0) ∨ (x2 < x0 ∧ x0 < x1) ∨ (x2 < x1 ∧ x1 < x0) := by omega
theorem own_fin_1 (x0 mo : Int32) (y0 kk : Int)  (hmo : mo = x0) (M1 : Int) (hM1 : M1 = (if x0 = mo then kk else (if kk < y0 then y0 else kk))) (K1 : Nat → Int) (J1 : Nat → Int32) (gK1 : (own_of 0 true (fun _ => (0 : Int)) (fun _ => (0 : Int32)) y0 ((100 : Int32) + x0)).1 = K1) (gJ1 : (own_of 0 true (fun _ => (0 : Int)) (fun _ => (0 : Int32)) y0 ((100 : Int32) + x0)).2 = J1) : J1 0 = ((100 : Int32) + mo) ∧ (own_dn 1 1 K1 J1 0 kk (J1 0)).1 0 = M1 ∧ ∀ of : Nat → Int32, (∀ d, d < 1 → of d = (own_st 1 (own_dn 1 1 K1 J1 0 kk (J1 0)).1 (own_dn 1 1 K1 J1 0 kk (J1 0)).2 (1 - 1 - d)).2 0) → (of 0 = ((100 : Int32) + x0)) := by
  subst gK1 gJ1
  have hp : (kk < y0) ∨ (kk = y0) ∨ (y0 < kk) := by omega
  rcases hp with hk | hk | hk
  · have Hf := own_fm (v0 := kk) (v1 := y0) (v2 := (y0 + 1)) (v3 := ((y0 + 1) + 1)) (by omega) (by omega) (by omega)
    have R0 := own_R0 (own_f kk y0 (y0 + 1) ((y0 + 1) + 1)) (own_e ((100 : Int32) + x0) 0 0 0)
    have R1 := own_ofA Hf (e := (own_e ((100 : Int32) + x0) 0 0 0)) (n := 0) (a := 1) (b := 0) (k := y0) (j := ((100 : Int32) + x0)) (by simp [own_f]) (by first | rfl | simp [own_e]) R0
    have hm : mo = x0 := hmo
    have m1 : M1 = kk := by rw [hM1, if_pos hm.symm]
    have RP := own_rp Hf (e := (own_e ((100 : Int32) + x0) 0 0 0)) (n := 1) (k := kk) (a := 0) (by decide) (by simp [own_f] <;> omega) R1
    refine ⟨?_, ?_, fun of hof => ?_⟩
    · rw [hm]; exact (R1 0 (by decide)).2.trans ((congrArg (own_e ((100 : Int32) + x0) 0 0 0) (show _ = (0 : Int32) from by decide +kernel)).trans (by first | rfl | simp [own_e]))
    · rw [m1]; exact (RP 0 (by decide)).1.trans ((congrArg (own_f kk y0 (y0 + 1) ((y0 + 1) + 1)) (show _ = (0 : Int) from by decide +kernel)).trans (by simp [own_f] <;> omega))
    · have o0 : of 0 = ((100 : Int32) + x0) := (hof 0 (by decide)).trans ((own_st_rel Hf (by decide) RP (1 - 1 - 0) (by decide) 0 (by decide)).2.trans ((congrArg (own_e ((100 : Int32) + x0) 0 0 0) (show _ = (0 : Int32) from by decide +kernel)).trans (by first | rfl | simp [own_e])))
      exact o0
  · have Hf := own_fm (v0 := y0) (v1 := (y0 + 1)) (v2 := ((y0 + 1) + 1)) (v3 := (((y0 + 1) + 1) + 1)) (by omega) (by omega) (by omega)
    have R0 := own_R0 (own_f y0 (y0 + 1) ((y0 + 1) + 1) (((y0 + 1) + 1) + 1)) (own_e ((100 : Int32) + x0) 0 0 0)
    have R1 := own_ofA Hf (e := (own_e ((100 : Int32) + x0) 0 0 0)) (n := 0) (a := 0) (b := 0) (k := y0) (j := ((100 : Int32) + x0)) (by simp [own_f]) (by first | rfl | simp [own_e]) R0
    have hm : mo = x0 := hmo
    have m1 : M1 = kk := by rw [hM1, if_pos hm.symm]
    have RP := own_rp Hf (e := (own_e ((100 : Int32) + x0) 0 0 0)) (n := 1) (k := kk) (a := 0) (by decide) (by simp [own_f] <;> omega) R1
    refine ⟨?_, ?_, fun of hof => ?_⟩
    · rw [hm]; exact (R1 0 (by decide)).2.trans ((congrArg (own_e ((100 : Int32) + x0) 0 0 0) (show _ = (0 : Int32) from by decide +kernel)).trans (by first | rfl | simp [own_e]))
    · rw [m1]; exact (RP 0 (by decide)).1.trans ((congrArg (own_f y0 (y0 + 1) ((y0 + 1) + 1) (((y0 + 1) + 1) + 1)) (show _ = (0 : Int) from by decide +kernel)).trans (by simp [own_f] <;> omega))
    · have o0 : of 0 = ((100 : Int32) + x0) := (hof 0 (by decide)).trans ((own_st_rel Hf (by decide) RP (1 - 1 - 0) (by decide) 0 (by decide)).2.trans ((congrArg (own_e ((100 : Int32) + x0) 0 0 0) (show _ = (0 : Int32) from by decide +kernel)).trans (by first | rfl | simp [own_e])))
      exact o0
  · have Hf := own_fm (v0 := y0) (v1 := kk) (v2 := (kk + 1)) (v3 := ((kk + 1) + 1)) (by omega) (by omega) (by omega)
    have R0 := own_R0 (own_f y0 kk (kk + 1) ((kk + 1) + 1)) (own_e ((100 : Int32) + x0) 0 0 0)
    have R1 := own_ofA Hf (e := (own_e ((100 : Int32) + x0) 0 0 0)) (n := 0) (a := 0) (b := 0) (k := y0) (j := ((100 : Int32) + x0)) (by simp [own_f]) (by first | rfl | simp [own_e]) R0
    have hm : mo = x0 := hmo
    have m1 : M1 = kk := by rw [hM1, if_pos hm.symm]
    have RP := own_rp Hf (e := (own_e ((100 : Int32) + x0) 0 0 0)) (n := 1) (k := kk) (a := 1) (by decide) (by simp [own_f] <;> omega) R1
    refine ⟨?_, ?_, fun of hof => ?_⟩
    · rw [hm]; exact (R1 0 (by decide)).2.trans ((congrArg (own_e ((100 : Int32) + x0) 0 0 0) (show _ = (0 : Int32) from by decide +kernel)).trans (by first | rfl | simp [own_e]))
    · rw [m1]; exact (RP 0 (by decide)).1.trans ((congrArg (own_f y0 kk (kk + 1) ((kk + 1) + 1)) (show _ = (1 : Int) from by decide +kernel)).trans (by simp [own_f] <;> omega))
    · have o0 : of 0 = ((100 : Int32) + x0) := (hof 0 (by decide)).trans ((own_st_rel Hf (by decide) RP (1 - 1 - 0) (by decide) 0 (by decide)).2.trans ((congrArg (own_e ((100 : Int32) + x0) 0 0 0) (show _ = (0 : Int32) from by decide +kernel)).trans (by first | rfl | simp [own_e])))
      exact o0
theorem own_fin_2 (x0 x1 mo : Int32) (y0 y1 kk : Int) (p01 : x0 < x1 ↔ y0 < y1) (d01 : y0 ≠ y1) (e01 : x0 ≠ x1) (hmo : mo = (if x0 < x1 then x1 else x0)) (M1 M2 : Int) (hM1 : M1 = (if x0 = mo then kk else (if kk < y0 then y0 else kk))) (hM2 : M2 = (if x1 = mo then M1 else (if M1 < y1 then y1 else M1))) (K1 : Nat → Int) (J1 : Nat → Int32) (gK1 : (own_of 0 true (fun _ => (0 : Int)) (fun _ => (0 : Int32)) y0 ((100 : Int32) + x0)).1 = K1) (gJ1 : (own_of 0 true (fun _ => (0 : Int)) (fun _ => (0 : Int32)) y0 ((100 : Int32) + x0)).2 = J1) (K2 : Nat → Int) (J2 : Nat → Int32) (gK2 : (own_of 1 true K1 J1 y1 ((100 : Int32) + x1)).1 = K2) (gJ2 : (own_of 1 true K1 J1 y1 ((100 : Int32) + x1)).2 = J2) : J2 0 = ((100 : Int32) + mo) ∧ (own_dn 2 2 K2 J2 0 kk (J2 0)).1 0 = M2 ∧ ∀ of : Nat → Int32, (∀ d, d < 2 → of d = (own_st 2 (own_dn 2 2 K2 J2 0 kk (J2 0)).1 (own_dn 2 2 K2 J2 0 kk (J2 0)).2 (2 - 1 - d)).2 0) → (of 0 = ((100 : Int32) + x0) ∧ of 1 = ((100 : Int32) + x1) ∧ (if x0 = mo then kk else y0) ≤ (if x1 = mo then kk else y1)) ∨ (of 0 = ((100 : Int32) + x1) ∧ of 1 = ((100 : Int32) + x0) ∧ (if x1 = mo then kk else y1) ≤ (if x0 = mo then kk else y0)) := by
  subst gK1 gJ1
  subst gK2 gJ2
  rcases own_ord2 y0 y1 d01 with h | h
  · have hp : (kk < y0) ∨ (kk = y0) ∨ (y0 < kk ∧ kk < y1) ∨ (kk = y1) ∨ (y1 < kk) := by omega
    rcases hp with hk | hk | hk | hk | hk
    · have Hf := own_fm (v0 := kk) (v1 := y0) (v2 := y1) (v3 := (y1 + 1)) (by omega) (by omega) (by omega)
      have R0 := own_R0 (own_f kk y0 y1 (y1 + 1)) (own_e ((100 : Int32) + x0) ((100 : Int32) + x1) 0 0)
      have R1 := own_ofA Hf (e := (own_e ((100 : Int32) + x0) ((100 : Int32) + x1) 0 0)) (n := 0) (a := 1) (b := 0) (k := y0) (j := ((100 : Int32) + x0)) (by simp [own_f]) (by first | rfl | simp [own_e]) R0
      have R2 := own_ofA Hf (e := (own_e ((100 : Int32) + x0) ((100 : Int32) + x1) 0 0)) (n := 1) (a := 2) (b := 1) (k := y1) (j := ((100 : Int32) + x1)) (by simp [own_f]) (by first | rfl | simp [own_e]) R1
      have hm : mo = x1 := (by rw [hmo, if_pos (p01.mpr (by omega))])
      have m1 : M1 = y0 := by rw [hM1, if_neg (fun z_ => e01 (z_.trans hm)), if_pos (by omega)]
      have m2 : M2 = y0 := by rw [hM2, m1, if_pos hm.symm]
      have RP := own_rp Hf (e := (own_e ((100 : Int32) + x0) ((100 : Int32) + x1) 0 0)) (n := 2) (k := kk) (a := 0) (by decide) (by simp [own_f] <;> omega) R2
      refine ⟨?_, ?_, fun of hof => ?_⟩
      · rw [hm]; exact (R2 0 (by decide)).2.trans ((congrArg (own_e ((100 : Int32) + x0) ((100 : Int32) + x1) 0 0) (show _ = (1 : Int32) from by decide +kernel)).trans (by first | rfl | simp [own_e]))
      · rw [m2]; exact (RP 0 (by decide)).1.trans ((congrArg (own_f kk y0 y1 (y1 + 1)) (show _ = (1 : Int) from by decide +kernel)).trans (by simp [own_f] <;> omega))
      · have o0 : of 0 = ((100 : Int32) + x1) := (hof 0 (by decide)).trans ((own_st_rel Hf (by decide) RP (2 - 1 - 0) (by decide) 0 (by decide)).2.trans ((congrArg (own_e ((100 : Int32) + x0) ((100 : Int32) + x1) 0 0) (show _ = (1 : Int32) from by decide +kernel)).trans (by first | rfl | simp [own_e])))
        have o1 : of 1 = ((100 : Int32) + x0) := (hof 1 (by decide)).trans ((own_st_rel Hf (by decide) RP (2 - 1 - 1) (by decide) 0 (by decide)).2.trans ((congrArg (own_e ((100 : Int32) + x0) ((100 : Int32) + x1) 0 0) (show _ = (0 : Int32) from by decide +kernel)).trans (by first | rfl | simp [own_e])))
        exact Or.inr (⟨o0, o1, (by rw [if_pos hm.symm, if_neg (fun z_ => e01 (z_.trans hm))]; omega)⟩)
    · have Hf := own_fm (v0 := y0) (v1 := y1) (v2 := (y1 + 1)) (v3 := ((y1 + 1) + 1)) (by omega) (by omega) (by omega)
      have R0 := own_R0 (own_f y0 y1 (y1 + 1) ((y1 + 1) + 1)) (own_e ((100 : Int32) + x0) ((100 : Int32) + x1) 0 0)
      have R1 := own_ofA Hf (e := (own_e ((100 : Int32) + x0) ((100 : Int32) + x1) 0 0)) (n := 0) (a := 0) (b := 0) (k := y0) (j := ((100 : Int32) + x0)) (by simp [own_f]) (by first | rfl | simp [own_e]) R0
      have R2 := own_ofA Hf (e := (own_e ((100 : Int32) + x0) ((100 : Int32) + x1) 0 0)) (n := 1) (a := 1) (b := 1) (k := y1) (j := ((100 : Int32) + x1)) (by simp [own_f]) (by first | rfl | simp [own_e]) R1
      have hm : mo = x1 := (by rw [hmo, if_pos (p01.mpr (by omega))])
      have m1 : M1 = kk := by rw [hM1, if_neg (fun z_ => e01 (z_.trans hm)), if_neg (by omega)]
      have m2 : M2 = kk := by rw [hM2, m1, if_pos hm.symm]
      have RP := own_rp Hf (e := (own_e ((100 : Int32) + x0) ((100 : Int32) + x1) 0 0)) (n := 2) (k := kk) (a := 0) (by decide) (by simp [own_f] <;> omega) R2
      refine ⟨?_, ?_, fun of hof => ?_⟩
      · rw [hm]; exact (R2 0 (by decide)).2.trans ((congrArg (own_e ((100 : Int32) + x0) ((100 : Int32) + x1) 0 0) (show _ = (1 : Int32) from by decide +kernel)).trans (by first | rfl | simp [own_e]))
      · rw [m2]; exact (RP 0 (by decide)).1.trans ((congrArg (own_f y0 y1 (y1 + 1) ((y1 + 1) + 1)) (show _ = (0 : Int) from by decide +kernel)).trans (by simp [own_f] <;> omega))
      · have o0 : of 0 = ((100 : Int32) + x0) := (hof 0 (by decide)).trans ((own_st_rel Hf (by decide) RP (2 - 1 - 0) (by decide) 0 (by decide)).2.trans ((congrArg (own_e ((100 : Int32) + x0) ((100 : Int32) + x1) 0 0) (show _ = (0 : Int32) from by decide +kernel)).trans (by first | rfl | simp [own_e])))
        have o1 : of 1 = ((100 : Int32) + x1) := (hof 1 (by decide)).trans ((own_st_rel Hf (by decide) RP (2 - 1 - 1) (by decide) 0 (by decide)).2.trans ((congrArg (own_e ((100 : Int32) + x0) ((100 : Int32) + x1) 0 0) (show _ = (1 : Int32) from by decide +kernel)).trans (by first | rfl | simp [own_e])))
        exact Or.inl ⟨o0, o1, (by rw [if_neg (fun z_ => e01 (z_.trans hm)), if_pos hm.symm]; omega)⟩
    · have Hf := own_fm (v0 := y0) (v1 := kk) (v2 := y1) (v3 := (y1 + 1)) (by omega) (by omega) (by omega)
      have R0 := own_R0 (own_f y0 kk y1 (y1 + 1)) (own_e ((100 : Int32) + x0) ((100 : Int32) + x1) 0 0)
      have R1 := own_ofA Hf (e := (own_e ((100 : Int32) + x0) ((100 : Int32) + x1) 0 0)) (n := 0) (a := 0) (b := 0) (k := y0) (j := ((100 : Int32) + x0)) (by simp [own_f]) (by first | rfl | simp [own_e]) R0
      have R2 := own_ofA Hf (e := (own_e ((100 : Int32) + x0) ((100 : Int32) + x1) 0 0)) (n := 1) (a := 2) (b := 1) (k := y1) (j := ((100 : Int32) + x1)) (by simp [own_f]) (by first | rfl | simp [own_e]) R1
      have hm : mo = x1 := (by rw [hmo, if_pos (p01.mpr (by omega))])
      have m1 : M1 = kk := by rw [hM1, if_neg (fun z_ => e01 (z_.trans hm)), if_neg (by omega)]
      have m2 : M2 = kk := by rw [hM2, m1, if_pos hm.symm]
      have RP := own_rp Hf (e := (own_e ((100 : Int32) + x0) ((100 : Int32) + x1) 0 0)) (n := 2) (k := kk) (a := 1) (by decide) (by simp [own_f] <;> omega) R2
      refine ⟨?_, ?_, fun of hof => ?_⟩
      · rw [hm]; exact (R2 0 (by decide)).2.trans ((congrArg (own_e ((100 : Int32) + x0) ((100 : Int32) + x1) 0 0) (show _ = (1 : Int32) from by decide +kernel)).trans (by first | rfl | simp [own_e]))
      · rw [m2]; exact (RP 0 (by decide)).1.trans ((congrArg (own_f y0 kk y1 (y1 + 1)) (show _ = (1 : Int) from by decide +kernel)).trans (by simp [own_f] <;> omega))
      · have o0 : of 0 = ((100 : Int32) + x0) := (hof 0 (by decide)).trans ((own_st_rel Hf (by decide) RP (2 - 1 - 0) (by decide) 0 (by decide)).2.trans ((congrArg (own_e ((100 : Int32) + x0) ((100 : Int32) + x1) 0 0) (show _ = (0 : Int32) from by decide +kernel)).trans (by first | rfl | simp [own_e])))
        have o1 : of 1 = ((100 : Int32) + x1) := (hof 1 (by decide)).trans ((own_st_rel Hf (by decide) RP (2 - 1 - 1) (by decide) 0 (by decide)).2.trans ((congrArg (own_e ((100 : Int32) + x0) ((100 : Int32) + x1) 0 0) (show _ = (1 : Int32) from by decide +kernel)).trans (by first | rfl | simp [own_e])))
        exact Or.inl ⟨o0, o1, (by rw [if_neg (fun z_ => e01 (z_.trans hm)), if_pos hm.symm]; omega)⟩
    · have Hf := own_fm (v0 := y0) (v1 := y1) (v2 := (y1 + 1)) (v3 := ((y1 + 1) + 1)) (by omega) (by omega) (by omega)
      have R0 := own_R0 (own_f y0 y1 (y1 + 1) ((y1 + 1) + 1)) (own_e ((100 : Int32) + x0) ((100 : Int32) + x1) 0 0)
      have R1 := own_ofA Hf (e := (own_e ((100 : Int32) + x0) ((100 : Int32) + x1) 0 0)) (n := 0) (a := 0) (b := 0) (k := y0) (j := ((100 : Int32) + x0)) (by simp [own_f]) (by first | rfl | simp [own_e]) R0
      have R2 := own_ofA Hf (e := (own_e ((100 : Int32) + x0) ((100 : Int32) + x1) 0 0)) (n := 1) (a := 1) (b := 1) (k := y1) (j := ((100 : Int32) + x1)) (by simp [own_f]) (by first | rfl | simp [own_e]) R1
      have hm : mo = x1 := (by rw [hmo, if_pos (p01.mpr (by omega))])
      have m1 : M1 = kk := by rw [hM1, if_neg (fun z_ => e01 (z_.trans hm)), if_neg (by omega)]
      have m2 : M2 = kk := by rw [hM2, m1, if_pos hm.symm]
      have RP := own_rp Hf (e := (own_e ((100 : Int32) + x0) ((100 : Int32) + x1) 0 0)) (n := 2) (k := kk) (a := 1) (by decide) (by simp [own_f] <;> omega) R2
      refine ⟨?_, ?_, fun of hof => ?_⟩
      · rw [hm]; exact (R2 0 (by decide)).2.trans ((congrArg (own_e ((100 : Int32) + x0) ((100 : Int32) + x1) 0 0) (show _ = (1 : Int32) from by decide +kernel)).trans (by first | rfl | simp [own_e]))
      · rw [m2]; exact (RP 0 (by decide)).1.trans ((congrArg (own_f y0 y1 (y1 + 1) ((y1 + 1) + 1)) (show _ = (1 : Int) from by decide +kernel)).trans (by simp [own_f] <;> omega))
      · have o0 : of 0 = ((100 : Int32) + x0) := (hof 0 (by decide)).trans ((own_st_rel Hf (by decide) RP (2 - 1 - 0) (by decide) 0 (by decide)).2.trans ((congrArg (own_e ((100 : Int32) + x0) ((100 : Int32) + x1) 0 0) (show _ = (0 : Int32) from by decide +kernel)).trans (by first | rfl | simp [own_e])))
        have o1 : of 1 = ((100 : Int32) + x1) := (hof 1 (by decide)).trans ((own_st_rel Hf (by decide) RP (2 - 1 - 1) (by decide) 0 (by decide)).2.trans ((congrArg (own_e ((100 : Int32) + x0) ((100 : Int32) + x1) 0 0) (show _ = (1 : Int32) from by decide +kernel)).trans (by first | rfl | simp [own_e])))
        exact Or.inl ⟨o0, o1, (by rw [if_neg (fun z_ => e01 (z_.trans hm)), if_pos hm.symm]; omega)⟩
    · have Hf := own_fm (v0 := y0) (v1 := y1) (v2 := kk) (v3 := (kk + 1)) (by omega) (by omega) (by omega)
      have R0 := own_R0 (own_f y0 y1 kk (kk + 1)) (own_e ((100 : Int32) + x0) ((100 : Int32) + x1) 0 0)
      have R1 := own_ofA Hf (e := (own_e ((100 : Int32) + x0) ((100 : Int32) + x1) 0 0)) (n := 0) (a := 0) (b := 0) (k := y0) (j := ((100 : Int32) + x0)) (by simp [own_f]) (by first | rfl | simp [own_e]) R0
      have R2 := own_ofA Hf (e := (own_e ((100 : Int32) + x0) ((100 : Int32) + x1) 0 0)) (n := 1) (a := 1) (b := 1) (k := y1) (j := ((100 : Int32) + x1)) (by simp [own_f]) (by first | rfl | simp [own_e]) R1
      have hm : mo = x1 := (by rw [hmo, if_pos (p01.mpr (by omega))])
      have m1 : M1 = kk := by rw [hM1, if_neg (fun z_ => e01 (z_.trans hm)), if_neg (by omega)]
      have m2 : M2 = kk := by rw [hM2, m1, if_pos hm.symm]
      have RP := own_rp Hf (e := (own_e ((100 : Int32) + x0) ((100 : Int32) + x1) 0 0)) (n := 2) (k := kk) (a := 2) (by decide) (by simp [own_f] <;> omega) R2
      refine ⟨?_, ?_, fun of hof => ?_⟩
      · rw [hm]; exact (R2 0 (by decide)).2.trans ((congrArg (own_e ((100 : Int32) + x0) ((100 : Int32) + x1) 0 0) (show _ = (1 : Int32) from by decide +kernel)).trans (by first | rfl | simp [own_e]))
      · rw [m2]; exact (RP 0 (by decide)).1.trans ((congrArg (own_f y0 y1 kk (kk + 1)) (show _ = (2 : Int) from by decide +kernel)).trans (by simp [own_f] <;> omega))
      · have o0 : of 0 = ((100 : Int32) + x0) := (hof 0 (by decide)).trans ((own_st_rel Hf (by decide) RP (2 - 1 - 0) (by decide) 0 (by decide)).2.trans ((congrArg (own_e ((100 : Int32) + x0) ((100 : Int32) + x1) 0 0) (show _ = (0 : Int32) from by decide +kernel)).trans (by first | rfl | simp [own_e])))
        have o1 : of 1 = ((100 : Int32) + x1) := (hof 1 (by decide)).trans ((own_st_rel Hf (by decide) RP (2 - 1 - 1) (by decide) 0 (by decide)).2.trans ((congrArg (own_e ((100 : Int32) + x0) ((100 : Int32) + x1) 0 0) (show _ = (1 : Int32) from by decide +kernel)).trans (by first | rfl | simp [own_e])))
        exact Or.inl ⟨o0, o1, (by rw [if_neg (fun z_ => e01 (z_.trans hm)), if_pos hm.symm]; omega)⟩
  · have hp : (kk < y1) ∨ (kk = y1) ∨ (y1 < kk ∧ kk < y0) ∨ (kk = y0) ∨ (y0 < kk) := by omega
    rcases hp with hk | hk | hk | hk | hk
    · have Hf := own_fm (v0 := kk) (v1 := y1) (v2 := y0) (v3 := (y0 + 1)) (by omega) (by omega) (by omega)
      have R0 := own_R0 (own_f kk y1 y0 (y0 + 1)) (own_e ((100 : Int32) + x0) ((100 : Int32) + x1) 0 0)
      have R1 := own_ofA Hf (e := (own_e ((100 : Int32) + x0) ((100 : Int32) + x1) 0 0)) (n := 0) (a := 2) (b := 0) (k := y0) (j := ((100 : Int32) + x0)) (by simp [own_f]) (by first | rfl | simp [own_e]) R0
      have R2 := own_ofA Hf (e := (own_e ((100 : Int32) + x0) ((100 : Int32) + x1) 0 0)) (n := 1) (a := 1) (b := 1) (k := y1) (j := ((100 : Int32) + x1)) (by simp [own_f]) (by first | rfl | simp [own_e]) R1
      have hm : mo = x0 := (by rw [hmo, if_neg (fun z_ => absurd (p01.mp z_) (by omega))])
      have m1 : M1 = kk := by rw [hM1, if_pos hm.symm]
      have m2 : M2 = y1 := by rw [hM2, m1, if_neg (fun z_ => (Ne.symm e01) (z_.trans hm)), if_pos (by omega)]
      have RP := own_rp Hf (e := (own_e ((100 : Int32) + x0) ((100 : Int32) + x1) 0 0)) (n := 2) (k := kk) (a := 0) (by decide) (by simp [own_f] <;> omega) R2
      refine ⟨?_, ?_, fun of hof => ?_⟩
      · rw [hm]; exact (R2 0 (by decide)).2.trans ((congrArg (own_e ((100 : Int32) + x0) ((100 : Int32) + x1) 0 0) (show _ = (0 : Int32) from by decide +kernel)).trans (by first | rfl | simp [own_e]))
      · rw [m2]; exact (RP 0 (by decide)).1.trans ((congrArg (own_f kk y1 y0 (y0 + 1)) (show _ = (1 : Int) from by decide +kernel)).trans (by simp [own_f] <;> omega))
      · have o0 : of 0 = ((100 : Int32) + x0) := (hof 0 (by decide)).trans ((own_st_rel Hf (by decide) RP (2 - 1 - 0) (by decide) 0 (by decide)).2.trans ((congrArg (own_e ((100 : Int32) + x0) ((100 : Int32) + x1) 0 0) (show _ = (0 : Int32) from by decide +kernel)).trans (by first | rfl | simp [own_e])))
        have o1 : of 1 = ((100 : Int32) + x1) := (hof 1 (by decide)).trans ((own_st_rel Hf (by decide) RP (2 - 1 - 1) (by decide) 0 (by decide)).2.trans ((congrArg (own_e ((100 : Int32) + x0) ((100 : Int32) + x1) 0 0) (show _ = (1 : Int32) from by decide +kernel)).trans (by first | rfl | simp [own_e])))
        exact Or.inl ⟨o0, o1, (by rw [if_pos hm.symm, if_neg (fun z_ => (Ne.symm e01) (z_.trans hm))]; omega)⟩
    · have Hf := own_fm (v0 := y1) (v1 := y0) (v2 := (y0 + 1)) (v3 := ((y0 + 1) + 1)) (by omega) (by omega) (by omega)
      have R0 := own_R0 (own_f y1 y0 (y0 + 1) ((y0 + 1) + 1)) (own_e ((100 : Int32) + x0) ((100 : Int32) + x1) 0 0)
      have R1 := own_ofA Hf (e := (own_e ((100 : Int32) + x0) ((100 : Int32) + x1) 0 0)) (n := 0) (a := 1) (b := 0) (k := y0) (j := ((100 : Int32) + x0)) (by simp [own_f]) (by first | rfl | simp [own_e]) R0
      have R2 := own_ofA Hf (e := (own_e ((100 : Int32) + x0) ((100 : Int32) + x1) 0 0)) (n := 1) (a := 0) (b := 1) (k := y1) (j := ((100 : Int32) + x1)) (by simp [own_f]) (by first | rfl | simp [own_e]) R1
      have hm : mo = x0 := (by rw [hmo, if_neg (fun z_ => absurd (p01.mp z_) (by omega))])
      have m1 : M1 = kk := by rw [hM1, if_pos hm.symm]
      have m2 : M2 = kk := by rw [hM2, m1, if_neg (fun z_ => (Ne.symm e01) (z_.trans hm)), if_neg (by omega)]
      have RP := own_rp Hf (e := (own_e ((100 : Int32) + x0) ((100 : Int32) + x1) 0 0)) (n := 2) (k := kk) (a := 0) (by decide) (by simp [own_f] <;> omega) R2
      refine ⟨?_, ?_, fun of hof => ?_⟩
      · rw [hm]; exact (R2 0 (by decide)).2.trans ((congrArg (own_e ((100 : Int32) + x0) ((100 : Int32) + x1) 0 0) (show _ = (0 : Int32) from by decide +kernel)).trans (by first | rfl | simp [own_e]))
      · rw [m2]; exact (RP 0 (by decide)).1.trans ((congrArg (own_f y1 y0 (y0 + 1) ((y0 + 1) + 1)) (show _ = (0 : Int) from by decide +kernel)).trans (by simp [own_f] <;> omega))
      · have o0 : of 0 = ((100 : Int32) + x1) := (hof 0 (by decide)).trans ((own_st_rel Hf (by decide) RP (2 - 1 - 0) (by decide) 0 (by decide)).2.trans ((congrArg (own_e ((100 : Int32) + x0) ((100 : Int32) + x1) 0 0) (show _ = (1 : Int32) from by decide +kernel)).trans (by first | rfl | simp [own_e])))
        have o1 : of 1 = ((100 : Int32) + x0) := (hof 1 (by decide)).trans ((own_st_rel Hf (by decide) RP (2 - 1 - 1) (by decide) 0 (by decide)).2.trans ((congrArg (own_e ((100 : Int32) + x0) ((100 : Int32) + x1) 0 0) (show _ = (0 : Int32) from by decide +kernel)).trans (by first | rfl | simp [own_e])))
        exact Or.inr (⟨o0, o1, (by rw [if_neg (fun z_ => (Ne.symm e01) (z_.trans hm)), if_pos hm.symm]; omega)⟩)
    · have Hf := own_fm (v0 := y1) (v1 := kk) (v2 := y0) (v3 := (y0 + 1)) (by omega) (by omega) (by omega)
      have R0 := own_R0 (own_f y1 kk y0 (y0 + 1)) (own_e ((100 : Int32) + x0) ((100 : Int32) + x1) 0 0)
      have R1 := own_ofA Hf (e := (own_e ((100 : Int32) + x0) ((100 : Int32) + x1) 0 0)) (n := 0) (a := 2) (b := 0) (k := y0) (j := ((100 : Int32) + x0)) (by simp [own_f]) (by first | rfl | simp [own_e]) R0
      have R2 := own_ofA Hf (e := (own_e ((100 : Int32) + x0) ((100 : Int32) + x1) 0 0)) (n := 1) (a := 0) (b := 1) (k := y1) (j := ((100 : Int32) + x1)) (by simp [own_f]) (by first | rfl | simp [own_e]) R1
      have hm : mo = x0 := (by rw [hmo, if_neg (fun z_ => absurd (p01.mp z_) (by omega))])
      have m1 : M1 = kk := by rw [hM1, if_pos hm.symm]
      have m2 : M2 = kk := by rw [hM2, m1, if_neg (fun z_ => (Ne.symm e01) (z_.trans hm)), if_neg (by omega)]
      have RP := own_rp Hf (e := (own_e ((100 : Int32) + x0) ((100 : Int32) + x1) 0 0)) (n := 2) (k := kk) (a := 1) (by decide) (by simp [own_f] <;> omega) R2
      refine ⟨?_, ?_, fun of hof => ?_⟩
      · rw [hm]; exact (R2 0 (by decide)).2.trans ((congrArg (own_e ((100 : Int32) + x0) ((100 : Int32) + x1) 0 0) (show _ = (0 : Int32) from by decide +kernel)).trans (by first | rfl | simp [own_e]))
      · rw [m2]; exact (RP 0 (by decide)).1.trans ((congrArg (own_f y1 kk y0 (y0 + 1)) (show _ = (1 : Int) from by decide +kernel)).trans (by simp [own_f] <;> omega))
      · have o0 : of 0 = ((100 : Int32) + x1) := (hof 0 (by decide)).trans ((own_st_rel Hf (by decide) RP (2 - 1 - 0) (by decide) 0 (by decide)).2.trans ((congrArg (own_e ((100 : Int32) + x0) ((100 : Int32) + x1) 0 0) (show _ = (1 : Int32) from by decide +kernel)).trans (by first | rfl | simp [own_e])))
        have o1 : of 1 = ((100 : Int32) + x0) := (hof 1 (by decide)).trans ((own_st_rel Hf (by decide) RP (2 - 1 - 1) (by decide) 0 (by decide)).2.trans ((congrArg (own_e ((100 : Int32) + x0) ((100 : Int32) + x1) 0 0) (show _ = (0 : Int32) from by decide +kernel)).trans (by first | rfl | simp [own_e])))
        exact Or.inr (⟨o0, o1, (by rw [if_neg (fun z_ => (Ne.symm e01) (z_.trans hm)), if_pos hm.symm]; omega)⟩)
    · have Hf := own_fm (v0 := y1) (v1 := y0) (v2 := (y0 + 1)) (v3 := ((y0 + 1) + 1)) (by omega) (by omega) (by omega)
      have R0 := own_R0 (own_f y1 y0 (y0 + 1) ((y0 + 1) + 1)) (own_e ((100 : Int32) + x0) ((100 : Int32) + x1) 0 0)
      have R1 := own_ofA Hf (e := (own_e ((100 : Int32) + x0) ((100 : Int32) + x1) 0 0)) (n := 0) (a := 1) (b := 0) (k := y0) (j := ((100 : Int32) + x0)) (by simp [own_f]) (by first | rfl | simp [own_e]) R0
      have R2 := own_ofA Hf (e := (own_e ((100 : Int32) + x0) ((100 : Int32) + x1) 0 0)) (n := 1) (a := 0) (b := 1) (k := y1) (j := ((100 : Int32) + x1)) (by simp [own_f]) (by first | rfl | simp [own_e]) R1
      have hm : mo = x0 := (by rw [hmo, if_neg (fun z_ => absurd (p01.mp z_) (by omega))])
      have m1 : M1 = kk := by rw [hM1, if_pos hm.symm]
      have m2 : M2 = kk := by rw [hM2, m1, if_neg (fun z_ => (Ne.symm e01) (z_.trans hm)), if_neg (by omega)]
      have RP := own_rp Hf (e := (own_e ((100 : Int32) + x0) ((100 : Int32) + x1) 0 0)) (n := 2) (k := kk) (a := 1) (by decide) (by simp [own_f] <;> omega) R2
      refine ⟨?_, ?_, fun of hof => ?_⟩
      · rw [hm]; exact (R2 0 (by decide)).2.trans ((congrArg (own_e ((100 : Int32) + x0) ((100 : Int32) + x1) 0 0) (show _ = (0 : Int32) from by decide +kernel)).trans (by first | rfl | simp [own_e]))
      · rw [m2]; exact (RP 0 (by decide)).1.trans ((congrArg (own_f y1 y0 (y0 + 1) ((y0 + 1) + 1)) (show _ = (1 : Int) from by decide +kernel)).trans (by simp [own_f] <;> omega))
      · have o0 : of 0 = ((100 : Int32) + x1) := (hof 0 (by decide)).trans ((own_st_rel Hf (by decide) RP (2 - 1 - 0) (by decide) 0 (by decide)).2.trans ((congrArg (own_e ((100 : Int32) + x0) ((100 : Int32) + x1) 0 0) (show _ = (1 : Int32) from by decide +kernel)).trans (by first | rfl | simp [own_e])))
        have o1 : of 1 = ((100 : Int32) + x0) := (hof 1 (by decide)).trans ((own_st_rel Hf (by decide) RP (2 - 1 - 1) (by decide) 0 (by decide)).2.trans ((congrArg (own_e ((100 : Int32) + x0) ((100 : Int32) + x1) 0 0) (show _ = (0 : Int32) from by decide +kernel)).trans (by first | rfl | simp [own_e])))
        exact Or.inr (⟨o0, o1, (by rw [if_neg (fun z_ => (Ne.symm e01) (z_.trans hm)), if_pos hm.symm]; omega)⟩)
    · have Hf := own_fm (v0 := y1) (v1 := y0) (v2 := kk) (v3 := (kk + 1)) (by omega) (by omega) (by omega)
      have R0 := own_R0 (own_f y1 y0 kk (kk + 1)) (own_e ((100 : Int32) + x0) ((100 : Int32) + x1) 0 0)
      have R1 := own_ofA Hf (e := (own_e ((100 : Int32) + x0) ((100 : Int32) + x1) 0 0)) (n := 0) (a := 1) (b := 0) (k := y0) (j := ((100 : Int32) + x0)) (by simp [own_f]) (by first | rfl | simp [own_e]) R0
      have R2 := own_ofA Hf (e := (own_e ((100 : Int32) + x0) ((100 : Int32) + x1) 0 0)) (n := 1) (a := 0) (b := 1) (k := y1) (j := ((100 : Int32) + x1)) (by simp [own_f]) (by first | rfl | simp [own_e]) R1
      have hm : mo = x0 := (by rw [hmo, if_neg (fun z_ => absurd (p01.mp z_) (by omega))])
      have m1 : M1 = kk := by rw [hM1, if_pos hm.symm]
      have m2 : M2 = kk := by rw [hM2, m1, if_neg (fun z_ => (Ne.symm e01) (z_.trans hm)), if_neg (by omega)]
      have RP := own_rp Hf (e := (own_e ((100 : Int32) + x0) ((100 : Int32) + x1) 0 0)) (n := 2) (k := kk) (a := 2) (by decide) (by simp [own_f] <;> omega) R2
      refine ⟨?_, ?_, fun of hof => ?_⟩
      · rw [hm]; exact (R2 0 (by decide)).2.trans ((congrArg (own_e ((100 : Int32) + x0) ((100 : Int32) + x1) 0 0) (show _ = (0 : Int32) from by decide +kernel)).trans (by first | rfl | simp [own_e]))
      · rw [m2]; exact (RP 0 (by decide)).1.trans ((congrArg (own_f y1 y0 kk (kk + 1)) (show _ = (2 : Int) from by decide +kernel)).trans (by simp [own_f] <;> omega))
      · have o0 : of 0 = ((100 : Int32) + x1) := (hof 0 (by decide)).trans ((own_st_rel Hf (by decide) RP (2 - 1 - 0) (by decide) 0 (by decide)).2.trans ((congrArg (own_e ((100 : Int32) + x0) ((100 : Int32) + x1) 0 0) (show _ = (1 : Int32) from by decide +kernel)).trans (by first | rfl | simp [own_e])))
        have o1 : of 1 = ((100 : Int32) + x0) := (hof 1 (by decide)).trans ((own_st_rel Hf (by decide) RP (2 - 1 - 1) (by decide) 0 (by decide)).2.trans ((congrArg (own_e ((100 : Int32) + x0) ((100 : Int32) + x1) 0 0) (show _ = (0 : Int32) from by decide +kernel)).trans (by first | rfl | simp [own_e])))
        exact Or.inr (⟨o0, o1, (by rw [if_neg (fun z_ => (Ne.symm e01) (z_.trans hm)), if_pos hm.symm]; omega)⟩)
theorem own_fin_3 (x0 x1 x2 mo : Int32) (y0 y1 y2 kk : Int) (p01 : x0 < x1 ↔ y0 < y1) (d01 : y0 ≠ y1) (e01 : x0 ≠ x1) (p02 : x0 < x2 ↔ y0 < y2) (d02 : y0 ≠ y2) (e02 : x0 ≠ x2) (p12 : x1 < x2 ↔ y1 < y2) (d12 : y1 ≠ y2) (e12 : x1 ≠ x2) (hmo : mo = (if (if x0 < x1 then x1 else x0) < x2 then x2 else (if x0 < x1 then x1 else x0))) (M1 M2 M3 : Int) (hM1 : M1 = (if x0 = mo then kk else (if kk < y0 then y0 else kk))) (hM2 : M2 = (if x1 = mo then M1 else (if M1 < y1 then y1 else M1))) (hM3 : M3 = (if x2 = mo then M2 else (if M2 < y2 then y2 else M2))) (K1 : Nat → Int) (J1 : Nat → Int32) (gK1 : (own_of 0 true (fun _ => (0 : Int)) (fun _ => (0 : Int32)) y0 ((100 : Int32) + x0)).1 = K1) (gJ1 : (own_of 0 true (fun _ => (0 : Int)) (fun _ => (0 : Int32)) y0 ((100 : Int32) + x0)).2 = J1) (K2 : Nat → Int) (J2 : Nat → Int32) (gK2 : (own_of 1 true K1 J1 y1 ((100 : Int32) + x1)).1 = K2) (gJ2 : (own_of 1 true K1 J1 y1 ((100 : Int32) + x1)).2 = J2) (K3 : Nat → Int) (J3 : Nat → Int32) (gK3 : (own_of 2 true K2 J2 y2 ((100 : Int32) + x2)).1 = K3) (gJ3 : (own_of 2 true K2 J2 y2 ((100 : Int32) + x2)).2 = J3) : J3 0 = ((100 : Int32) + mo) ∧ (own_dn 3 3 K3 J3 0 kk (J3 0)).1 0 = M3 ∧ ∀ of : Nat → Int32, (∀ d, d < 3 → of d = (own_st 3 (own_dn 3 3 K3 J3 0 kk (J3 0)).1 (own_dn 3 3 K3 J3 0 kk (J3 0)).2 (3 - 1 - d)).2 0) → (of 0 = ((100 : Int32) + x0) ∧ of 1 = ((100 : Int32) + x1) ∧ of 2 = ((100 : Int32) + x2) ∧ (if x0 = mo then kk else y0) ≤ (if x1 = mo then kk else y1) ∧ (if x1 = mo then kk else y1) ≤ (if x2 = mo then kk else y2)) ∨ (of 0 = ((100 : Int32) + x0) ∧ of 1 = ((100 : Int32) + x2) ∧ of 2 = ((100 : Int32) + x1) ∧ (if x0 = mo then kk else y0) ≤ (if x2 = mo then kk else y2) ∧ (if x2 = mo then kk else y2) ≤ (if x1 = mo then kk else y1)) ∨ (of 0 = ((100 : Int32) + x1) ∧ of 1 = ((100 : Int32) + x0) ∧ of 2 = ((100 : Int32) + x2) ∧ (if x1 = mo then kk else y1) ≤ (if x0 = mo then kk else y0) ∧ (if x0 = mo then kk else y0) ≤ (if x2 = mo then kk else y2)) ∨ (of 0 = ((100 : Int32) + x1) ∧ of 1 = ((100 : Int32) + x2) ∧ of 2 = ((100 : Int32) + x0) ∧ (if x1 = mo then kk else y1) ≤ (if x2 = mo then kk else y2) ∧ (if x2 = mo then kk else y2) ≤ (if x0 = mo then kk else y0)) ∨ (of 0 = ((100 : Int32) + x2) ∧ of 1 = ((100 : Int32) + x0) ∧ of 2 = ((100 : Int32) + x1) ∧ (if x2 = mo then kk else y2) ≤ (if x0 = mo then kk else y0) ∧ (if x0 = mo then kk else y0) ≤ (if x1 = mo then kk else y1)) ∨ (of 0 = ((100 : Int32) + x2) ∧ of 1 = ((100 : Int32) + x1) ∧ of 2 = ((100 : Int32) + x0) ∧ (if x2 = mo then kk else y2) ≤ (if x1 = mo then kk else y1) ∧ (if x1 = mo then kk else y1) ≤ (if x0 = mo then kk else y0)) := by
  subst gK1 gJ1
  subst gK2 gJ2
  subst gK3 gJ3
  rcases own_ord3 y0 y1 y2 d01 d02 d12 with h | h | h | h | h | h
  · have hp : (kk < y0) ∨ (kk = y0) ∨ (y0 < kk ∧ kk < y1) ∨ (kk = y1) ∨ (y1 < kk ∧ kk < y2) ∨ (kk = y2) ∨ (y2 < kk) := by omega
    rcases hp with hk | hk | hk | hk | hk | hk | hk
    · have Hf := own_fm (v0 := kk) (v1 := y0) (v2 := y1) (v3 := y2) (by omega) (by omega) (by omega)
      have R0 := own_R0 (own_f kk y0 y1 y2) (own_e ((100 : Int32) + x0) ((100 : Int32) + x1) ((100 : Int32) + x2) 0)
      have R1 := own_ofA Hf (e := (own_e ((100 : Int32) + x0) ((100 : Int32) + x1) ((100 : Int32) + x2) 0)) (n := 0) (a := 1) (b := 0) (k := y0) (j := ((100 : Int32) + x0)) (by simp [own_f]) (by first | rfl | simp [own_e]) R0
      have R2 := own_ofA Hf (e := (own_e ((100 : Int32) + x0) ((100 : Int32) + x1) ((100 : Int32) + x2) 0)) (n := 1) (a := 2) (b := 1) (k := y1) (j := ((100 : Int32) + x1)) (by simp [own_f]) (by first | rfl | simp [own_e]) R1
      have R3 := own_ofA Hf (e := (own_e ((100 : Int32) + x0) ((100 : Int32) + x1) ((100 : Int32) + x2) 0)) (n := 2) (a := 3) (b := 2) (k := y2) (j := ((100 : Int32) + x2)) (by simp [own_f]) (by first | rfl | simp [own_e]) R2
      have hm : mo = x2 := (by rw [hmo, if_pos (p01.mpr (by omega)), if_pos (p12.mpr (by omega))])
      have m1 : M1 = y0 := by rw [hM1, if_neg (fun z_ => e02 (z_.trans hm)), if_pos (by omega)]
      have m2 : M2 = y1 := by rw [hM2, m1, if_neg (fun z_ => e12 (z_.trans hm)), if_pos (by omega)]
      have m3 : M3 = y1 := by rw [hM3, m2, if_pos hm.symm]
      have RP := own_rp Hf (e := (own_e ((100 : Int32) + x0) ((100 : Int32) + x1) ((100 : Int32) + x2) 0)) (n := 3) (k := kk) (a := 0) (by decide) (by simp [own_f] <;> omega) R3
      refine ⟨?_, ?_, fun of hof => ?_⟩
      · rw [hm]; exact (R3 0 (by decide)).2.trans ((congrArg (own_e ((100 : Int32) + x0) ((100 : Int32) + x1) ((100 : Int32) + x2) 0) (show _ = (2 : Int32) from by decide +kernel)).trans (by first | rfl | simp [own_e]))
      · rw [m3]; exact (RP 0 (by decide)).1.trans ((congrArg (own_f kk y0 y1 y2) (show _ = (2 : Int) from by decide +kernel)).trans (by simp [own_f] <;> omega))
      · have o0 : of 0 = ((100 : Int32) + x2) := (hof 0 (by decide)).trans ((own_st_rel Hf (by decide) RP (3 - 1 - 0) (by decide) 0 (by decide)).2.trans ((congrArg (own_e ((100 : Int32) + x0) ((100 : Int32) + x1) ((100 : Int32) + x2) 0) (show _ = (2 : Int32) from by decide +kernel)).trans (by first | rfl | simp [own_e])))
        have o1 : of 1 = ((100 : Int32) + x0) := (hof 1 (by decide)).trans ((own_st_rel Hf (by decide) RP (3 - 1 - 1) (by decide) 0 (by decide)).2.trans ((congrArg (own_e ((100 : Int32) + x0) ((100 : Int32) + x1) ((100 : Int32) + x2) 0) (show _ = (0 : Int32) from by decide +kernel)).trans (by first | rfl | simp [own_e])))
        have o2 : of 2 = ((100 : Int32) + x1) := (hof 2 (by decide)).trans ((own_st_rel Hf (by decide) RP (3 - 1 - 2) (by decide) 0 (by decide)).2.trans ((congrArg (own_e ((100 : Int32) + x0) ((100 : Int32) + x1) ((100 : Int32) + x2) 0) (show _ = (1 : Int32) from by decide +kernel)).trans (by first | rfl | simp [own_e])))
        exact Or.inr (Or.inr (Or.inr (Or.inr (Or.inl ⟨o0, o1, o2, (by rw [if_pos hm.symm, if_neg (fun z_ => e02 (z_.trans hm))]; omega), (by rw [if_neg (fun z_ => e02 (z_.trans hm)), if_neg (fun z_ => e12 (z_.trans hm))]; omega)⟩))))
    · have Hf := own_fm (v0 := y0) (v1 := y1) (v2 := y2) (v3 := (y2 + 1)) (by omega) (by omega) (by omega)
      have R0 := own_R0 (own_f y0 y1 y2 (y2 + 1)) (own_e ((100 : Int32) + x0) ((100 : Int32) + x1) ((100 : Int32) + x2) 0)
      have R1 := own_ofA Hf (e := (own_e ((100 : Int32) + x0) ((100 : Int32) + x1) ((100 : Int32) + x2) 0)) (n := 0) (a := 0) (b := 0) (k := y0) (j := ((100 : Int32) + x0)) (by simp [own_f]) (by first | rfl | simp [own_e]) R0
      have R2 := own_ofA Hf (e := (own_e ((100 : Int32) + x0) ((100 : Int32) + x1) ((100 : Int32) + x2) 0)) (n := 1) (a := 1) (b := 1) (k := y1) (j := ((100 : Int32) + x1)) (by simp [own_f]) (by first | rfl | simp [own_e]) R1
      have R3 := own_ofA Hf (e := (own_e ((100 : Int32) + x0) ((100 : Int32) + x1) ((100 : Int32) + x2) 0)) (n := 2) (a := 2) (b := 2) (k := y2) (j := ((100 : Int32) + x2)) (by simp [own_f]) (by first | rfl | simp [own_e]) R2
      have hm : mo = x2 := (by rw [hmo, if_pos (p01.mpr (by omega)), if_pos (p12.mpr (by omega))])
      have m1 : M1 = kk := by rw [hM1, if_neg (fun z_ => e02 (z_.trans hm)), if_neg (by omega)]
      have m2 : M2 = y1 := by rw [hM2, m1, if_neg (fun z_ => e12 (z_.trans hm)), if_pos (by omega)]
      have m3 : M3 = y1 := by rw [hM3, m2, if_pos hm.symm]
      have RP := own_rp Hf (e := (own_e ((100 : Int32) + x0) ((100 : Int32) + x1) ((100 : Int32) + x2) 0)) (n := 3) (k := kk) (a := 0) (by decide) (by simp [own_f] <;> omega) R3
      refine ⟨?_, ?_, fun of hof => ?_⟩
      · rw [hm]; exact (R3 0 (by decide)).2.trans ((congrArg (own_e ((100 : Int32) + x0) ((100 : Int32) + x1) ((100 : Int32) + x2) 0) (show _ = (2 : Int32) from by decide +kernel)).trans (by first | rfl | simp [own_e]))
      · rw [m3]; exact (RP 0 (by decide)).1.trans ((congrArg (own_f y0 y1 y2 (y2 + 1)) (show _ = (1 : Int) from by decide +kernel)).trans (by simp [own_f] <;> omega))
      · have o0 : of 0 = ((100 : Int32) + x0) := (hof 0 (by decide)).trans ((own_st_rel Hf (by decide) RP (3 - 1 - 0) (by decide) 0 (by decide)).2.trans ((congrArg (own_e ((100 : Int32) + x0) ((100 : Int32) + x1) ((100 : Int32) + x2) 0) (show _ = (0 : Int32) from by decide +kernel)).trans (by first | rfl | simp [own_e])))
        have o1 : of 1 = ((100 : Int32) + x2) := (hof 1 (by decide)).trans ((own_st_rel Hf (by decide) RP (3 - 1 - 1) (by decide) 0 (by decide)).2.trans ((congrArg (own_e ((100 : Int32) + x0) ((100 : Int32) + x1) ((100 : Int32) + x2) 0) (show _ = (2 : Int32) from by decide +kernel)).trans (by first | rfl | simp [own_e])))
        have o2 : of 2 = ((100 : Int32) + x1) := (hof 2 (by decide)).trans ((own_st_rel Hf (by decide) RP (3 - 1 - 2) (by decide) 0 (by decide)).2.trans ((congrArg (own_e ((100 : Int32) + x0) ((100 : Int32) + x1) ((100 : Int32) + x2) 0) (show _ = (1 : Int32) from by decide +kernel)).trans (by first | rfl | simp [own_e])))
        exact Or.inr (Or.inl ⟨o0, o1, o2, (by rw [if_neg (fun z_ => e02 (z_.trans hm)), if_pos hm.symm]; omega), (by rw [if_pos hm.symm, if_neg (fun z_ => e12 (z_.trans hm))]; omega)⟩)
    · have Hf := own_fm (v0 := y0) (v1 := kk) (v2 := y1) (v3 := y2) (by omega) (by omega) (by omega)
      have R0 := own_R0 (own_f y0 kk y1 y2) (own_e ((100 : Int32) + x0) ((100 : Int32) + x1) ((100 : Int32) + x2) 0)
      have R1 := own_ofA Hf (e := (own_e ((100 : Int32) + x0) ((100 : Int32) + x1) ((100 : Int32) + x2) 0)) (n := 0) (a := 0) (b := 0) (k := y0) (j := ((100 : Int32) + x0)) (by simp [own_f]) (by first | rfl | simp [own_e]) R0
      have R2 := own_ofA Hf (e := (own_e ((100 : Int32) + x0) ((100 : Int32) + x1) ((100 : Int32) + x2) 0)) (n := 1) (a := 2) (b := 1) (k := y1) (j := ((100 : Int32) + x1)) (by simp [own_f]) (by first | rfl | simp [own_e]) R1
      have R3 := own_ofA Hf (e := (own_e ((100 : Int32) + x0) ((100 : Int32) + x1) ((100 : Int32) + x2) 0)) (n := 2) (a := 3) (b := 2) (k := y2) (j := ((100 : Int32) + x2)) (by simp [own_f]) (by first | rfl | simp [own_e]) R2
      have hm : mo = x2 := (by rw [hmo, if_pos (p01.mpr (by omega)), if_pos (p12.mpr (by omega))])
      have m1 : M1 = kk := by rw [hM1, if_neg (fun z_ => e02 (z_.trans hm)), if_neg (by omega)]
      have m2 : M2 = y1 := by rw [hM2, m1, if_neg (fun z_ => e12 (z_.trans hm)), if_pos (by omega)]
      have m3 : M3 = y1 := by rw [hM3, m2, if_pos hm.symm]
      have RP := own_rp Hf (e := (own_e ((100 : Int32) + x0) ((100 : Int32) + x1) ((100 : Int32) + x2) 0)) (n := 3) (k := kk) (a := 1) (by decide) (by simp [own_f] <;> omega) R3
      refine ⟨?_, ?_, fun of hof => ?_⟩
      · rw [hm]; exact (R3 0 (by decide)).2.trans ((congrArg (own_e ((100 : Int32) + x0) ((100 : Int32) + x1) ((100 : Int32) + x2) 0) (show _ = (2 : Int32) from by decide +kernel)).trans (by first | rfl | simp [own_e]))
      · rw [m3]; exact (RP 0 (by decide)).1.trans ((congrArg (own_f y0 kk y1 y2) (show _ = (2 : Int) from by decide +kernel)).trans (by simp [own_f] <;> omega))
      · have o0 : of 0 = ((100 : Int32) + x0) := (hof 0 (by decide)).trans ((own_st_rel Hf (by decide) RP (3 - 1 - 0) (by decide) 0 (by decide)).2.trans ((congrArg (own_e ((100 : Int32) + x0) ((100 : Int32) + x1) ((100 : Int32) + x2) 0) (show _ = (0 : Int32) from by decide +kernel)).trans (by first | rfl | simp [own_e])))
        have o1 : of 1 = ((100 : Int32) + x2) := (hof 1 (by decide)).trans ((own_st_rel Hf (by decide) RP (3 - 1 - 1) (by decide) 0 (by decide)).2.trans ((congrArg (own_e ((100 : Int32) + x0) ((100 : Int32) + x1) ((100 : Int32) + x2) 0) (show _ = (2 : Int32) from by decide +kernel)).trans (by first | rfl | simp [own_e])))
        have o2 : of 2 = ((100 : Int32) + x1) := (hof 2 (by decide)).trans ((own_st_rel Hf (by decide) RP (3 - 1 - 2) (by decide) 0 (by decide)).2.trans ((congrArg (own_e ((100 : Int32) + x0) ((100 : Int32) + x1) ((100 : Int32) + x2) 0) (show _ = (1 : Int32) from by decide +kernel)).trans (by first | rfl | simp [own_e])))
        exact Or.inr (Or.inl ⟨o0, o1, o2, (by rw [if_neg (fun z_ => e02 (z_.trans hm)), if_pos hm.symm]; omega), (by rw [if_pos hm.symm, if_neg (fun z_ => e12 (z_.trans hm))]; omega)⟩)
    · have Hf := own_fm (v0 := y0) (v1 := y1) (v2 := y2) (v3 := (y2 + 1)) (by omega) (by omega) (by omega)
      have R0 := own_R0 (own_f y0 y1 y2 (y2 + 1)) (own_e ((100 : Int32) + x0) ((100 : Int32) + x1) ((100 : Int32) + x2) 0)
      have R1 := own_ofA Hf (e := (own_e ((100 : Int32) + x0) ((100 : Int32) + x1) ((100 : Int32) + x2) 0)) (n := 0) (a := 0) (b := 0) (k := y0) (j := ((100 : Int32) + x0)) (by simp [own_f]) (by first | rfl | simp [own_e]) R0
      have R2 := own_ofA Hf (e := (own_e ((100 : Int32) + x0) ((100 : Int32) + x1) ((100 : Int32) + x2) 0)) (n := 1) (a := 1) (b := 1) (k := y1) (j := ((100 : Int32) + x1)) (by simp [own_f]) (by first | rfl | simp [own_e]) R1
      have R3 := own_ofA Hf (e := (own_e ((100 : Int32) + x0) ((100 : Int32) + x1) ((100 : Int32) + x2) 0)) (n := 2) (a := 2) (b := 2) (k := y2) (j := ((100 : Int32) + x2)) (by simp [own_f]) (by first | rfl | simp [own_e]) R2
      have hm : mo = x2 := (by rw [hmo, if_pos (p01.mpr (by omega)), if_pos (p12.mpr (by omega))])
      have m1 : M1 = kk := by rw [hM1, if_neg (fun z_ => e02 (z_.trans hm)), if_neg (by omega)]
      have m2 : M2 = kk := by rw [hM2, m1, if_neg (fun z_ => e12 (z_.trans hm)), if_neg (by omega)]
      have m3 : M3 = kk := by rw [hM3, m2, if_pos hm.symm]
      have RP := own_rp Hf (e := (own_e ((100 : Int32) + x0) ((100 : Int32) + x1) ((100 : Int32) + x2) 0)) (n := 3) (k := kk) (a := 1) (by decide) (by simp [own_f] <;> omega) R3
      refine ⟨?_, ?_, fun of hof => ?_⟩
      · rw [hm]; exact (R3 0 (by decide)).2.trans ((congrArg (own_e ((100 : Int32) + x0) ((100 : Int32) + x1) ((100 : Int32) + x2) 0) (show _ = (2 : Int32) from by decide +kernel)).trans (by first | rfl | simp [own_e]))
      · rw [m3]; exact (RP 0 (by decide)).1.trans ((congrArg (own_f y0 y1 y2 (y2 + 1)) (show _ = (1 : Int) from by decide +kernel)).trans (by simp [own_f] <;> omega))
      · have o0 : of 0 = ((100 : Int32) + x0) := (hof 0 (by decide)).trans ((own_st_rel Hf (by decide) RP (3 - 1 - 0) (by decide) 0 (by decide)).2.trans ((congrArg (own_e ((100 : Int32) + x0) ((100 : Int32) + x1) ((100 : Int32) + x2) 0) (show _ = (0 : Int32) from by decide +kernel)).trans (by first | rfl | simp [own_e])))
        have o1 : of 1 = ((100 : Int32) + x1) := (hof 1 (by decide)).trans ((own_st_rel Hf (by decide) RP (3 - 1 - 1) (by decide) 0 (by decide)).2.trans ((congrArg (own_e ((100 : Int32) + x0) ((100 : Int32) + x1) ((100 : Int32) + x2) 0) (show _ = (1 : Int32) from by decide +kernel)).trans (by first | rfl | simp [own_e])))
        have o2 : of 2 = ((100 : Int32) + x2) := (hof 2 (by decide)).trans ((own_st_rel Hf (by decide) RP (3 - 1 - 2) (by decide) 0 (by decide)).2.trans ((congrArg (own_e ((100 : Int32) + x0) ((100 : Int32) + x1) ((100 : Int32) + x2) 0) (show _ = (2 : Int32) from by decide +kernel)).trans (by first | rfl | simp [own_e])))
        exact Or.inl ⟨o0, o1, o2, (by rw [if_neg (fun z_ => e02 (z_.trans hm)), if_neg (fun z_ => e12 (z_.trans hm))]; omega), (by rw [if_neg (fun z_ => e12 (z_.trans hm)), if_pos hm.symm]; omega)⟩
    · have Hf := own_fm (v0 := y0) (v1 := y1) (v2 := kk) (v3 := y2) (by omega) (by omega) (by omega)
      have R0 := own_R0 (own_f y0 y1 kk y2) (own_e ((100 : Int32) + x0) ((100 : Int32) + x1) ((100 : Int32) + x2) 0)
      have R1 := own_ofA Hf (e := (own_e ((100 : Int32) + x0) ((100 : Int32) + x1) ((100 : Int32) + x2) 0)) (n := 0) (a := 0) (b := 0) (k := y0) (j := ((100 : Int32) + x0)) (by simp [own_f]) (by first | rfl | simp [own_e]) R0
      have R2 := own_ofA Hf (e := (own_e ((100 : Int32) + x0) ((100 : Int32) + x1) ((100 : Int32) + x2) 0)) (n := 1) (a := 1) (b := 1) (k := y1) (j := ((100 : Int32) + x1)) (by simp [own_f]) (by first | rfl | simp [own_e]) R1
      have R3 := own_ofA Hf (e := (own_e ((100 : Int32) + x0) ((100 : Int32) + x1) ((100 : Int32) + x2) 0)) (n := 2) (a := 3) (b := 2) (k := y2) (j := ((100 : Int32) + x2)) (by simp [own_f]) (by first | rfl | simp [own_e]) R2
      have hm : mo = x2 := (by rw [hmo, if_pos (p01.mpr (by omega)), if_pos (p12.mpr (by omega))])
      have m1 : M1 = kk := by rw [hM1, if_neg (fun z_ => e02 (z_.trans hm)), if_neg (by omega)]
      have m2 : M2 = kk := by rw [hM2, m1, if_neg (fun z_ => e12 (z_.trans hm)), if_neg (by omega)]
      have m3 : M3 = kk := by rw [hM3, m2, if_pos hm.symm]
      have RP := own_rp Hf (e := (own_e ((100 : Int32) + x0) ((100 : Int32) + x1) ((100 : Int32) + x2) 0)) (n := 3) (k := kk) (a := 2) (by decide) (by simp [own_f] <;> omega) R3
      refine ⟨?_, ?_, fun of hof => ?_⟩
      · rw [hm]; exact (R3 0 (by decide)).2.trans ((congrArg (own_e ((100 : Int32) + x0) ((100 : Int32) + x1) ((100 : Int32) + x2) 0) (show _ = (2 : Int32) from by decide +kernel)).trans (by first | rfl | simp [own_e]))
      · rw [m3]; exact (RP 0 (by decide)).1.trans ((congrArg (own_f y0 y1 kk y2) (show _ = (2 : Int) from by decide +kernel)).trans (by simp [own_f] <;> omega))
      · have o0 : of 0 = ((100 : Int32) + x0) := (hof 0 (by decide)).trans ((own_st_rel Hf (by decide) RP (3 - 1 - 0) (by decide) 0 (by decide)).2.trans ((congrArg (own_e ((100 : Int32) + x0) ((100 : Int32) + x1) ((100 : Int32) + x2) 0) (show _ = (0 : Int32) from by decide +kernel)).trans (by first | rfl | simp [own_e])))
        have o1 : of 1 = ((100 : Int32) + x1) := (hof 1 (by decide)).trans ((own_st_rel Hf (by decide) RP (3 - 1 - 1) (by decide) 0 (by decide)).2.trans ((congrArg (own_e ((100 : Int32) + x0) ((100 : Int32) + x1) ((100 : Int32) + x2) 0) (show _ = (1 : Int32) from by decide +kernel)).trans (by first | rfl | simp [own_e])))
        have o2 : of 2 = ((100 : Int32) + x2) := (hof 2 (by decide)).trans ((own_st_rel Hf (by decide) RP (3 - 1 - 2) (by decide) 0 (by decide)).2.trans ((congrArg (own_e ((100 : Int32) + x0) ((100 : Int32) + x1) ((100 : Int32) + x2) 0) (show _ = (2 : Int32) from by decide +kernel)).trans (by first | rfl | simp [own_e])))
        exact Or.inl ⟨o0, o1, o2, (by rw [if_neg (fun z_ => e02 (z_.trans hm)), if_neg (fun z_ => e12 (z_.trans hm))]; omega), (by rw [if_neg (fun z_ => e12 (z_.trans hm)), if_pos hm.symm]; omega)⟩
    · have Hf := own_fm (v0 := y0) (v1 := y1) (v2 := y2) (v3 := (y2 + 1)) (by omega) (by omega) (by omega)
      have R0 := own_R0 (own_f y0 y1 y2 (y2 + 1)) (own_e ((100 : Int32) + x0) ((100 : Int32) + x1) ((100 : Int32) + x2) 0)
      have R1 := own_ofA Hf (e := (own_e ((100 : Int32) + x0) ((100 : Int32) + x1) ((100 : Int32) + x2) 0)) (n := 0) (a := 0) (b := 0) (k := y0) (j := ((100 : Int32) + x0)) (by simp [own_f]) (by first | rfl | simp [own_e]) R0
      have R2 := own_ofA Hf (e := (own_e ((100 : Int32) + x0) ((100 : Int32) + x1) ((100 : Int32) + x2) 0)) (n := 1) (a := 1) (b := 1) (k := y1) (j := ((100 : Int32) + x1)) (by simp [own_f]) (by first | rfl | simp [own_e]) R1
      have R3 := own_ofA Hf (e := (own_e ((100 : Int32) + x0) ((100 : Int32) + x1) ((100 : Int32) + x2) 0)) (n := 2) (a := 2) (b := 2) (k := y2) (j := ((100 : Int32) + x2)) (by simp [own_f]) (by first | rfl | simp [own_e]) R2
      have hm : mo = x2 := (by rw [hmo, if_pos (p01.mpr (by omega)), if_pos (p12.mpr (by omega))])
      have m1 : M1 = kk := by rw [hM1, if_neg (fun z_ => e02 (z_.trans hm)), if_neg (by omega)]
      have m2 : M2 = kk := by rw [hM2, m1, if_neg (fun z_ => e12 (z_.trans hm)), if_neg (by omega)]
      have m3 : M3 = kk := by rw [hM3, m2, if_pos hm.symm]
      have RP := own_rp Hf (e := (own_e ((100 : Int32) + x0) ((100 : Int32) + x1) ((100 : Int32) + x2) 0)) (n := 3) (k := kk) (a := 2) (by decide) (by simp [own_f] <;> omega) R3
      refine ⟨?_, ?_, fun of hof => ?_⟩
      · rw [hm]; exact (R3 0 (by decide)).2.trans ((congrArg (own_e ((100 : Int32) + x0) ((100 : Int32) + x1) ((100 : Int32) + x2) 0) (show _ = (2 : Int32) from by decide +kernel)).trans (by first | rfl | simp [own_e]))
      · rw [m3]; exact (RP 0 (by decide)).1.trans ((congrArg (own_f y0 y1 y2 (y2 + 1)) (show _ = (2 : Int) from by decide +kernel)).trans (by simp [own_f] <;> omega))
      · have o0 : of 0 = ((100 : Int32) + x0) := (hof 0 (by decide)).trans ((own_st_rel Hf (by decide) RP (3 - 1 - 0) (by decide) 0 (by decide)).2.trans ((congrArg (own_e ((100 : Int32) + x0) ((100 : Int32) + x1) ((100 : Int32) + x2) 0) (show _ = (0 : Int32) from by decide +kernel)).trans (by first | rfl | simp [own_e])))
        have o1 : of 1 = ((100 : Int32) + x1) := (hof 1 (by decide)).trans ((own_st_rel Hf (by decide) RP (3 - 1 - 1) (by decide) 0 (by decide)).2.trans ((congrArg (own_e ((100 : Int32) + x0) ((100 : Int32) + x1) ((100 : Int32) + x2) 0) (show _ = (1 : Int32) from by decide +kernel)).trans (by first | rfl | simp [own_e])))
        have o2 : of 2 = ((100 : Int32) + x2) := (hof 2 (by decide)).trans ((own_st_rel Hf (by decide) RP (3 - 1 - 2) (by decide) 0 (by decide)).2.trans ((congrArg (own_e ((100 : Int32) + x0) ((100 : Int32) + x1) ((100 : Int32) + x2) 0) (show _ = (2 : Int32) from by decide +kernel)).trans (by first | rfl | simp [own_e])))
        exact Or.inl ⟨o0, o1, o2, (by rw [if_neg (fun z_ => e02 (z_.trans hm)), if_neg (fun z_ => e12 (z_.trans hm))]; omega), (by rw [if_neg (fun z_ => e12 (z_.trans hm)), if_pos hm.symm]; omega)⟩
    · have Hf := own_fm (v0 := y0) (v1 := y1) (v2 := y2) (v3 := kk) (by omega) (by omega) (by omega)
      have R0 := own_R0 (own_f y0 y1 y2 kk) (own_e ((100 : Int32) + x0) ((100 : Int32) + x1) ((100 : Int32) + x2) 0)
      have R1 := own_ofA Hf (e := (own_e ((100 : Int32) + x0) ((100 : Int32) + x1) ((100 : Int32) + x2) 0)) (n := 0) (a := 0) (b := 0) (k := y0) (j := ((100 : Int32) + x0)) (by simp [own_f]) (by first | rfl | simp [own_e]) R0
      have R2 := own_ofA Hf (e := (own_e ((100 : Int32) + x0) ((100 : Int32) + x1) ((100 : Int32) + x2) 0)) (n := 1) (a := 1) (b := 1) (k := y1) (j := ((100 : Int32) + x1)) (by simp [own_f]) (by first | rfl | simp [own_e]) R1
      have R3 := own_ofA Hf (e := (own_e ((100 : Int32) + x0) ((100 : Int32) + x1) ((100 : Int32) + x2) 0)) (n := 2) (a := 2) (b := 2) (k := y2) (j := ((100 : Int32) + x2)) (by simp [own_f]) (by first | rfl | simp [own_e]) R2
      have hm : mo = x2 := (by rw [hmo, if_pos (p01.mpr (by omega)), if_pos (p12.mpr (by omega))])
      have m1 : M1 = kk := by rw [hM1, if_neg (fun z_ => e02 (z_.trans hm)), if_neg (by omega)]
      have m2 : M2 = kk := by rw [hM2, m1, if_neg (fun z_ => e12 (z_.trans hm)), if_neg (by omega)]
      have m3 : M3 = kk := by rw [hM3, m2, if_pos hm.symm]
      have RP := own_rp Hf (e := (own_e ((100 : Int32) + x0) ((100 : Int32) + x1) ((100 : Int32) + x2) 0)) (n := 3) (k := kk) (a := 3) (by decide) (by simp [own_f] <;> omega) R3
      refine ⟨?_, ?_, fun of hof => ?_⟩
      · rw [hm]; exact (R3 0 (by decide)).2.trans ((congrArg (own_e ((100 : Int32) + x0) ((100 : Int32) + x1) ((100 : Int32) + x2) 0) (show _ = (2 : Int32) from by decide +kernel)).trans (by first | rfl | simp [own_e]))
      · rw [m3]; exact (RP 0 (by decide)).1.trans ((congrArg (own_f y0 y1 y2 kk) (show _ = (3 : Int) from by decide +kernel)).trans (by simp [own_f] <;> omega))
      · have o0 : of 0 = ((100 : Int32) + x0) := (hof 0 (by decide)).trans ((own_st_rel Hf (by decide) RP (3 - 1 - 0) (by decide) 0 (by decide)).2.trans ((congrArg (own_e ((100 : Int32) + x0) ((100 : Int32) + x1) ((100 : Int32) + x2) 0) (show _ = (0 : Int32) from by decide +kernel)).trans (by first | rfl | simp [own_e])))
        have o1 : of 1 = ((100 : Int32) + x1) := (hof 1 (by decide)).trans ((own_st_rel Hf (by decide) RP (3 - 1 - 1) (by decide) 0 (by decide)).2.trans ((congrArg (own_e ((100 : Int32) + x0) ((100 : Int32) + x1) ((100 : Int32) + x2) 0) (show _ = (1 : Int32) from by decide +kernel)).trans (by first | rfl | simp [own_e])))
        have o2 : of 2 = ((100 : Int32) + x2) := (hof 2 (by decide)).trans ((own_st_rel Hf (by decide) RP (3 - 1 - 2) (by decide) 0 (by decide)).2.trans ((congrArg (own_e ((100 : Int32) + x0) ((100 : Int32) + x1) ((100 : Int32) + x2) 0) (show _ = (2 : Int32) from by decide +kernel)).trans (by first | rfl | simp [own_e])))
        exact Or.inl ⟨o0, o1, o2, (by rw [if_neg (fun z_ => e02 (z_.trans hm)), if_neg (fun z_ => e12 (z_.trans hm))]; omega), (by rw [if_neg (fun z_ => e12 (z_.trans hm)), if_pos hm.symm]; omega)⟩
  · have hp : (kk < y0) ∨ (kk = y0) ∨ (y0 < kk ∧ kk < y2) ∨ (kk = y2) ∨ (y2 < kk ∧ kk < y1) ∨ (kk = y1) ∨ (y1 < kk) := by omega
    rcases hp with hk | hk | hk | hk | hk | hk | hk
    · have Hf := own_fm (v0 := kk) (v1 := y0) (v2 := y2) (v3 := y1) (by omega) (by omega) (by omega)
      have R0 := own_R0 (own_f kk y0 y2 y1) (own_e ((100 : Int32) + x0) ((100 : Int32) + x1) ((100 : Int32) + x2) 0)
      have R1 := own_ofA Hf (e := (own_e ((100 : Int32) + x0) ((100 : Int32) + x1) ((100 : Int32) + x2) 0)) (n := 0) (a := 1) (b := 0) (k := y0) (j := ((100 : Int32) + x0)) (by simp [own_f]) (by first | rfl | simp [own_e]) R0
      have R2 := own_ofA Hf (e := (own_e ((100 : Int32) + x0) ((100 : Int32) + x1) ((100 : Int32) + x2) 0)) (n := 1) (a := 3) (b := 1) (k := y1) (j := ((100 : Int32) + x1)) (by simp [own_f]) (by first | rfl | simp [own_e]) R1
      have R3 := own_ofA Hf (e := (own_e ((100 : Int32) + x0) ((100 : Int32) + x1) ((100 : Int32) + x2) 0)) (n := 2) (a := 2) (b := 2) (k := y2) (j := ((100 : Int32) + x2)) (by simp [own_f]) (by first | rfl | simp [own_e]) R2
      have hm : mo = x1 := (by rw [hmo, if_pos (p01.mpr (by omega)), if_neg (fun z_ => absurd (p12.mp z_) (by omega))])
      have m1 : M1 = y0 := by rw [hM1, if_neg (fun z_ => e01 (z_.trans hm)), if_pos (by omega)]
      have m2 : M2 = y0 := by rw [hM2, m1, if_pos hm.symm]
      have m3 : M3 = y2 := by rw [hM3, m2, if_neg (fun z_ => (Ne.symm e12) (z_.trans hm)), if_pos (by omega)]
      have RP := own_rp Hf (e := (own_e ((100 : Int32) + x0) ((100 : Int32) + x1) ((100 : Int32) + x2) 0)) (n := 3) (k := kk) (a := 0) (by decide) (by simp [own_f] <;> omega) R3
      refine ⟨?_, ?_, fun of hof => ?_⟩
      · rw [hm]; exact (R3 0 (by decide)).2.trans ((congrArg (own_e ((100 : Int32) + x0) ((100 : Int32) + x1) ((100 : Int32) + x2) 0) (show _ = (1 : Int32) from by decide +kernel)).trans (by first | rfl | simp [own_e]))
      · rw [m3]; exact (RP 0 (by decide)).1.trans ((congrArg (own_f kk y0 y2 y1) (show _ = (2 : Int) from by decide +kernel)).trans (by simp [own_f] <;> omega))
      · have o0 : of 0 = ((100 : Int32) + x1) := (hof 0 (by decide)).trans ((own_st_rel Hf (by decide) RP (3 - 1 - 0) (by decide) 0 (by decide)).2.trans ((congrArg (own_e ((100 : Int32) + x0) ((100 : Int32) + x1) ((100 : Int32) + x2) 0) (show _ = (1 : Int32) from by decide +kernel)).trans (by first | rfl | simp [own_e])))
        have o1 : of 1 = ((100 : Int32) + x0) := (hof 1 (by decide)).trans ((own_st_rel Hf (by decide) RP (3 - 1 - 1) (by decide) 0 (by decide)).2.trans ((congrArg (own_e ((100 : Int32) + x0) ((100 : Int32) + x1) ((100 : Int32) + x2) 0) (show _ = (0 : Int32) from by decide +kernel)).trans (by first | rfl | simp [own_e])))
        have o2 : of 2 = ((100 : Int32) + x2) := (hof 2 (by decide)).trans ((own_st_rel Hf (by decide) RP (3 - 1 - 2) (by decide) 0 (by decide)).2.trans ((congrArg (own_e ((100 : Int32) + x0) ((100 : Int32) + x1) ((100 : Int32) + x2) 0) (show _ = (2 : Int32) from by decide +kernel)).trans (by first | rfl | simp [own_e])))
        exact Or.inr (Or.inr (Or.inl ⟨o0, o1, o2, (by rw [if_pos hm.symm, if_neg (fun z_ => e01 (z_.trans hm))]; omega), (by rw [if_neg (fun z_ => e01 (z_.trans hm)), if_neg (fun z_ => (Ne.symm e12) (z_.trans hm))]; omega)⟩))
    · have Hf := own_fm (v0 := y0) (v1 := y2) (v2 := y1) (v3 := (y1 + 1)) (by omega) (by omega) (by omega)
      have R0 := own_R0 (own_f y0 y2 y1 (y1 + 1)) (own_e ((100 : Int32) + x0) ((100 : Int32) + x1) ((100 : Int32) + x2) 0)
      have R1 := own_ofA Hf (e := (own_e ((100 : Int32) + x0) ((100 : Int32) + x1) ((100 : Int32) + x2) 0)) (n := 0) (a := 0) (b := 0) (k := y0) (j := ((100 : Int32) + x0)) (by simp [own_f]) (by first | rfl | simp [own_e]) R0
      have R2 := own_ofA Hf (e := (own_e ((100 : Int32) + x0) ((100 : Int32) + x1) ((100 : Int32) + x2) 0)) (n := 1) (a := 2) (b := 1) (k := y1) (j := ((100 : Int32) + x1)) (by simp [own_f]) (by first | rfl | simp [own_e]) R1
      have R3 := own_ofA Hf (e := (own_e ((100 : Int32) + x0) ((100 : Int32) + x1) ((100 : Int32) + x2) 0)) (n := 2) (a := 1) (b := 2) (k := y2) (j := ((100 : Int32) + x2)) (by simp [own_f]) (by first | rfl | simp [own_e]) R2
      have hm : mo = x1 := (by rw [hmo, if_pos (p01.mpr (by omega)), if_neg (fun z_ => absurd (p12.mp z_) (by omega))])
      have m1 : M1 = kk := by rw [hM1, if_neg (fun z_ => e01 (z_.trans hm)), if_neg (by omega)]
      have m2 : M2 = kk := by rw [hM2, m1, if_pos hm.symm]
      have m3 : M3 = y2 := by rw [hM3, m2, if_neg (fun z_ => (Ne.symm e12) (z_.trans hm)), if_pos (by omega)]
      have RP := own_rp Hf (e := (own_e ((100 : Int32) + x0) ((100 : Int32) + x1) ((100 : Int32) + x2) 0)) (n := 3) (k := kk) (a := 0) (by decide) (by simp [own_f] <;> omega) R3
      refine ⟨?_, ?_, fun of hof => ?_⟩
      · rw [hm]; exact (R3 0 (by decide)).2.trans ((congrArg (own_e ((100 : Int32) + x0) ((100 : Int32) + x1) ((100 : Int32) + x2) 0) (show _ = (1 : Int32) from by decide +kernel)).trans (by first | rfl | simp [own_e]))
      · rw [m3]; exact (RP 0 (by decide)).1.trans ((congrArg (own_f y0 y2 y1 (y1 + 1)) (show _ = (1 : Int) from by decide +kernel)).trans (by simp [own_f] <;> omega))
      · have o0 : of 0 = ((100 : Int32) + x0) := (hof 0 (by decide)).trans ((own_st_rel Hf (by decide) RP (3 - 1 - 0) (by decide) 0 (by decide)).2.trans ((congrArg (own_e ((100 : Int32) + x0) ((100 : Int32) + x1) ((100 : Int32) + x2) 0) (show _ = (0 : Int32) from by decide +kernel)).trans (by first | rfl | simp [own_e])))
        have o1 : of 1 = ((100 : Int32) + x1) := (hof 1 (by decide)).trans ((own_st_rel Hf (by decide) RP (3 - 1 - 1) (by decide) 0 (by decide)).2.trans ((congrArg (own_e ((100 : Int32) + x0) ((100 : Int32) + x1) ((100 : Int32) + x2) 0) (show _ = (1 : Int32) from by decide +kernel)).trans (by first | rfl | simp [own_e])))
        have o2 : of 2 = ((100 : Int32) + x2) := (hof 2 (by decide)).trans ((own_st_rel Hf (by decide) RP (3 - 1 - 2) (by decide) 0 (by decide)).2.trans ((congrArg (own_e ((100 : Int32) + x0) ((100 : Int32) + x1) ((100 : Int32) + x2) 0) (show _ = (2 : Int32) from by decide +kernel)).trans (by first | rfl | simp [own_e])))
        exact Or.inl ⟨o0, o1, o2, (by rw [if_neg (fun z_ => e01 (z_.trans hm)), if_pos hm.symm]; omega), (by rw [if_pos hm.symm, if_neg (fun z_ => (Ne.symm e12) (z_.trans hm))]; omega)⟩
    · have Hf := own_fm (v0 := y0) (v1 := kk) (v2 := y2) (v3 := y1) (by omega) (by omega) (by omega)
      have R0 := own_R0 (own_f y0 kk y2 y1) (own_e ((100 : Int32) + x0) ((100 : Int32) + x1) ((100 : Int32) + x2) 0)
      have R1 := own_ofA Hf (e := (own_e ((100 : Int32) + x0) ((100 : Int32) + x1) ((100 : Int32) + x2) 0)) (n := 0) (a := 0) (b := 0) (k := y0) (j := ((100 : Int32) + x0)) (by simp [own_f]) (by first | rfl | simp [own_e]) R0
      have R2 := own_ofA Hf (e := (own_e ((100 : Int32) + x0) ((100 : Int32) + x1) ((100 : Int32) + x2) 0)) (n := 1) (a := 3) (b := 1) (k := y1) (j := ((100 : Int32) + x1)) (by simp [own_f]) (by first | rfl | simp [own_e]) R1
      have R3 := own_ofA Hf (e := (own_e ((100 : Int32) + x0) ((100 : Int32) + x1) ((100 : Int32) + x2) 0)) (n := 2) (a := 2) (b := 2) (k := y2) (j := ((100 : Int32) + x2)) (by simp [own_f]) (by first | rfl | simp [own_e]) R2
      have hm : mo = x1 := (by rw [hmo, if_pos (p01.mpr (by omega)), if_neg (fun z_ => absurd (p12.mp z_) (by omega))])
      have m1 : M1 = kk := by rw [hM1, if_neg (fun z_ => e01 (z_.trans hm)), if_neg (by omega)]
      have m2 : M2 = kk := by rw [hM2, m1, if_pos hm.symm]
      have m3 : M3 = y2 := by rw [hM3, m2, if_neg (fun z_ => (Ne.symm e12) (z_.trans hm)), if_pos (by omega)]
      have RP := own_rp Hf (e := (own_e ((100 : Int32) + x0) ((100 : Int32) + x1) ((100 : Int32) + x2) 0)) (n := 3) (k := kk) (a := 1) (by decide) (by simp [own_f] <;> omega) R3
      refine ⟨?_, ?_, fun of hof => ?_⟩
      · rw [hm]; exact (R3 0 (by decide)).2.trans ((congrArg (own_e ((100 : Int32) + x0) ((100 : Int32) + x1) ((100 : Int32) + x2) 0) (show _ = (1 : Int32) from by decide +kernel)).trans (by first | rfl | simp [own_e]))
      · rw [m3]; exact (RP 0 (by decide)).1.trans ((congrArg (own_f y0 kk y2 y1) (show _ = (2 : Int) from by decide +kernel)).trans (by simp [own_f] <;> omega))
      · have o0 : of 0 = ((100 : Int32) + x0) := (hof 0 (by decide)).trans ((own_st_rel Hf (by decide) RP (3 - 1 - 0) (by decide) 0 (by decide)).2.trans ((congrArg (own_e ((100 : Int32) + x0) ((100 : Int32) + x1) ((100 : Int32) + x2) 0) (show _ = (0 : Int32) from by decide +kernel)).trans (by first | rfl | simp [own_e])))
        have o1 : of 1 = ((100 : Int32) + x1) := (hof 1 (by decide)).trans ((own_st_rel Hf (by decide) RP (3 - 1 - 1) (by decide) 0 (by decide)).2.trans ((congrArg (own_e ((100 : Int32) + x0) ((100 : Int32) + x1) ((100 : Int32) + x2) 0) (show _ = (1 : Int32) from by decide +kernel)).trans (by first | rfl | simp [own_e])))
        have o2 : of 2 = ((100 : Int32) + x2) := (hof 2 (by decide)).trans ((own_st_rel Hf (by decide) RP (3 - 1 - 2) (by decide) 0 (by decide)).2.trans ((congrArg (own_e ((100 : Int32) + x0) ((100 : Int32) + x1) ((100 : Int32) + x2) 0) (show _ = (2 : Int32) from by decide +kernel)).trans (by first | rfl | simp [own_e])))
        exact Or.inl ⟨o0, o1, o2, (by rw [if_neg (fun z_ => e01 (z_.trans hm)), if_pos hm.symm]; omega), (by rw [if_pos hm.symm, if_neg (fun z_ => (Ne.symm e12) (z_.trans hm))]; omega)⟩
    · have Hf := own_fm (v0 := y0) (v1 := y2) (v2 := y1) (v3 := (y1 + 1)) (by omega) (by omega) (by omega)
      have R0 := own_R0 (own_f y0 y2 y1 (y1 + 1)) (own_e ((100 : Int32) + x0) ((100 : Int32) + x1) ((100 : Int32) + x2) 0)
      have R1 := own_ofA Hf (e := (own_e ((100 : Int32) + x0) ((100 : Int32) + x1) ((100 : Int32) + x2) 0)) (n := 0) (a := 0) (b := 0) (k := y0) (j := ((100 : Int32) + x0)) (by simp [own_f]) (by first | rfl | simp [own_e]) R0
      have R2 := own_ofA Hf (e := (own_e ((100 : Int32) + x0) ((100 : Int32) + x1) ((100 : Int32) + x2) 0)) (n := 1) (a := 2) (b := 1) (k := y1) (j := ((100 : Int32) + x1)) (by simp [own_f]) (by first | rfl | simp [own_e]) R1
      have R3 := own_ofA Hf (e := (own_e ((100 : Int32) + x0) ((100 : Int32) + x1) ((100 : Int32) + x2) 0)) (n := 2) (a := 1) (b := 2) (k := y2) (j := ((100 : Int32) + x2)) (by simp [own_f]) (by first | rfl | simp [own_e]) R2
      have hm : mo = x1 := (by rw [hmo, if_pos (p01.mpr (by omega)), if_neg (fun z_ => absurd (p12.mp z_) (by omega))])
      have m1 : M1 = kk := by rw [hM1, if_neg (fun z_ => e01 (z_.trans hm)), if_neg (by omega)]
      have m2 : M2 = kk := by rw [hM2, m1, if_pos hm.symm]
      have m3 : M3 = kk := by rw [hM3, m2, if_neg (fun z_ => (Ne.symm e12) (z_.trans hm)), if_neg (by omega)]
      have RP := own_rp Hf (e := (own_e ((100 : Int32) + x0) ((100 : Int32) + x1) ((100 : Int32) + x2) 0)) (n := 3) (k := kk) (a := 1) (by decide) (by simp [own_f] <;> omega) R3
      refine ⟨?_, ?_, fun of hof => ?_⟩
      · rw [hm]; exact (R3 0 (by decide)).2.trans ((congrArg (own_e ((100 : Int32) + x0) ((100 : Int32) + x1) ((100 : Int32) + x2) 0) (show _ = (1 : Int32) from by decide +kernel)).trans (by first | rfl | simp [own_e]))
      · rw [m3]; exact (RP 0 (by decide)).1.trans ((congrArg (own_f y0 y2 y1 (y1 + 1)) (show _ = (1 : Int) from by decide +kernel)).trans (by simp [own_f] <;> omega))
      · have o0 : of 0 = ((100 : Int32) + x0) := (hof 0 (by decide)).trans ((own_st_rel Hf (by decide) RP (3 - 1 - 0) (by decide) 0 (by decide)).2.trans ((congrArg (own_e ((100 : Int32) + x0) ((100 : Int32) + x1) ((100 : Int32) + x2) 0) (show _ = (0 : Int32) from by decide +kernel)).trans (by first | rfl | simp [own_e])))
        have o1 : of 1 = ((100 : Int32) + x2) := (hof 1 (by decide)).trans ((own_st_rel Hf (by decide) RP (3 - 1 - 1) (by decide) 0 (by decide)).2.trans ((congrArg (own_e ((100 : Int32) + x0) ((100 : Int32) + x1) ((100 : Int32) + x2) 0) (show _ = (2 : Int32) from by decide +kernel)).trans (by first | rfl | simp [own_e])))
        have o2 : of 2 = ((100 : Int32) + x1) := (hof 2 (by decide)).trans ((own_st_rel Hf (by decide) RP (3 - 1 - 2) (by decide) 0 (by decide)).2.trans ((congrArg (own_e ((100 : Int32) + x0) ((100 : Int32) + x1) ((100 : Int32) + x2) 0) (show _ = (1 : Int32) from by decide +kernel)).trans (by first | rfl | simp [own_e])))
        exact Or.inr (Or.inl ⟨o0, o1, o2, (by rw [if_neg (fun z_ => e01 (z_.trans hm)), if_neg (fun z_ => (Ne.symm e12) (z_.trans hm))]; omega), (by rw [if_neg (fun z_ => (Ne.symm e12) (z_.trans hm)), if_pos hm.symm]; omega)⟩)
    · have Hf := own_fm (v0 := y0) (v1 := y2) (v2 := kk) (v3 := y1) (by omega) (by omega) (by omega)
      have R0 := own_R0 (own_f y0 y2 kk y1) (own_e ((100 : Int32) + x0) ((100 : Int32) + x1) ((100 : Int32) + x2) 0)
      have R1 := own_ofA Hf (e := (own_e ((100 : Int32) + x0) ((100 : Int32) + x1) ((100 : Int32) + x2) 0)) (n := 0) (a := 0) (b := 0) (k := y0) (j := ((100 : Int32) + x0)) (by simp [own_f]) (by first | rfl | simp [own_e]) R0
      have R2 := own_ofA Hf (e := (own_e ((100 : Int32) + x0) ((100 : Int32) + x1) ((100 : Int32) + x2) 0)) (n := 1) (a := 3) (b := 1) (k := y1) (j := ((100 : Int32) + x1)) (by simp [own_f]) (by first | rfl | simp [own_e]) R1
      have R3 := own_ofA Hf (e := (own_e ((100 : Int32) + x0) ((100 : Int32) + x1) ((100 : Int32) + x2) 0)) (n := 2) (a := 1) (b := 2) (k := y2) (j := ((100 : Int32) + x2)) (by simp [own_f]) (by first | rfl | simp [own_e]) R2
      have hm : mo = x1 := (by rw [hmo, if_pos (p01.mpr (by omega)), if_neg (fun z_ => absurd (p12.mp z_) (by omega))])
      have m1 : M1 = kk := by rw [hM1, if_neg (fun z_ => e01 (z_.trans hm)), if_neg (by omega)]
      have m2 : M2 = kk := by rw [hM2, m1, if_pos hm.symm]
      have m3 : M3 = kk := by rw [hM3, m2, if_neg (fun z_ => (Ne.symm e12) (z_.trans hm)), if_neg (by omega)]
      have RP := own_rp Hf (e := (own_e ((100 : Int32) + x0) ((100 : Int32) + x1) ((100 : Int32) + x2) 0)) (n := 3) (k := kk) (a := 2) (by decide) (by simp [own_f] <;> omega) R3
      refine ⟨?_, ?_, fun of hof => ?_⟩
      · rw [hm]; exact (R3 0 (by decide)).2.trans ((congrArg (own_e ((100 : Int32) + x0) ((100 : Int32) + x1) ((100 : Int32) + x2) 0) (show _ = (1 : Int32) from by decide +kernel)).trans (by first | rfl | simp [own_e]))
      · rw [m3]; exact (RP 0 (by decide)).1.trans ((congrArg (own_f y0 y2 kk y1) (show _ = (2 : Int) from by decide +kernel)).trans (by simp [own_f] <;> omega))
      · have o0 : of 0 = ((100 : Int32) + x0) := (hof 0 (by decide)).trans ((own_st_rel Hf (by decide) RP (3 - 1 - 0) (by decide) 0 (by decide)).2.trans ((congrArg (own_e ((100 : Int32) + x0) ((100 : Int32) + x1) ((100 : Int32) + x2) 0) (show _ = (0 : Int32) from by decide +kernel)).trans (by first | rfl | simp [own_e])))
        have o1 : of 1 = ((100 : Int32) + x2) := (hof 1 (by decide)).trans ((own_st_rel Hf (by decide) RP (3 - 1 - 1) (by decide) 0 (by decide)).2.trans ((congrArg (own_e ((100 : Int32) + x0) ((100 : Int32) + x1) ((100 : Int32) + x2) 0) (show _ = (2 : Int32) from by decide +kernel)).trans (by first | rfl | simp [own_e])))
        have o2 : of 2 = ((100 : Int32) + x1) := (hof 2 (by decide)).trans ((own_st_rel Hf (by decide) RP (3 - 1 - 2) (by decide) 0 (by decide)).2.trans ((congrArg (own_e ((100 : Int32) + x0) ((100 : Int32) + x1) ((100 : Int32) + x2) 0) (show _ = (1 : Int32) from by decide +kernel)).trans (by first | rfl | simp [own_e])))
        exact Or.inr (Or.inl ⟨o0, o1, o2, (by rw [if_neg (fun z_ => e01 (z_.trans hm)), if_neg (fun z_ => (Ne.symm e12) (z_.trans hm))]; omega), (by rw [if_neg (fun z_ => (Ne.symm e12) (z_.trans hm)), if_pos hm.symm]; omega)⟩)
    · have Hf := own_fm (v0 := y0) (v1 := y2) (v2 := y1) (v3 := (y1 + 1)) (by omega) (by omega) (by omega)
      have R0 := own_R0 (own_f y0 y2 y1 (y1 + 1)) (own_e ((100 : Int32) + x0) ((100 : Int32) + x1) ((100 : Int32) + x2) 0)
      have R1 := own_ofA Hf (e := (own_e ((100 : Int32) + x0) ((100 : Int32) + x1) ((100 : Int32) + x2) 0)) (n := 0) (a := 0) (b := 0) (k := y0) (j := ((100 : Int32) + x0)) (by simp [own_f]) (by first | rfl | simp [own_e]) R0
      have R2 := own_ofA Hf (e := (own_e ((100 : Int32) + x0) ((100 : Int32) + x1) ((100 : Int32) + x2) 0)) (n := 1) (a := 2) (b := 1) (k := y1) (j := ((100 : Int32) + x1)) (by simp [own_f]) (by first | rfl | simp [own_e]) R1
      have R3 := own_ofA Hf (e := (own_e ((100 : Int32) + x0) ((100 : Int32) + x1) ((100 : Int32) + x2) 0)) (n := 2) (a := 1) (b := 2) (k := y2) (j := ((100 : Int32) + x2)) (by simp [own_f]) (by first | rfl | simp [own_e]) R2
      have hm : mo = x1 := (by rw [hmo, if_pos (p01.mpr (by omega)), if_neg (fun z_ => absurd (p12.mp z_) (by omega))])
      have m1 : M1 = kk := by rw [hM1, if_neg (fun z_ => e01 (z_.trans hm)), if_neg (by omega)]
      have m2 : M2 = kk := by rw [hM2, m1, if_pos hm.symm]
      have m3 : M3 = kk := by rw [hM3, m2, if_neg (fun z_ => (Ne.symm e12) (z_.trans hm)), if_neg (by omega)]
      have RP := own_rp Hf (e := (own_e ((100 : Int32) + x0) ((100 : Int32) + x1) ((100 : Int32) + x2) 0)) (n := 3) (k := kk) (a := 2) (by decide) (by simp [own_f] <;> omega) R3
      refine ⟨?_, ?_, fun of hof => ?_⟩
      · rw [hm]; exact (R3 0 (by decide)).2.trans ((congrArg (own_e ((100 : Int32) + x0) ((100 : Int32) + x1) ((100 : Int32) + x2) 0) (show _ = (1 : Int32) from by decide +kernel)).trans (by first | rfl | simp [own_e]))
      · rw [m3]; exact (RP 0 (by decide)).1.trans ((congrArg (own_f y0 y2 y1 (y1 + 1)) (show _ = (2 : Int) from by decide +kernel)).trans (by simp [own_f] <;> omega))
      · have o0 : of 0 = ((100 : Int32) + x0) := (hof 0 (by decide)).trans ((own_st_rel Hf (by decide) RP (3 - 1 - 0) (by decide) 0 (by decide)).2.trans ((congrArg (own_e ((100 : Int32) + x0) ((100 : Int32) + x1) ((100 : Int32) + x2) 0) (show _ = (0 : Int32) from by decide +kernel)).trans (by first | rfl | simp [own_e])))
        have o1 : of 1 = ((100 : Int32) + x2) := (hof 1 (by decide)).trans ((own_st_rel Hf (by decide) RP (3 - 1 - 1) (by decide) 0 (by decide)).2.trans ((congrArg (own_e ((100 : Int32) + x0) ((100 : Int32) + x1) ((100 : Int32) + x2) 0) (show _ = (2 : Int32) from by decide +kernel)).trans (by first | rfl | simp [own_e])))
        have o2 : of 2 = ((100 : Int32) + x1) := (hof 2 (by decide)).trans ((own_st_rel Hf (by decide) RP (3 - 1 - 2) (by decide) 0 (by decide)).2.trans ((congrArg (own_e ((100 : Int32) + x0) ((100 : Int32) + x1) ((100 : Int32) + x2) 0) (show _ = (1 : Int32) from by decide +kernel)).trans (by first | rfl | simp [own_e])))
        exact Or.inr (Or.inl ⟨o0, o1, o2, (by rw [if_neg (fun z_ => e01 (z_.trans hm)), if_neg (fun z_ => (Ne.symm e12) (z_.trans hm))]; omega), (by rw [if_neg (fun z_ => (Ne.symm e12) (z_.trans hm)), if_pos hm.symm]; omega)⟩)
    · have Hf := own_fm (v0 := y0) (v1 := y2) (v2 := y1) (v3 := kk) (by omega) (by omega) (by omega)
      have R0 := own_R0 (own_f y0 y2 y1 kk) (own_e ((100 : Int32) + x0) ((100 : Int32) + x1) ((100 : Int32) + x2) 0)
      have R1 := own_ofA Hf (e := (own_e ((100 : Int32) + x0) ((100 : Int32) + x1) ((100 : Int32) + x2) 0)) (n := 0) (a := 0) (b := 0) (k := y0) (j := ((100 : Int32) + x0)) (by simp [own_f]) (by first | rfl | simp [own_e]) R0
      have R2 := own_ofA Hf (e := (own_e ((100 : Int32) + x0) ((100 : Int32) + x1) ((100 : Int32) + x2) 0)) (n := 1) (a := 2) (b := 1) (k := y1) (j := ((100 : Int32) + x1)) (by simp [own_f]) (by first | rfl | simp [own_e]) R1
      have R3 := own_ofA Hf (e := (own_e ((100 : Int32) + x0) ((100 : Int32) + x1) ((100 : Int32) + x2) 0)) (n := 2) (a := 1) (b := 2) (k := y2) (j := ((100 : Int32) + x2)) (by simp [own_f]) (by first | rfl | simp [own_e]) R2
      have hm : mo = x1 := (by rw [hmo, if_pos (p01.mpr (by omega)), if_neg (fun z_ => absurd (p12.mp z_) (by omega))])
      have m1 : M1 = kk := by rw [hM1, if_neg (fun z_ => e01 (z_.trans hm)), if_neg (by omega)]
      have m2 : M2 = kk := by rw [hM2, m1, if_pos hm.symm]
      have m3 : M3 = kk := by rw [hM3, m2, if_neg (fun z_ => (Ne.symm e12) (z_.trans hm)), if_neg (by omega)]
      have RP := own_rp Hf (e := (own_e ((100 : Int32) + x0) ((100 : Int32) + x1) ((100 : Int32) + x2) 0)) (n := 3) (k := kk) (a := 3) (by decide) (by simp [own_f] <;> omega) R3
      refine ⟨?_, ?_, fun of hof => ?_⟩
      · rw [hm]; exact (R3 0 (by decide)).2.trans ((congrArg (own_e ((100 : Int32) + x0) ((100 : Int32) + x1) ((100 : Int32) + x2) 0) (show _ = (1 : Int32) from by decide +kernel)).trans (by first | rfl | simp [own_e]))
      · rw [m3]; exact (RP 0 (by decide)).1.trans ((congrArg (own_f y0 y2 y1 kk) (show _ = (3 : Int) from by decide +kernel)).trans (by simp [own_f] <;> omega))
      · have o0 : of 0 = ((100 : Int32) + x0) := (hof 0 (by decide)).trans ((own_st_rel Hf (by decide) RP (3 - 1 - 0) (by decide) 0 (by decide)).2.trans ((congrArg (own_e ((100 : Int32) + x0) ((100 : Int32) + x1) ((100 : Int32) + x2) 0) (show _ = (0 : Int32) from by decide +kernel)).trans (by first | rfl | simp [own_e])))
        have o1 : of 1 = ((100 : Int32) + x2) := (hof 1 (by decide)).trans ((own_st_rel Hf (by decide) RP (3 - 1 - 1) (by decide) 0 (by decide)).2.trans ((congrArg (own_e ((100 : Int32) + x0) ((100 : Int32) + x1) ((100 : Int32) + x2) 0) (show _ = (2 : Int32) from by decide +kernel)).trans (by first | rfl | simp [own_e])))
        have o2 : of 2 = ((100 : Int32) + x1) := (hof 2 (by decide)).trans ((own_st_rel Hf (by decide) RP (3 - 1 - 2) (by decide) 0 (by decide)).2.trans ((congrArg (own_e ((100 : Int32) + x0) ((100 : Int32) + x1) ((100 : Int32) + x2) 0) (show _ = (1 : Int32) from by decide +kernel)).trans (by first | rfl | simp [own_e])))
        exact Or.inr (Or.inl ⟨o0, o1, o2, (by rw [if_neg (fun z_ => e01 (z_.trans hm)), if_neg (fun z_ => (Ne.symm e12) (z_.trans hm))]; omega), (by rw [if_neg (fun z_ => (Ne.symm e12) (z_.trans hm)), if_pos hm.symm]; omega)⟩)
  · have hp : (kk < y1) ∨ (kk = y1) ∨ (y1 < kk ∧ kk < y0) ∨ (kk = y0) ∨ (y0 < kk ∧ kk < y2) ∨ (kk = y2) ∨ (y2 < kk) := by omega
    rcases hp with hk | hk | hk | hk | hk | hk | hk
    · have Hf := own_fm (v0 := kk) (v1 := y1) (v2 := y0) (v3 := y2) (by omega) (by omega) (by omega)
      have R0 := own_R0 (own_f kk y1 y0 y2) (own_e ((100 : Int32) + x0) ((100 : Int32) + x1) ((100 : Int32) + x2) 0)
      have R1 := own_ofA Hf (e := (own_e ((100 : Int32) + x0) ((100 : Int32) + x1) ((100 : Int32) + x2) 0)) (n := 0) (a := 2) (b := 0) (k := y0) (j := ((100 : Int32) + x0)) (by simp [own_f]) (by first | rfl | simp [own_e]) R0
      have R2 := own_ofA Hf (e := (own_e ((100 : Int32) + x0) ((100 : Int32) + x1) ((100 : Int32) + x2) 0)) (n := 1) (a := 1) (b := 1) (k := y1) (j := ((100 : Int32) + x1)) (by simp [own_f]) (by first | rfl | simp [own_e]) R1
      have R3 := own_ofA Hf (e := (own_e ((100 : Int32) + x0) ((100 : Int32) + x1) ((100 : Int32) + x2) 0)) (n := 2) (a := 3) (b := 2) (k := y2) (j := ((100 : Int32) + x2)) (by simp [own_f]) (by first | rfl | simp [own_e]) R2
      have hm : mo = x2 := (by rw [hmo, if_neg (fun z_ => absurd (p01.mp z_) (by omega)), if_pos (p02.mpr (by omega))])
      have m1 : M1 = y0 := by rw [hM1, if_neg (fun z_ => e02 (z_.trans hm)), if_pos (by omega)]
      have m2 : M2 = y0 := by rw [hM2, m1, if_neg (fun z_ => e12 (z_.trans hm)), if_neg (by omega)]
      have m3 : M3 = y0 := by rw [hM3, m2, if_pos hm.symm]
      have RP := own_rp Hf (e := (own_e ((100 : Int32) + x0) ((100 : Int32) + x1) ((100 : Int32) + x2) 0)) (n := 3) (k := kk) (a := 0) (by decide) (by simp [own_f] <;> omega) R3
      refine ⟨?_, ?_, fun of hof => ?_⟩
      · rw [hm]; exact (R3 0 (by decide)).2.trans ((congrArg (own_e ((100 : Int32) + x0) ((100 : Int32) + x1) ((100 : Int32) + x2) 0) (show _ = (2 : Int32) from by decide +kernel)).trans (by first | rfl | simp [own_e]))
      · rw [m3]; exact (RP 0 (by decide)).1.trans ((congrArg (own_f kk y1 y0 y2) (show _ = (2 : Int) from by decide +kernel)).trans (by simp [own_f] <;> omega))
      · have o0 : of 0 = ((100 : Int32) + x2) := (hof 0 (by decide)).trans ((own_st_rel Hf (by decide) RP (3 - 1 - 0) (by decide) 0 (by decide)).2.trans ((congrArg (own_e ((100 : Int32) + x0) ((100 : Int32) + x1) ((100 : Int32) + x2) 0) (show _ = (2 : Int32) from by decide +kernel)).trans (by first | rfl | simp [own_e])))
        have o1 : of 1 = ((100 : Int32) + x1) := (hof 1 (by decide)).trans ((own_st_rel Hf (by decide) RP (3 - 1 - 1) (by decide) 0 (by decide)).2.trans ((congrArg (own_e ((100 : Int32) + x0) ((100 : Int32) + x1) ((100 : Int32) + x2) 0) (show _ = (1 : Int32) from by decide +kernel)).trans (by first | rfl | simp [own_e])))
        have o2 : of 2 = ((100 : Int32) + x0) := (hof 2 (by decide)).trans ((own_st_rel Hf (by decide) RP (3 - 1 - 2) (by decide) 0 (by decide)).2.trans ((congrArg (own_e ((100 : Int32) + x0) ((100 : Int32) + x1) ((100 : Int32) + x2) 0) (show _ = (0 : Int32) from by decide +kernel)).trans (by first | rfl | simp [own_e])))
        exact Or.inr (Or.inr (Or.inr (Or.inr (Or.inr (⟨o0, o1, o2, (by rw [if_pos hm.symm, if_neg (fun z_ => e12 (z_.trans hm))]; omega), (by rw [if_neg (fun z_ => e12 (z_.trans hm)), if_neg (fun z_ => e02 (z_.trans hm))]; omega)⟩)))))
    · have Hf := own_fm (v0 := y1) (v1 := y0) (v2 := y2) (v3 := (y2 + 1)) (by omega) (by omega) (by omega)
      have R0 := own_R0 (own_f y1 y0 y2 (y2 + 1)) (own_e ((100 : Int32) + x0) ((100 : Int32) + x1) ((100 : Int32) + x2) 0)
      have R1 := own_ofA Hf (e := (own_e ((100 : Int32) + x0) ((100 : Int32) + x1) ((100 : Int32) + x2) 0)) (n := 0) (a := 1) (b := 0) (k := y0) (j := ((100 : Int32) + x0)) (by simp [own_f]) (by first | rfl | simp [own_e]) R0
      have R2 := own_ofA Hf (e := (own_e ((100 : Int32) + x0) ((100 : Int32) + x1) ((100 : Int32) + x2) 0)) (n := 1) (a := 0) (b := 1) (k := y1) (j := ((100 : Int32) + x1)) (by simp [own_f]) (by first | rfl | simp [own_e]) R1
      have R3 := own_ofA Hf (e := (own_e ((100 : Int32) + x0) ((100 : Int32) + x1) ((100 : Int32) + x2) 0)) (n := 2) (a := 2) (b := 2) (k := y2) (j := ((100 : Int32) + x2)) (by simp [own_f]) (by first | rfl | simp [own_e]) R2
      have hm : mo = x2 := (by rw [hmo, if_neg (fun z_ => absurd (p01.mp z_) (by omega)), if_pos (p02.mpr (by omega))])
      have m1 : M1 = y0 := by rw [hM1, if_neg (fun z_ => e02 (z_.trans hm)), if_pos (by omega)]
      have m2 : M2 = y0 := by rw [hM2, m1, if_neg (fun z_ => e12 (z_.trans hm)), if_neg (by omega)]
      have m3 : M3 = y0 := by rw [hM3, m2, if_pos hm.symm]
      have RP := own_rp Hf (e := (own_e ((100 : Int32) + x0) ((100 : Int32) + x1) ((100 : Int32) + x2) 0)) (n := 3) (k := kk) (a := 0) (by decide) (by simp [own_f] <;> omega) R3
      refine ⟨?_, ?_, fun of hof => ?_⟩
      · rw [hm]; exact (R3 0 (by decide)).2.trans ((congrArg (own_e ((100 : Int32) + x0) ((100 : Int32) + x1) ((100 : Int32) + x2) 0) (show _ = (2 : Int32) from by decide +kernel)).trans (by first | rfl | simp [own_e]))
      · rw [m3]; exact (RP 0 (by decide)).1.trans ((congrArg (own_f y1 y0 y2 (y2 + 1)) (show _ = (1 : Int) from by decide +kernel)).trans (by simp [own_f] <;> omega))
      · have o0 : of 0 = ((100 : Int32) + x1) := (hof 0 (by decide)).trans ((own_st_rel Hf (by decide) RP (3 - 1 - 0) (by decide) 0 (by decide)).2.trans ((congrArg (own_e ((100 : Int32) + x0) ((100 : Int32) + x1) ((100 : Int32) + x2) 0) (show _ = (1 : Int32) from by decide +kernel)).trans (by first | rfl | simp [own_e])))
        have o1 : of 1 = ((100 : Int32) + x2) := (hof 1 (by decide)).trans ((own_st_rel Hf (by decide) RP (3 - 1 - 1) (by decide) 0 (by decide)).2.trans ((congrArg (own_e ((100 : Int32) + x0) ((100 : Int32) + x1) ((100 : Int32) + x2) 0) (show _ = (2 : Int32) from by decide +kernel)).trans (by first | rfl | simp [own_e])))
        have o2 : of 2 = ((100 : Int32) + x0) := (hof 2 (by decide)).trans ((own_st_rel Hf (by decide) RP (3 - 1 - 2) (by decide) 0 (by decide)).2.trans ((congrArg (own_e ((100 : Int32) + x0) ((100 : Int32) + x1) ((100 : Int32) + x2) 0) (show _ = (0 : Int32) from by decide +kernel)).trans (by first | rfl | simp [own_e])))
        exact Or.inr (Or.inr (Or.inr (Or.inl ⟨o0, o1, o2, (by rw [if_neg (fun z_ => e12 (z_.trans hm)), if_pos hm.symm]; omega), (by rw [if_pos hm.symm, if_neg (fun z_ => e02 (z_.trans hm))]; omega)⟩)))
    · have Hf := own_fm (v0 := y1) (v1 := kk) (v2 := y0) (v3 := y2) (by omega) (by omega) (by omega)
      have R0 := own_R0 (own_f y1 kk y0 y2) (own_e ((100 : Int32) + x0) ((100 : Int32) + x1) ((100 : Int32) + x2) 0)
      have R1 := own_ofA Hf (e := (own_e ((100 : Int32) + x0) ((100 : Int32) + x1) ((100 : Int32) + x2) 0)) (n := 0) (a := 2) (b := 0) (k := y0) (j := ((100 : Int32) + x0)) (by simp [own_f]) (by first | rfl | simp [own_e]) R0
      have R2 := own_ofA Hf (e := (own_e ((100 : Int32) + x0) ((100 : Int32) + x1) ((100 : Int32) + x2) 0)) (n := 1) (a := 0) (b := 1) (k := y1) (j := ((100 : Int32) + x1)) (by simp [own_f]) (by first | rfl | simp [own_e]) R1
      have R3 := own_ofA Hf (e := (own_e ((100 : Int32) + x0) ((100 : Int32) + x1) ((100 : Int32) + x2) 0)) (n := 2) (a := 3) (b := 2) (k := y2) (j := ((100 : Int32) + x2)) (by simp [own_f]) (by first | rfl | simp [own_e]) R2
      have hm : mo = x2 := (by rw [hmo, if_neg (fun z_ => absurd (p01.mp z_) (by omega)), if_pos (p02.mpr (by omega))])
      have m1 : M1 = y0 := by rw [hM1, if_neg (fun z_ => e02 (z_.trans hm)), if_pos (by omega)]
      have m2 : M2 = y0 := by rw [hM2, m1, if_neg (fun z_ => e12 (z_.trans hm)), if_neg (by omega)]
      have m3 : M3 = y0 := by rw [hM3, m2, if_pos hm.symm]
      have RP := own_rp Hf (e := (own_e ((100 : Int32) + x0) ((100 : Int32) + x1) ((100 : Int32) + x2) 0)) (n := 3) (k := kk) (a := 1) (by decide) (by simp [own_f] <;> omega) R3
      refine ⟨?_, ?_, fun of hof => ?_⟩
      · rw [hm]; exact (R3 0 (by decide)).2.trans ((congrArg (own_e ((100 : Int32) + x0) ((100 : Int32) + x1) ((100 : Int32) + x2) 0) (show _ = (2 : Int32) from by decide +kernel)).trans (by first | rfl | simp [own_e]))
      · rw [m3]; exact (RP 0 (by decide)).1.trans ((congrArg (own_f y1 kk y0 y2) (show _ = (2 : Int) from by decide +kernel)).trans (by simp [own_f] <;> omega))
      · have o0 : of 0 = ((100 : Int32) + x1) := (hof 0 (by decide)).trans ((own_st_rel Hf (by decide) RP (3 - 1 - 0) (by decide) 0 (by decide)).2.trans ((congrArg (own_e ((100 : Int32) + x0) ((100 : Int32) + x1) ((100 : Int32) + x2) 0) (show _ = (1 : Int32) from by decide +kernel)).trans (by first | rfl | simp [own_e])))
        have o1 : of 1 = ((100 : Int32) + x2) := (hof 1 (by decide)).trans ((own_st_rel Hf (by decide) RP (3 - 1 - 1) (by decide) 0 (by decide)).2.trans ((congrArg (own_e ((100 : Int32) + x0) ((100 : Int32) + x1) ((100 : Int32) + x2) 0) (show _ = (2 : Int32) from by decide +kernel)).trans (by first | rfl | simp [own_e])))
        have o2 : of 2 = ((100 : Int32) + x0) := (hof 2 (by decide)).trans ((own_st_rel Hf (by decide) RP (3 - 1 - 2) (by decide) 0 (by decide)).2.trans ((congrArg (own_e ((100 : Int32) + x0) ((100 : Int32) + x1) ((100 : Int32) + x2) 0) (show _ = (0 : Int32) from by decide +kernel)).trans (by first | rfl | simp [own_e])))
        exact Or.inr (Or.inr (Or.inr (Or.inl ⟨o0, o1, o2, (by rw [if_neg (fun z_ => e12 (z_.trans hm)), if_pos hm.symm]; omega), (by rw [if_pos hm.symm, if_neg (fun z_ => e02 (z_.trans hm))]; omega)⟩)))
    · have Hf := own_fm (v0 := y1) (v1 := y0) (v2 := y2) (v3 := (y2 + 1)) (by omega) (by omega) (by omega)
      have R0 := own_R0 (own_f y1 y0 y2 (y2 + 1)) (own_e ((100 : Int32) + x0) ((100 : Int32) + x1) ((100 : Int32) + x2) 0)
      have R1 := own_ofA Hf (e := (own_e ((100 : Int32) + x0) ((100 : Int32) + x1) ((100 : Int32) + x2) 0)) (n := 0) (a := 1) (b := 0) (k := y0) (j := ((100 : Int32) + x0)) (by simp [own_f]) (by first | rfl | simp [own_e]) R0
      have R2 := own_ofA Hf (e := (own_e ((100 : Int32) + x0) ((100 : Int32) + x1) ((100 : Int32) + x2) 0)) (n := 1) (a := 0) (b := 1) (k := y1) (j := ((100 : Int32) + x1)) (by simp [own_f]) (by first | rfl | simp [own_e]) R1
      have R3 := own_ofA Hf (e := (own_e ((100 : Int32) + x0) ((100 : Int32) + x1) ((100 : Int32) + x2) 0)) (n := 2) (a := 2) (b := 2) (k := y2) (j := ((100 : Int32) + x2)) (by simp [own_f]) (by first | rfl | simp [own_e]) R2
      have hm : mo = x2 := (by rw [hmo, if_neg (fun z_ => absurd (p01.mp z_) (by omega)), if_pos (p02.mpr (by omega))])
      have m1 : M1 = kk := by rw [hM1, if_neg (fun z_ => e02 (z_.trans hm)), if_neg (by omega)]
      have m2 : M2 = kk := by rw [hM2, m1, if_neg (fun z_ => e12 (z_.trans hm)), if_neg (by omega)]
      have m3 : M3 = kk := by rw [hM3, m2, if_pos hm.symm]
      have RP := own_rp Hf (e := (own_e ((100 : Int32) + x0) ((100 : Int32) + x1) ((100 : Int32) + x2) 0)) (n := 3) (k := kk) (a := 1) (by decide) (by simp [own_f] <;> omega) R3
      refine ⟨?_, ?_, fun of hof => ?_⟩
      · rw [hm]; exact (R3 0 (by decide)).2.trans ((congrArg (own_e ((100 : Int32) + x0) ((100 : Int32) + x1) ((100 : Int32) + x2) 0) (show _ = (2 : Int32) from by decide +kernel)).trans (by first | rfl | simp [own_e]))
      · rw [m3]; exact (RP 0 (by decide)).1.trans ((congrArg (own_f y1 y0 y2 (y2 + 1)) (show _ = (1 : Int) from by decide +kernel)).trans (by simp [own_f] <;> omega))
      · have o0 : of 0 = ((100 : Int32) + x1) := (hof 0 (by decide)).trans ((own_st_rel Hf (by decide) RP (3 - 1 - 0) (by decide) 0 (by decide)).2.trans ((congrArg (own_e ((100 : Int32) + x0) ((100 : Int32) + x1) ((100 : Int32) + x2) 0) (show _ = (1 : Int32) from by decide +kernel)).trans (by first | rfl | simp [own_e])))
        have o1 : of 1 = ((100 : Int32) + x0) := (hof 1 (by decide)).trans ((own_st_rel Hf (by decide) RP (3 - 1 - 1) (by decide) 0 (by decide)).2.trans ((congrArg (own_e ((100 : Int32) + x0) ((100 : Int32) + x1) ((100 : Int32) + x2) 0) (show _ = (0 : Int32) from by decide +kernel)).trans (by first | rfl | simp [own_e])))
        have o2 : of 2 = ((100 : Int32) + x2) := (hof 2 (by decide)).trans ((own_st_rel Hf (by decide) RP (3 - 1 - 2) (by decide) 0 (by decide)).2.trans ((congrArg (own_e ((100 : Int32) + x0) ((100 : Int32) + x1) ((100 : Int32) + x2) 0) (show _ = (2 : Int32) from by decide +kernel)).trans (by first | rfl | simp [own_e])))
        exact Or.inr (Or.inr (Or.inl ⟨o0, o1, o2, (by rw [if_neg (fun z_ => e12 (z_.trans hm)), if_neg (fun z_ => e02 (z_.trans hm))]; omega), (by rw [if_neg (fun z_ => e02 (z_.trans hm)), if_pos hm.symm]; omega)⟩))
    · have Hf := own_fm (v0 := y1) (v1 := y0) (v2 := kk) (v3 := y2) (by omega) (by omega) (by omega)
      have R0 := own_R0 (own_f y1 y0 kk y2) (own_e ((100 : Int32) + x0) ((100 : Int32) + x1) ((100 : Int32) + x2) 0)
      have R1 := own_ofA Hf (e := (own_e ((100 : Int32) + x0) ((100 : Int32) + x1) ((100 : Int32) + x2) 0)) (n := 0) (a := 1) (b := 0) (k := y0) (j := ((100 : Int32) + x0)) (by simp [own_f]) (by first | rfl | simp [own_e]) R0
      have R2 := own_ofA Hf (e := (own_e ((100 : Int32) + x0) ((100 : Int32) + x1) ((100 : Int32) + x2) 0)) (n := 1) (a := 0) (b := 1) (k := y1) (j := ((100 : Int32) + x1)) (by simp [own_f]) (by first | rfl | simp [own_e]) R1
      have R3 := own_ofA Hf (e := (own_e ((100 : Int32) + x0) ((100 : Int32) + x1) ((100 : Int32) + x2) 0)) (n := 2) (a := 3) (b := 2) (k := y2) (j := ((100 : Int32) + x2)) (by simp [own_f]) (by first | rfl | simp [own_e]) R2
      have hm : mo = x2 := (by rw [hmo, if_neg (fun z_ => absurd (p01.mp z_) (by omega)), if_pos (p02.mpr (by omega))])
      have m1 : M1 = kk := by rw [hM1, if_neg (fun z_ => e02 (z_.trans hm)), if_neg (by omega)]
      have m2 : M2 = kk := by rw [hM2, m1, if_neg (fun z_ => e12 (z_.trans hm)), if_neg (by omega)]
      have m3 : M3 = kk := by rw [hM3, m2, if_pos hm.symm]
      have RP := own_rp Hf (e := (own_e ((100 : Int32) + x0) ((100 : Int32) + x1) ((100 : Int32) + x2) 0)) (n := 3) (k := kk) (a := 2) (by decide) (by simp [own_f] <;> omega) R3
      refine ⟨?_, ?_, fun of hof => ?_⟩
      · rw [hm]; exact (R3 0 (by decide)).2.trans ((congrArg (own_e ((100 : Int32) + x0) ((100 : Int32) + x1) ((100 : Int32) + x2) 0) (show _ = (2 : Int32) from by decide +kernel)).trans (by first | rfl | simp [own_e]))
      · rw [m3]; exact (RP 0 (by decide)).1.trans ((congrArg (own_f y1 y0 kk y2) (show _ = (2 : Int) from by decide +kernel)).trans (by simp [own_f] <;> omega))
      · have o0 : of 0 = ((100 : Int32) + x1) := (hof 0 (by decide)).trans ((own_st_rel Hf (by decide) RP (3 - 1 - 0) (by decide) 0 (by decide)).2.trans ((congrArg (own_e ((100 : Int32) + x0) ((100 : Int32) + x1) ((100 : Int32) + x2) 0) (show _ = (1 : Int32) from by decide +kernel)).trans (by first | rfl | simp [own_e])))
        have o1 : of 1 = ((100 : Int32) + x0) := (hof 1 (by decide)).trans ((own_st_rel Hf (by decide) RP (3 - 1 - 1) (by decide) 0 (by decide)).2.trans ((congrArg (own_e ((100 : Int32) + x0) ((100 : Int32) + x1) ((100 : Int32) + x2) 0) (show _ = (0 : Int32) from by decide +kernel)).trans (by first | rfl | simp [own_e])))
        have o2 : of 2 = ((100 : Int32) + x2) := (hof 2 (by decide)).trans ((own_st_rel Hf (by decide) RP (3 - 1 - 2) (by decide) 0 (by decide)).2.trans ((congrArg (own_e ((100 : Int32) + x0) ((100 : Int32) + x1) ((100 : Int32) + x2) 0) (show _ = (2 : Int32) from by decide +kernel)).trans (by first | rfl | simp [own_e])))
        exact Or.inr (Or.inr (Or.inl ⟨o0, o1, o2, (by rw [if_neg (fun z_ => e12 (z_.trans hm)), if_neg (fun z_ => e02 (z_.trans hm))]; omega), (by rw [if_neg (fun z_ => e02 (z_.trans hm)), if_pos hm.symm]; omega)⟩))
    · have Hf := own_fm (v0 := y1) (v1 := y0) (v2 := y2) (v3 := (y2 + 1)) (by omega) (by omega) (by omega)
      have R0 := own_R0 (own_f y1 y0 y2 (y2 + 1)) (own_e ((100 : Int32) + x0) ((100 : Int32) + x1) ((100 : Int32) + x2) 0)
      have R1 := own_ofA Hf (e := (own_e ((100 : Int32) + x0) ((100 : Int32) + x1) ((100 : Int32) + x2) 0)) (n := 0) (a := 1) (b := 0) (k := y0) (j := ((100 : Int32) + x0)) (by simp [own_f]) (by first | rfl | simp [own_e]) R0
      have R2 := own_ofA Hf (e := (own_e ((100 : Int32) + x0) ((100 : Int32) + x1) ((100 : Int32) + x2) 0)) (n := 1) (a := 0) (b := 1) (k := y1) (j := ((100 : Int32) + x1)) (by simp [own_f]) (by first | rfl | simp [own_e]) R1
      have R3 := own_ofA Hf (e := (own_e ((100 : Int32) + x0) ((100 : Int32) + x1) ((100 : Int32) + x2) 0)) (n := 2) (a := 2) (b := 2) (k := y2) (j := ((100 : Int32) + x2)) (by simp [own_f]) (by first | rfl | simp [own_e]) R2
      have hm : mo = x2 := (by rw [hmo, if_neg (fun z_ => absurd (p01.mp z_) (by omega)), if_pos (p02.mpr (by omega))])
      have m1 : M1 = kk := by rw [hM1, if_neg (fun z_ => e02 (z_.trans hm)), if_neg (by omega)]
      have m2 : M2 = kk := by rw [hM2, m1, if_neg (fun z_ => e12 (z_.trans hm)), if_neg (by omega)]
      have m3 : M3 = kk := by rw [hM3, m2, if_pos hm.symm]
      have RP := own_rp Hf (e := (own_e ((100 : Int32) + x0) ((100 : Int32) + x1) ((100 : Int32) + x2) 0)) (n := 3) (k := kk) (a := 2) (by decide) (by simp [own_f] <;> omega) R3
      refine ⟨?_, ?_, fun of hof => ?_⟩
      · rw [hm]; exact (R3 0 (by decide)).2.trans ((congrArg (own_e ((100 : Int32) + x0) ((100 : Int32) + x1) ((100 : Int32) + x2) 0) (show _ = (2 : Int32) from by decide +kernel)).trans (by first | rfl | simp [own_e]))
      · rw [m3]; exact (RP 0 (by decide)).1.trans ((congrArg (own_f y1 y0 y2 (y2 + 1)) (show _ = (2 : Int) from by decide +kernel)).trans (by simp [own_f] <;> omega))
      · have o0 : of 0 = ((100 : Int32) + x1) := (hof 0 (by decide)).trans ((own_st_rel Hf (by decide) RP (3 - 1 - 0) (by decide) 0 (by decide)).2.trans ((congrArg (own_e ((100 : Int32) + x0) ((100 : Int32) + x1) ((100 : Int32) + x2) 0) (show _ = (1 : Int32) from by decide +kernel)).trans (by first | rfl | simp [own_e])))
        have o1 : of 1 = ((100 : Int32) + x0) := (hof 1 (by decide)).trans ((own_st_rel Hf (by decide) RP (3 - 1 - 1) (by decide) 0 (by decide)).2.trans ((congrArg (own_e ((100 : Int32) + x0) ((100 : Int32) + x1) ((100 : Int32) + x2) 0) (show _ = (0 : Int32) from by decide +kernel)).trans (by first | rfl | simp [own_e])))
        have o2 : of 2 = ((100 : Int32) + x2) := (hof 2 (by decide)).trans ((own_st_rel Hf (by decide) RP (3 - 1 - 2) (by decide) 0 (by decide)).2.trans ((congrArg (own_e ((100 : Int32) + x0) ((100 : Int32) + x1) ((100 : Int32) + x2) 0) (show _ = (2 : Int32) from by decide +kernel)).trans (by first | rfl | simp [own_e])))
        exact Or.inr (Or.inr (Or.inl ⟨o0, o1, o2, (by rw [if_neg (fun z_ => e12 (z_.trans hm)), if_neg (fun z_ => e02 (z_.trans hm))]; omega), (by rw [if_neg (fun z_ => e02 (z_.trans hm)), if_pos hm.symm]; omega)⟩))
    · have Hf := own_fm (v0 := y1) (v1 := y0) (v2 := y2) (v3 := kk) (by omega) (by omega) (by omega)
      have R0 := own_R0 (own_f y1 y0 y2 kk) (own_e ((100 : Int32) + x0) ((100 : Int32) + x1) ((100 : Int32) + x2) 0)
      have R1 := own_ofA Hf (e := (own_e ((100 : Int32) + x0) ((100 : Int32) + x1) ((100 : Int32) + x2) 0)) (n := 0) (a := 1) (b := 0) (k := y0) (j := ((100 : Int32) + x0)) (by simp [own_f]) (by first | rfl | simp [own_e]) R0
      have R2 := own_ofA Hf (e := (own_e ((100 : Int32) + x0) ((100 : Int32) + x1) ((100 : Int32) + x2) 0)) (n := 1) (a := 0) (b := 1) (k := y1) (j := ((100 : Int32) + x1)) (by simp [own_f]) (by first | rfl | simp [own_e]) R1
      have R3 := own_ofA Hf (e := (own_e ((100 : Int32) + x0) ((100 : Int32) + x1) ((100 : Int32) + x2) 0)) (n := 2) (a := 2) (b := 2) (k := y2) (j := ((100 : Int32) + x2)) (by simp [own_f]) (by first | rfl | simp [own_e]) R2
      have hm : mo = x2 := (by rw [hmo, if_neg (fun z_ => absurd (p01.mp z_) (by omega)), if_pos (p02.mpr (by omega))])
      have m1 : M1 = kk := by rw [hM1, if_neg (fun z_ => e02 (z_.trans hm)), if_neg (by omega)]
      have m2 : M2 = kk := by rw [hM2, m1, if_neg (fun z_ => e12 (z_.trans hm)), if_neg (by omega)]
      have m3 : M3 = kk := by rw [hM3, m2, if_pos hm.symm]
      have RP := own_rp Hf (e := (own_e ((100 : Int32) + x0) ((100 : Int32) + x1) ((100 : Int32) + x2) 0)) (n := 3) (k := kk) (a := 3) (by decide) (by simp [own_f] <;> omega) R3
      refine ⟨?_, ?_, fun of hof => ?_⟩
      · rw [hm]; exact (R3 0 (by decide)).2.trans ((congrArg (own_e ((100 : Int32) + x0) ((100 : Int32) + x1) ((100 : Int32) + x2) 0) (show _ = (2 : Int32) from by decide +kernel)).trans (by first | rfl | simp [own_e]))
      · rw [m3]; exact (RP 0 (by decide)).1.trans ((congrArg (own_f y1 y0 y2 kk) (show _ = (3 : Int) from by decide +kernel)).trans (by simp [own_f] <;> omega))
      · have o0 : of 0 = ((100 : Int32) + x1) := (hof 0 (by decide)).trans ((own_st_rel Hf (by decide) RP (3 - 1 - 0) (by decide) 0 (by decide)).2.trans ((congrArg (own_e ((100 : Int32) + x0) ((100 : Int32) + x1) ((100 : Int32) + x2) 0) (show _ = (1 : Int32) from by decide +kernel)).trans (by first | rfl | simp [own_e])))
        have o1 : of 1 = ((100 : Int32) + x0) := (hof 1 (by decide)).trans ((own_st_rel Hf (by decide) RP (3 - 1 - 1) (by decide) 0 (by decide)).2.trans ((congrArg (own_e ((100 : Int32) + x0) ((100 : Int32) + x1) ((100 : Int32) + x2) 0) (show _ = (0 : Int32) from by decide +kernel)).trans (by first | rfl | simp [own_e])))
        have o2 : of 2 = ((100 : Int32) + x2) := (hof 2 (by decide)).trans ((own_st_rel Hf (by decide) RP (3 - 1 - 2) (by decide) 0 (by decide)).2.trans ((congrArg (own_e ((100 : Int32) + x0) ((100 : Int32) + x1) ((100 : Int32) + x2) 0) (show _ = (2 : Int32) from by decide +kernel)).trans (by first | rfl | simp [own_e])))
        exact Or.inr (Or.inr (Or.inl ⟨o0, o1, o2, (by rw [if_neg (fun z_ => e12 (z_.trans hm)), if_neg (fun z_ => e02 (z_.trans hm))]; omega), (by rw [if_neg (fun z_ => e02 (z_.trans hm)), if_pos hm.symm]; omega)⟩))
  · have hp : (kk < y1) ∨ (kk = y1) ∨ (y1 < kk ∧ kk < y2) ∨ (kk = y2) ∨ (y2 < kk ∧ kk < y0) ∨ (kk = y0) ∨ (y0 < kk) := by omega
    rcases hp with hk | hk | hk | hk | hk | hk | hk
    · have Hf := own_fm (v0 := kk) (v1 := y1) (v2 := y2) (v3 := y0) (by omega) (by omega) (by omega)
      have R0 := own_R0 (own_f kk y1 y2 y0) (own_e ((100 : Int32) + x0) ((100 : Int32) + x1) ((100 : Int32) + x2) 0)
      have R1 := own_ofA Hf (e := (own_e ((100 : Int32) + x0) ((100 : Int32) + x1) ((100 : Int32) + x2) 0)) (n := 0) (a := 3) (b := 0) (k := y0) (j := ((100 : Int32) + x0)) (by simp [own_f]) (by first | rfl | simp [own_e]) R0
      have R2 := own_ofA Hf (e := (own_e ((100 : Int32) + x0) ((100 : Int32) + x1) ((100 : Int32) + x2) 0)) (n := 1) (a := 1) (b := 1) (k := y1) (j := ((100 : Int32) + x1)) (by simp [own_f]) (by first | rfl | simp [own_e]) R1
      have R3 := own_ofA Hf (e := (own_e ((100 : Int32) + x0) ((100 : Int32) + x1) ((100 : Int32) + x2) 0)) (n := 2) (a := 2) (b := 2) (k := y2) (j := ((100 : Int32) + x2)) (by simp [own_f]) (by first | rfl | simp [own_e]) R2
      have hm : mo = x0 := (by rw [hmo, if_neg (fun z_ => absurd (p01.mp z_) (by omega)), if_neg (fun z_ => absurd (p02.mp z_) (by omega))])
      have m1 : M1 = kk := by rw [hM1, if_pos hm.symm]
      have m2 : M2 = y1 := by rw [hM2, m1, if_neg (fun z_ => (Ne.symm e01) (z_.trans hm)), if_pos (by omega)]
      have m3 : M3 = y2 := by rw [hM3, m2, if_neg (fun z_ => (Ne.symm e02) (z_.trans hm)), if_pos (by omega)]
      have RP := own_rp Hf (e := (own_e ((100 : Int32) + x0) ((100 : Int32) + x1) ((100 : Int32) + x2) 0)) (n := 3) (k := kk) (a := 0) (by decide) (by simp [own_f] <;> omega) R3
      refine ⟨?_, ?_, fun of hof => ?_⟩
      · rw [hm]; exact (R3 0 (by decide)).2.trans ((congrArg (own_e ((100 : Int32) + x0) ((100 : Int32) + x1) ((100 : Int32) + x2) 0) (show _ = (0 : Int32) from by decide +kernel)).trans (by first | rfl | simp [own_e]))
      · rw [m3]; exact (RP 0 (by decide)).1.trans ((congrArg (own_f kk y1 y2 y0) (show _ = (2 : Int) from by decide +kernel)).trans (by simp [own_f] <;> omega))
      · have o0 : of 0 = ((100 : Int32) + x0) := (hof 0 (by decide)).trans ((own_st_rel Hf (by decide) RP (3 - 1 - 0) (by decide) 0 (by decide)).2.trans ((congrArg (own_e ((100 : Int32) + x0) ((100 : Int32) + x1) ((100 : Int32) + x2) 0) (show _ = (0 : Int32) from by decide +kernel)).trans (by first | rfl | simp [own_e])))
        have o1 : of 1 = ((100 : Int32) + x1) := (hof 1 (by decide)).trans ((own_st_rel Hf (by decide) RP (3 - 1 - 1) (by decide) 0 (by decide)).2.trans ((congrArg (own_e ((100 : Int32) + x0) ((100 : Int32) + x1) ((100 : Int32) + x2) 0) (show _ = (1 : Int32) from by decide +kernel)).trans (by first | rfl | simp [own_e])))
        have o2 : of 2 = ((100 : Int32) + x2) := (hof 2 (by decide)).trans ((own_st_rel Hf (by decide) RP (3 - 1 - 2) (by decide) 0 (by decide)).2.trans ((congrArg (own_e ((100 : Int32) + x0) ((100 : Int32) + x1) ((100 : Int32) + x2) 0) (show _ = (2 : Int32) from by decide +kernel)).trans (by first | rfl | simp [own_e])))
        exact Or.inl ⟨o0, o1, o2, (by rw [if_pos hm.symm, if_neg (fun z_ => (Ne.symm e01) (z_.trans hm))]; omega), (by rw [if_neg (fun z_ => (Ne.symm e01) (z_.trans hm)), if_neg (fun z_ => (Ne.symm e02) (z_.trans hm))]; omega)⟩
    · have Hf := own_fm (v0 := y1) (v1 := y2) (v2 := y0) (v3 := (y0 + 1)) (by omega) (by omega) (by omega)
      have R0 := own_R0 (own_f y1 y2 y0 (y0 + 1)) (own_e ((100 : Int32) + x0) ((100 : Int32) + x1) ((100 : Int32) + x2) 0)
      have R1 := own_ofA Hf (e := (own_e ((100 : Int32) + x0) ((100 : Int32) + x1) ((100 : Int32) + x2) 0)) (n := 0) (a := 2) (b := 0) (k := y0) (j := ((100 : Int32) + x0)) (by simp [own_f]) (by first | rfl | simp [own_e]) R0
      have R2 := own_ofA Hf (e := (own_e ((100 : Int32) + x0) ((100 : Int32) + x1) ((100 : Int32) + x2) 0)) (n := 1) (a := 0) (b := 1) (k := y1) (j := ((100 : Int32) + x1)) (by simp [own_f]) (by first | rfl | simp [own_e]) R1
      have R3 := own_ofA Hf (e := (own_e ((100 : Int32) + x0) ((100 : Int32) + x1) ((100 : Int32) + x2) 0)) (n := 2) (a := 1) (b := 2) (k := y2) (j := ((100 : Int32) + x2)) (by simp [own_f]) (by first | rfl | simp [own_e]) R2
      have hm : mo = x0 := (by rw [hmo, if_neg (fun z_ => absurd (p01.mp z_) (by omega)), if_neg (fun z_ => absurd (p02.mp z_) (by omega))])
      have m1 : M1 = kk := by rw [hM1, if_pos hm.symm]
      have m2 : M2 = kk := by rw [hM2, m1, if_neg (fun z_ => (Ne.symm e01) (z_.trans hm)), if_neg (by omega)]
      have m3 : M3 = y2 := by rw [hM3, m2, if_neg (fun z_ => (Ne.symm e02) (z_.trans hm)), if_pos (by omega)]
      have RP := own_rp Hf (e := (own_e ((100 : Int32) + x0) ((100 : Int32) + x1) ((100 : Int32) + x2) 0)) (n := 3) (k := kk) (a := 0) (by decide) (by simp [own_f] <;> omega) R3
      refine ⟨?_, ?_, fun of hof => ?_⟩
      · rw [hm]; exact (R3 0 (by decide)).2.trans ((congrArg (own_e ((100 : Int32) + x0) ((100 : Int32) + x1) ((100 : Int32) + x2) 0) (show _ = (0 : Int32) from by decide +kernel)).trans (by first | rfl | simp [own_e]))
      · rw [m3]; exact (RP 0 (by decide)).1.trans ((congrArg (own_f y1 y2 y0 (y0 + 1)) (show _ = (1 : Int) from by decide +kernel)).trans (by simp [own_f] <;> omega))
      · have o0 : of 0 = ((100 : Int32) + x1) := (hof 0 (by decide)).trans ((own_st_rel Hf (by decide) RP (3 - 1 - 0) (by decide) 0 (by decide)).2.trans ((congrArg (own_e ((100 : Int32) + x0) ((100 : Int32) + x1) ((100 : Int32) + x2) 0) (show _ = (1 : Int32) from by decide +kernel)).trans (by first | rfl | simp [own_e])))
        have o1 : of 1 = ((100 : Int32) + x0) := (hof 1 (by decide)).trans ((own_st_rel Hf (by decide) RP (3 - 1 - 1) (by decide) 0 (by decide)).2.trans ((congrArg (own_e ((100 : Int32) + x0) ((100 : Int32) + x1) ((100 : Int32) + x2) 0) (show _ = (0 : Int32) from by decide +kernel)).trans (by first | rfl | simp [own_e])))
        have o2 : of 2 = ((100 : Int32) + x2) := (hof 2 (by decide)).trans ((own_st_rel Hf (by decide) RP (3 - 1 - 2) (by decide) 0 (by decide)).2.trans ((congrArg (own_e ((100 : Int32) + x0) ((100 : Int32) + x1) ((100 : Int32) + x2) 0) (show _ = (2 : Int32) from by decide +kernel)).trans (by first | rfl | simp [own_e])))
        exact Or.inr (Or.inr (Or.inl ⟨o0, o1, o2, (by rw [if_neg (fun z_ => (Ne.symm e01) (z_.trans hm)), if_pos hm.symm]; omega), (by rw [if_pos hm.symm, if_neg (fun z_ => (Ne.symm e02) (z_.trans hm))]; omega)⟩))
    · have Hf := own_fm (v0 := y1) (v1 := kk) (v2 := y2) (v3 := y0) (by omega) (by omega) (by omega)
      have R0 := own_R0 (own_f y1 kk y2 y0) (own_e ((100 : Int32) + x0) ((100 : Int32) + x1) ((100 : Int32) + x2) 0)
      have R1 := own_ofA Hf (e := (own_e ((100 : Int32) + x0) ((100 : Int32) + x1) ((100 : Int32) + x2) 0)) (n := 0) (a := 3) (b := 0) (k := y0) (j := ((100 : Int32) + x0)) (by simp [own_f]) (by first | rfl | simp [own_e]) R0
      have R2 := own_ofA Hf (e := (own_e ((100 : Int32) + x0) ((100 : Int32) + x1) ((100 : Int32) + x2) 0)) (n := 1) (a := 0) (b := 1) (k := y1) (j := ((100 : Int32) + x1)) (by simp [own_f]) (by first | rfl | simp [own_e]) R1
      have R3 := own_ofA Hf (e := (own_e ((100 : Int32) + x0) ((100 : Int32) + x1) ((100 : Int32) + x2) 0)) (n := 2) (a := 2) (b := 2) (k := y2) (j := ((100 : Int32) + x2)) (by simp [own_f]) (by first | rfl | simp [own_e]) R2
      have hm : mo = x0 := (by rw [hmo, if_neg (fun z_ => absurd (p01.mp z_) (by omega)), if_neg (fun z_ => absurd (p02.mp z_) (by omega))])
      have m1 : M1 = kk := by rw [hM1, if_pos hm.symm]
      have m2 : M2 = kk := by rw [hM2, m1, if_neg (fun z_ => (Ne.symm e01) (z_.trans hm)), if_neg (by omega)]
      have m3 : M3 = y2 := by rw [hM3, m2, if_neg (fun z_ => (Ne.symm e02) (z_.trans hm)), if_pos (by omega)]
      have RP := own_rp Hf (e := (own_e ((100 : Int32) + x0) ((100 : Int32) + x1) ((100 : Int32) + x2) 0)) (n := 3) (k := kk) (a := 1) (by decide) (by simp [own_f] <;> omega) R3
      refine ⟨?_, ?_, fun of hof => ?_⟩
      · rw [hm]; exact (R3 0 (by decide)).2.trans ((congrArg (own_e ((100 : Int32) + x0) ((100 : Int32) + x1) ((100 : Int32) + x2) 0) (show _ = (0 : Int32) from by decide +kernel)).trans (by first | rfl | simp [own_e]))
      · rw [m3]; exact (RP 0 (by decide)).1.trans ((congrArg (own_f y1 kk y2 y0) (show _ = (2 : Int) from by decide +kernel)).trans (by simp [own_f] <;> omega))
      · have o0 : of 0 = ((100 : Int32) + x1) := (hof 0 (by decide)).trans ((own_st_rel Hf (by decide) RP (3 - 1 - 0) (by decide) 0 (by decide)).2.trans ((congrArg (own_e ((100 : Int32) + x0) ((100 : Int32) + x1) ((100 : Int32) + x2) 0) (show _ = (1 : Int32) from by decide +kernel)).trans (by first | rfl | simp [own_e])))
        have o1 : of 1 = ((100 : Int32) + x0) := (hof 1 (by decide)).trans ((own_st_rel Hf (by decide) RP (3 - 1 - 1) (by decide) 0 (by decide)).2.trans ((congrArg (own_e ((100 : Int32) + x0) ((100 : Int32) + x1) ((100 : Int32) + x2) 0) (show _ = (0 : Int32) from by decide +kernel)).trans (by first | rfl | simp [own_e])))
        have o2 : of 2 = ((100 : Int32) + x2) := (hof 2 (by decide)).trans ((own_st_rel Hf (by decide) RP (3 - 1 - 2) (by decide) 0 (by decide)).2.trans ((congrArg (own_e ((100 : Int32) + x0) ((100 : Int32) + x1) ((100 : Int32) + x2) 0) (show _ = (2 : Int32) from by decide +kernel)).trans (by first | rfl | simp [own_e])))
        exact Or.inr (Or.inr (Or.inl ⟨o0, o1, o2, (by rw [if_neg (fun z_ => (Ne.symm e01) (z_.trans hm)), if_pos hm.symm]; omega), (by rw [if_pos hm.symm, if_neg (fun z_ => (Ne.symm e02) (z_.trans hm))]; omega)⟩))
    · have Hf := own_fm (v0 := y1) (v1 := y2) (v2 := y0) (v3 := (y0 + 1)) (by omega) (by omega) (by omega)
      have R0 := own_R0 (own_f y1 y2 y0 (y0 + 1)) (own_e ((100 : Int32) + x0) ((100 : Int32) + x1) ((100 : Int32) + x2) 0)
      have R1 := own_ofA Hf (e := (own_e ((100 : Int32) + x0) ((100 : Int32) + x1) ((100 : Int32) + x2) 0)) (n := 0) (a := 2) (b := 0) (k := y0) (j := ((100 : Int32) + x0)) (by simp [own_f]) (by first | rfl | simp [own_e]) R0
      have R2 := own_ofA Hf (e := (own_e ((100 : Int32) + x0) ((100 : Int32) + x1) ((100 : Int32) + x2) 0)) (n := 1) (a := 0) (b := 1) (k := y1) (j := ((100 : Int32) + x1)) (by simp [own_f]) (by first | rfl | simp [own_e]) R1
      have R3 := own_ofA Hf (e := (own_e ((100 : Int32) + x0) ((100 : Int32) + x1) ((100 : Int32) + x2) 0)) (n := 2) (a := 1) (b := 2) (k := y2) (j := ((100 : Int32) + x2)) (by simp [own_f]) (by first | rfl | simp [own_e]) R2
      have hm : mo = x0 := (by rw [hmo, if_neg (fun z_ => absurd (p01.mp z_) (by omega)), if_neg (fun z_ => absurd (p02.mp z_) (by omega))])
      have m1 : M1 = kk := by rw [hM1, if_pos hm.symm]
      have m2 : M2 = kk := by rw [hM2, m1, if_neg (fun z_ => (Ne.symm e01) (z_.trans hm)), if_neg (by omega)]
      have m3 : M3 = kk := by rw [hM3, m2, if_neg (fun z_ => (Ne.symm e02) (z_.trans hm)), if_neg (by omega)]
      have RP := own_rp Hf (e := (own_e ((100 : Int32) + x0) ((100 : Int32) + x1) ((100 : Int32) + x2) 0)) (n := 3) (k := kk) (a := 1) (by decide) (by simp [own_f] <;> omega) R3
      refine ⟨?_, ?_, fun of hof => ?_⟩
      · rw [hm]; exact (R3 0 (by decide)).2.trans ((congrArg (own_e ((100 : Int32) + x0) ((100 : Int32) + x1) ((100 : Int32) + x2) 0) (show _ = (0 : Int32) from by decide +kernel)).trans (by first | rfl | simp [own_e]))
      · rw [m3]; exact (RP 0 (by decide)).1.trans ((congrArg (own_f y1 y2 y0 (y0 + 1)) (show _ = (1 : Int) from by decide +kernel)).trans (by simp [own_f] <;> omega))
      · have o0 : of 0 = ((100 : Int32) + x1) := (hof 0 (by decide)).trans ((own_st_rel Hf (by decide) RP (3 - 1 - 0) (by decide) 0 (by decide)).2.trans ((congrArg (own_e ((100 : Int32) + x0) ((100 : Int32) + x1) ((100 : Int32) + x2) 0) (show _ = (1 : Int32) from by decide +kernel)).trans (by first | rfl | simp [own_e])))
        have o1 : of 1 = ((100 : Int32) + x2) := (hof 1 (by decide)).trans ((own_st_rel Hf (by decide) RP (3 - 1 - 1) (by decide) 0 (by decide)).2.trans ((congrArg (own_e ((100 : Int32) + x0) ((100 : Int32) + x1) ((100 : Int32) + x2) 0) (show _ = (2 : Int32) from by decide +kernel)).trans (by first | rfl | simp [own_e])))
        have o2 : of 2 = ((100 : Int32) + x0) := (hof 2 (by decide)).trans ((own_st_rel Hf (by decide) RP (3 - 1 - 2) (by decide) 0 (by decide)).2.trans ((congrArg (own_e ((100 : Int32) + x0) ((100 : Int32) + x1) ((100 : Int32) + x2) 0) (show _ = (0 : Int32) from by decide +kernel)).trans (by first | rfl | simp [own_e])))
        exact Or.inr (Or.inr (Or.inr (Or.inl ⟨o0, o1, o2, (by rw [if_neg (fun z_ => (Ne.symm e01) (z_.trans hm)), if_neg (fun z_ => (Ne.symm e02) (z_.trans hm))]; omega), (by rw [if_neg (fun z_ => (Ne.symm e02) (z_.trans hm)), if_pos hm.symm]; omega)⟩)))
    · have Hf := own_fm (v0 := y1) (v1 := y2) (v2 := kk) (v3 := y0) (by omega) (by omega) (by omega)
      have R0 := own_R0 (own_f y1 y2 kk y0) (own_e ((100 : Int32) + x0) ((100 : Int32) + x1) ((100 : Int32) + x2) 0)
      have R1 := own_ofA Hf (e := (own_e ((100 : Int32) + x0) ((100 : Int32) + x1) ((100 : Int32) + x2) 0)) (n := 0) (a := 3) (b := 0) (k := y0) (j := ((100 : Int32) + x0)) (by simp [own_f]) (by first | rfl | simp [own_e]) R0
      have R2 := own_ofA Hf (e := (own_e ((100 : Int32) + x0) ((100 : Int32) + x1) ((100 : Int32) + x2) 0)) (n := 1) (a := 0) (b := 1) (k := y1) (j := ((100 : Int32) + x1)) (by simp [own_f]) (by first | rfl | simp [own_e]) R1
      have R3 := own_ofA Hf (e := (own_e ((100 : Int32) + x0) ((100 : Int32) + x1) ((100 : Int32) + x2) 0)) (n := 2) (a := 1) (b := 2) (k := y2) (j := ((100 : Int32) + x2)) (by simp [own_f]) (by first | rfl | simp [own_e]) R2
      have hm : mo = x0 := (by rw [hmo, if_neg (fun z_ => absurd (p01.mp z_) (by omega)), if_neg (fun z_ => absurd (p02.mp z_) (by omega))])
      have m1 : M1 = kk := by rw [hM1, if_pos hm.symm]
      have m2 : M2 = kk := by rw [hM2, m1, if_neg (fun z_ => (Ne.symm e01) (z_.trans hm)), if_neg (by omega)]
      have m3 : M3 = kk := by rw [hM3, m2, if_neg (fun z_ => (Ne.symm e02) (z_.trans hm)), if_neg (by omega)]
      have RP := own_rp Hf (e := (own_e ((100 : Int32) + x0) ((100 : Int32) + x1) ((100 : Int32) + x2) 0)) (n := 3) (k := kk) (a := 2) (by decide) (by simp [own_f] <;> omega) R3
      refine ⟨?_, ?_, fun of hof => ?_⟩
      · rw [hm]; exact (R3 0 (by decide)).2.trans ((congrArg (own_e ((100 : Int32) + x0) ((100 : Int32) + x1) ((100 : Int32) + x2) 0) (show _ = (0 : Int32) from by decide +kernel)).trans (by first | rfl | simp [own_e]))
      · rw [m3]; exact (RP 0 (by decide)).1.trans ((congrArg (own_f y1 y2 kk y0) (show _ = (2 : Int) from by decide +kernel)).trans (by simp [own_f] <;> omega))
      · have o0 : of 0 = ((100 : Int32) + x1) := (hof 0 (by decide)).trans ((own_st_rel Hf (by decide) RP (3 - 1 - 0) (by decide) 0 (by decide)).2.trans ((congrArg (own_e ((100 : Int32) + x0) ((100 : Int32) + x1) ((100 : Int32) + x2) 0) (show _ = (1 : Int32) from by decide +kernel)).trans (by first | rfl | simp [own_e])))
        have o1 : of 1 = ((100 : Int32) + x2) := (hof 1 (by decide)).trans ((own_st_rel Hf (by decide) RP (3 - 1 - 1) (by decide) 0 (by decide)).2.trans ((congrArg (own_e ((100 : Int32) + x0) ((100 : Int32) + x1) ((100 : Int32) + x2) 0) (show _ = (2 : Int32) from by decide +kernel)).trans (by first | rfl | simp [own_e])))
        have o2 : of 2 = ((100 : Int32) + x0) := (hof 2 (by decide)).trans ((own_st_rel Hf (by decide) RP (3 - 1 - 2) (by decide) 0 (by decide)).2.trans ((congrArg (own_e ((100 : Int32) + x0) ((100 : Int32) + x1) ((100 : Int32) + x2) 0) (show _ = (0 : Int32) from by decide +kernel)).trans (by first | rfl | simp [own_e])))
        exact Or.inr (Or.inr (Or.inr (Or.inl ⟨o0, o1, o2, (by rw [if_neg (fun z_ => (Ne.symm e01) (z_.trans hm)), if_neg (fun z_ => (Ne.symm e02) (z_.trans hm))]; omega), (by rw [if_neg (fun z_ => (Ne.symm e02) (z_.trans hm)), if_pos hm.symm]; omega)⟩)))
    · have Hf := own_fm (v0 := y1) (v1 := y2) (v2 := y0) (v3 := (y0 + 1)) (by omega) (by omega) (by omega)
      have R0 := own_R0 (own_f y1 y2 y0 (y0 + 1)) (own_e ((100 : Int32) + x0) ((100 : Int32) + x1) ((100 : Int32) + x2) 0)
      have R1 := own_ofA Hf (e := (own_e ((100 : Int32) + x0) ((100 : Int32) + x1) ((100 : Int32) + x2) 0)) (n := 0) (a := 2) (b := 0) (k := y0) (j := ((100 : Int32) + x0)) (by simp [own_f]) (by first | rfl | simp [own_e]) R0
      have R2 := own_ofA Hf (e := (own_e ((100 : Int32) + x0) ((100 : Int32) + x1) ((100 : Int32) + x2) 0)) (n := 1) (a := 0) (b := 1) (k := y1) (j := ((100 : Int32) + x1)) (by simp [own_f]) (by first | rfl | simp [own_e]) R1
      have R3 := own_ofA Hf (e := (own_e ((100 : Int32) + x0) ((100 : Int32) + x1) ((100 : Int32) + x2) 0)) (n := 2) (a := 1) (b := 2) (k := y2) (j := ((100 : Int32) + x2)) (by simp [own_f]) (by first | rfl | simp [own_e]) R2
      have hm : mo = x0 := (by rw [hmo, if_neg (fun z_ => absurd (p01.mp z_) (by omega)), if_neg (fun z_ => absurd (p02.mp z_) (by omega))])
      have m1 : M1 = kk := by rw [hM1, if_pos hm.symm]
      have m2 : M2 = kk := by rw [hM2, m1, if_neg (fun z_ => (Ne.symm e01) (z_.trans hm)), if_neg (by omega)]
      have m3 : M3 = kk := by rw [hM3, m2, if_neg (fun z_ => (Ne.symm e02) (z_.trans hm)), if_neg (by omega)]
      have RP := own_rp Hf (e := (own_e ((100 : Int32) + x0) ((100 : Int32) + x1) ((100 : Int32) + x2) 0)) (n := 3) (k := kk) (a := 2) (by decide) (by simp [own_f] <;> omega) R3
      refine ⟨?_, ?_, fun of hof => ?_⟩
      · rw [hm]; exact (R3 0 (by decide)).2.trans ((congrArg (own_e ((100 : Int32) + x0) ((100 : Int32) + x1) ((100 : Int32) + x2) 0) (show _ = (0 : Int32) from by decide +kernel)).trans (by first | rfl | simp [own_e]))
      · rw [m3]; exact (RP 0 (by decide)).1.trans ((congrArg (own_f y1 y2 y0 (y0 + 1)) (show _ = (2 : Int) from by decide +kernel)).trans (by simp [own_f] <;> omega))
      · have o0 : of 0 = ((100 : Int32) + x1) := (hof 0 (by decide)).trans ((own_st_rel Hf (by decide) RP (3 - 1 - 0) (by decide) 0 (by decide)).2.trans ((congrArg (own_e ((100 : Int32) + x0) ((100 : Int32) + x1) ((100 : Int32) + x2) 0) (show _ = (1 : Int32) from by decide +kernel)).trans (by first | rfl | simp [own_e])))
        have o1 : of 1 = ((100 : Int32) + x2) := (hof 1 (by decide)).trans ((own_st_rel Hf (by decide) RP (3 - 1 - 1) (by decide) 0 (by decide)).2.trans ((congrArg (own_e ((100 : Int32) + x0) ((100 : Int32) + x1) ((100 : Int32) + x2) 0) (show _ = (2 : Int32) from by decide +kernel)).trans (by first | rfl | simp [own_e])))
        have o2 : of 2 = ((100 : Int32) + x0) := (hof 2 (by decide)).trans ((own_st_rel Hf (by decide) RP (3 - 1 - 2) (by decide) 0 (by decide)).2.trans ((congrArg (own_e ((100 : Int32) + x0) ((100 : Int32) + x1) ((100 : Int32) + x2) 0) (show _ = (0 : Int32) from by decide +kernel)).trans (by first | rfl | simp [own_e])))
        exact Or.inr (Or.inr (Or.inr (Or.inl ⟨o0, o1, o2, (by rw [if_neg (fun z_ => (Ne.symm e01) (z_.trans hm)), if_neg (fun z_ => (Ne.symm e02) (z_.trans hm))]; omega), (by rw [if_neg (fun z_ => (Ne.symm e02) (z_.trans hm)), if_pos hm.symm]; omega)⟩)))
    · have Hf := own_fm (v0 := y1) (v1 := y2) (v2 := y0) (v3 := kk) (by omega) (by omega) (by omega)
      have R0 := own_R0 (own_f y1 y2 y0 kk) (own_e ((100 : Int32) + x0) ((100 : Int32) + x1) ((100 : Int32) + x2) 0)
      have R1 := own_ofA Hf (e := (own_e ((100 : Int32) + x0) ((100 : Int32) + x1) ((100 : Int32) + x2) 0)) (n := 0) (a := 2) (b := 0) (k := y0) (j := ((100 : Int32) + x0)) (by simp [own_f]) (by first | rfl | simp [own_e]) R0
      have R2 := own_ofA Hf (e := (own_e ((100 : Int32) + x0) ((100 : Int32) + x1) ((100 : Int32) + x2) 0)) (n := 1) (a := 0) (b := 1) (k := y1) (j := ((100 : Int32) + x1)) (by simp [own_f]) (by first | rfl | simp [own_e]) R1
      have R3 := own_ofA Hf (e := (own_e ((100 : Int32) + x0) ((100 : Int32) + x1) ((100 : Int32) + x2) 0)) (n := 2) (a := 1) (b := 2) (k := y2) (j := ((100 : Int32) + x2)) (by simp [own_f]) (by first | rfl | simp [own_e]) R2
      have hm : mo = x0 := (by rw [hmo, if_neg (fun z_ => absurd (p01.mp z_) (by omega)), if_neg (fun z_ => absurd (p02.mp z_) (by omega))])
      have m1 : M1 = kk := by rw [hM1, if_pos hm.symm]
      have m2 : M2 = kk := by rw [hM2, m1, if_neg (fun z_ => (Ne.symm e01) (z_.trans hm)), if_neg (by omega)]
      have m3 : M3 = kk := by rw [hM3, m2, if_neg (fun z_ => (Ne.symm e02) (z_.trans hm)), if_neg (by omega)]
      have RP := own_rp Hf (e := (own_e ((100 : Int32) + x0) ((100 : Int32) + x1) ((100 : Int32) + x2) 0)) (n := 3) (k := kk) (a := 3) (by decide) (by simp [own_f] <;> omega) R3
      refine ⟨?_, ?_, fun of hof => ?_⟩
      · rw [hm]; exact (R3 0 (by decide)).2.trans ((congrArg (own_e ((100 : Int32) + x0) ((100 : Int32) + x1) ((100 : Int32) + x2) 0) (show _ = (0 : Int32) from by decide +kernel)).trans (by first | rfl | simp [own_e]))
      · rw [m3]; exact (RP 0 (by decide)).1.trans ((congrArg (own_f y1 y2 y0 kk) (show _ = (3 : Int) from by decide +kernel)).trans (by simp [own_f] <;> omega))
      · have o0 : of 0 = ((100 : Int32) + x1) := (hof 0 (by decide)).trans ((own_st_rel Hf (by decide) RP (3 - 1 - 0) (by decide) 0 (by decide)).2.trans ((congrArg (own_e ((100 : Int32) + x0) ((100 : Int32) + x1) ((100 : Int32) + x2) 0) (show _ = (1 : Int32) from by decide +kernel)).trans (by first | rfl | simp [own_e])))
        have o1 : of 1 = ((100 : Int32) + x2) := (hof 1 (by decide)).trans ((own_st_rel Hf (by decide) RP (3 - 1 - 1) (by decide) 0 (by decide)).2.trans ((congrArg (own_e ((100 : Int32) + x0) ((100 : Int32) + x1) ((100 : Int32) + x2) 0) (show _ = (2 : Int32) from by decide +kernel)).trans (by first | rfl | simp [own_e])))
        have o2 : of 2 = ((100 : Int32) + x0) := (hof 2 (by decide)).trans ((own_st_rel Hf (by decide) RP (3 - 1 - 2) (by decide) 0 (by decide)).2.trans ((congrArg (own_e ((100 : Int32) + x0) ((100 : Int32) + x1) ((100 : Int32) + x2) 0) (show _ = (0 : Int32) from by decide +kernel)).trans (by first | rfl | simp [own_e])))
        exact Or.inr (Or.inr (Or.inr (Or.inl ⟨o0, o1, o2, (by rw [if_neg (fun z_ => (Ne.symm e01) (z_.trans hm)), if_neg (fun z_ => (Ne.symm e02) (z_.trans hm))]; omega), (by rw [if_neg (fun z_ => (Ne.symm e02) (z_.trans hm)), if_pos hm.symm]; omega)⟩)))
  · have hp : (kk < y2) ∨ (kk = y2) ∨ (y2 < kk ∧ kk < y0) ∨ (kk = y0) ∨ (y0 < kk ∧ kk < y1) ∨ (kk = y1) ∨ (y1 < kk) := by omega
    rcases hp with hk | hk | hk | hk | hk | hk | hk
    · have Hf := own_fm (v0 := kk) (v1 := y2) (v2 := y0) (v3 := y1) (by omega) (by omega) (by omega)
      have R0 := own_R0 (own_f kk y2 y0 y1) (own_e ((100 : Int32) + x0) ((100 : Int32) + x1) ((100 : Int32) + x2) 0)
      have R1 := own_ofA Hf (e := (own_e ((100 : Int32) + x0) ((100 : Int32) + x1) ((100 : Int32) + x2) 0)) (n := 0) (a := 2) (b := 0) (k := y0) (j := ((100 : Int32) + x0)) (by simp [own_f]) (by first | rfl | simp [own_e]) R0
      have R2 := own_ofA Hf (e := (own_e ((100 : Int32) + x0) ((100 : Int32) + x1) ((100 : Int32) + x2) 0)) (n := 1) (a := 3) (b := 1) (k := y1) (j := ((100 : Int32) + x1)) (by simp [own_f]) (by first | rfl | simp [own_e]) R1
      have R3 := own_ofA Hf (e := (own_e ((100 : Int32) + x0) ((100 : Int32) + x1) ((100 : Int32) + x2) 0)) (n := 2) (a := 1) (b := 2) (k := y2) (j := ((100 : Int32) + x2)) (by simp [own_f]) (by first | rfl | simp [own_e]) R2
      have hm : mo = x1 := (by rw [hmo, if_pos (p01.mpr (by omega)), if_neg (fun z_ => absurd (p12.mp z_) (by omega))])
      have m1 : M1 = y0 := by rw [hM1, if_neg (fun z_ => e01 (z_.trans hm)), if_pos (by omega)]
      have m2 : M2 = y0 := by rw [hM2, m1, if_pos hm.symm]
      have m3 : M3 = y0 := by rw [hM3, m2, if_neg (fun z_ => (Ne.symm e12) (z_.trans hm)), if_neg (by omega)]
      have RP := own_rp Hf (e := (own_e ((100 : Int32) + x0) ((100 : Int32) + x1) ((100 : Int32) + x2) 0)) (n := 3) (k := kk) (a := 0) (by decide) (by simp [own_f] <;> omega) R3
      refine ⟨?_, ?_, fun of hof => ?_⟩
      · rw [hm]; exact (R3 0 (by decide)).2.trans ((congrArg (own_e ((100 : Int32) + x0) ((100 : Int32) + x1) ((100 : Int32) + x2) 0) (show _ = (1 : Int32) from by decide +kernel)).trans (by first | rfl | simp [own_e]))
      · rw [m3]; exact (RP 0 (by decide)).1.trans ((congrArg (own_f kk y2 y0 y1) (show _ = (2 : Int) from by decide +kernel)).trans (by simp [own_f] <;> omega))
      · have o0 : of 0 = ((100 : Int32) + x1) := (hof 0 (by decide)).trans ((own_st_rel Hf (by decide) RP (3 - 1 - 0) (by decide) 0 (by decide)).2.trans ((congrArg (own_e ((100 : Int32) + x0) ((100 : Int32) + x1) ((100 : Int32) + x2) 0) (show _ = (1 : Int32) from by decide +kernel)).trans (by first | rfl | simp [own_e])))
        have o1 : of 1 = ((100 : Int32) + x2) := (hof 1 (by decide)).trans ((own_st_rel Hf (by decide) RP (3 - 1 - 1) (by decide) 0 (by decide)).2.trans ((congrArg (own_e ((100 : Int32) + x0) ((100 : Int32) + x1) ((100 : Int32) + x2) 0) (show _ = (2 : Int32) from by decide +kernel)).trans (by first | rfl | simp [own_e])))
        have o2 : of 2 = ((100 : Int32) + x0) := (hof 2 (by decide)).trans ((own_st_rel Hf (by decide) RP (3 - 1 - 2) (by decide) 0 (by decide)).2.trans ((congrArg (own_e ((100 : Int32) + x0) ((100 : Int32) + x1) ((100 : Int32) + x2) 0) (show _ = (0 : Int32) from by decide +kernel)).trans (by first | rfl | simp [own_e])))
        exact Or.inr (Or.inr (Or.inr (Or.inl ⟨o0, o1, o2, (by rw [if_pos hm.symm, if_neg (fun z_ => (Ne.symm e12) (z_.trans hm))]; omega), (by rw [if_neg (fun z_ => (Ne.symm e12) (z_.trans hm)), if_neg (fun z_ => e01 (z_.trans hm))]; omega)⟩)))
    · have Hf := own_fm (v0 := y2) (v1 := y0) (v2 := y1) (v3 := (y1 + 1)) (by omega) (by omega) (by omega)
      have R0 := own_R0 (own_f y2 y0 y1 (y1 + 1)) (own_e ((100 : Int32) + x0) ((100 : Int32) + x1) ((100 : Int32) + x2) 0)
      have R1 := own_ofA Hf (e := (own_e ((100 : Int32) + x0) ((100 : Int32) + x1) ((100 : Int32) + x2) 0)) (n := 0) (a := 1) (b := 0) (k := y0) (j := ((100 : Int32) + x0)) (by simp [own_f]) (by first | rfl | simp [own_e]) R0
      have R2 := own_ofA Hf (e := (own_e ((100 : Int32) + x0) ((100 : Int32) + x1) ((100 : Int32) + x2) 0)) (n := 1) (a := 2) (b := 1) (k := y1) (j := ((100 : Int32) + x1)) (by simp [own_f]) (by first | rfl | simp [own_e]) R1
      have R3 := own_ofA Hf (e := (own_e ((100 : Int32) + x0) ((100 : Int32) + x1) ((100 : Int32) + x2) 0)) (n := 2) (a := 0) (b := 2) (k := y2) (j := ((100 : Int32) + x2)) (by simp [own_f]) (by first | rfl | simp [own_e]) R2
      have hm : mo = x1 := (by rw [hmo, if_pos (p01.mpr (by omega)), if_neg (fun z_ => absurd (p12.mp z_) (by omega))])
      have m1 : M1 = y0 := by rw [hM1, if_neg (fun z_ => e01 (z_.trans hm)), if_pos (by omega)]
      have m2 : M2 = y0 := by rw [hM2, m1, if_pos hm.symm]
      have m3 : M3 = y0 := by rw [hM3, m2, if_neg (fun z_ => (Ne.symm e12) (z_.trans hm)), if_neg (by omega)]
      have RP := own_rp Hf (e := (own_e ((100 : Int32) + x0) ((100 : Int32) + x1) ((100 : Int32) + x2) 0)) (n := 3) (k := kk) (a := 0) (by decide) (by simp [own_f] <;> omega) R3
      refine ⟨?_, ?_, fun of hof => ?_⟩
      · rw [hm]; exact (R3 0 (by decide)).2.trans ((congrArg (own_e ((100 : Int32) + x0) ((100 : Int32) + x1) ((100 : Int32) + x2) 0) (show _ = (1 : Int32) from by decide +kernel)).trans (by first | rfl | simp [own_e]))
      · rw [m3]; exact (RP 0 (by decide)).1.trans ((congrArg (own_f y2 y0 y1 (y1 + 1)) (show _ = (1 : Int) from by decide +kernel)).trans (by simp [own_f] <;> omega))
      · have o0 : of 0 = ((100 : Int32) + x1) := (hof 0 (by decide)).trans ((own_st_rel Hf (by decide) RP (3 - 1 - 0) (by decide) 0 (by decide)).2.trans ((congrArg (own_e ((100 : Int32) + x0) ((100 : Int32) + x1) ((100 : Int32) + x2) 0) (show _ = (1 : Int32) from by decide +kernel)).trans (by first | rfl | simp [own_e])))
        have o1 : of 1 = ((100 : Int32) + x2) := (hof 1 (by decide)).trans ((own_st_rel Hf (by decide) RP (3 - 1 - 1) (by decide) 0 (by decide)).2.trans ((congrArg (own_e ((100 : Int32) + x0) ((100 : Int32) + x1) ((100 : Int32) + x2) 0) (show _ = (2 : Int32) from by decide +kernel)).trans (by first | rfl | simp [own_e])))
        have o2 : of 2 = ((100 : Int32) + x0) := (hof 2 (by decide)).trans ((own_st_rel Hf (by decide) RP (3 - 1 - 2) (by decide) 0 (by decide)).2.trans ((congrArg (own_e ((100 : Int32) + x0) ((100 : Int32) + x1) ((100 : Int32) + x2) 0) (show _ = (0 : Int32) from by decide +kernel)).trans (by first | rfl | simp [own_e])))
        exact Or.inr (Or.inr (Or.inr (Or.inl ⟨o0, o1, o2, (by rw [if_pos hm.symm, if_neg (fun z_ => (Ne.symm e12) (z_.trans hm))]; omega), (by rw [if_neg (fun z_ => (Ne.symm e12) (z_.trans hm)), if_neg (fun z_ => e01 (z_.trans hm))]; omega)⟩)))
    · have Hf := own_fm (v0 := y2) (v1 := kk) (v2 := y0) (v3 := y1) (by omega) (by omega) (by omega)
      have R0 := own_R0 (own_f y2 kk y0 y1) (own_e ((100 : Int32) + x0) ((100 : Int32) + x1) ((100 : Int32) + x2) 0)
      have R1 := own_ofA Hf (e := (own_e ((100 : Int32) + x0) ((100 : Int32) + x1) ((100 : Int32) + x2) 0)) (n := 0) (a := 2) (b := 0) (k := y0) (j := ((100 : Int32) + x0)) (by simp [own_f]) (by first | rfl | simp [own_e]) R0
      have R2 := own_ofA Hf (e := (own_e ((100 : Int32) + x0) ((100 : Int32) + x1) ((100 : Int32) + x2) 0)) (n := 1) (a := 3) (b := 1) (k := y1) (j := ((100 : Int32) + x1)) (by simp [own_f]) (by first | rfl | simp [own_e]) R1
      have R3 := own_ofA Hf (e := (own_e ((100 : Int32) + x0) ((100 : Int32) + x1) ((100 : Int32) + x2) 0)) (n := 2) (a := 0) (b := 2) (k := y2) (j := ((100 : Int32) + x2)) (by simp [own_f]) (by first | rfl | simp [own_e]) R2
      have hm : mo = x1 := (by rw [hmo, if_pos (p01.mpr (by omega)), if_neg (fun z_ => absurd (p12.mp z_) (by omega))])
      have m1 : M1 = y0 := by rw [hM1, if_neg (fun z_ => e01 (z_.trans hm)), if_pos (by omega)]
      have m2 : M2 = y0 := by rw [hM2, m1, if_pos hm.symm]
      have m3 : M3 = y0 := by rw [hM3, m2, if_neg (fun z_ => (Ne.symm e12) (z_.trans hm)), if_neg (by omega)]
      have RP := own_rp Hf (e := (own_e ((100 : Int32) + x0) ((100 : Int32) + x1) ((100 : Int32) + x2) 0)) (n := 3) (k := kk) (a := 1) (by decide) (by simp [own_f] <;> omega) R3
      refine ⟨?_, ?_, fun of hof => ?_⟩
      · rw [hm]; exact (R3 0 (by decide)).2.trans ((congrArg (own_e ((100 : Int32) + x0) ((100 : Int32) + x1) ((100 : Int32) + x2) 0) (show _ = (1 : Int32) from by decide +kernel)).trans (by first | rfl | simp [own_e]))
      · rw [m3]; exact (RP 0 (by decide)).1.trans ((congrArg (own_f y2 kk y0 y1) (show _ = (2 : Int) from by decide +kernel)).trans (by simp [own_f] <;> omega))
      · have o0 : of 0 = ((100 : Int32) + x2) := (hof 0 (by decide)).trans ((own_st_rel Hf (by decide) RP (3 - 1 - 0) (by decide) 0 (by decide)).2.trans ((congrArg (own_e ((100 : Int32) + x0) ((100 : Int32) + x1) ((100 : Int32) + x2) 0) (show _ = (2 : Int32) from by decide +kernel)).trans (by first | rfl | simp [own_e])))
        have o1 : of 1 = ((100 : Int32) + x1) := (hof 1 (by decide)).trans ((own_st_rel Hf (by decide) RP (3 - 1 - 1) (by decide) 0 (by decide)).2.trans ((congrArg (own_e ((100 : Int32) + x0) ((100 : Int32) + x1) ((100 : Int32) + x2) 0) (show _ = (1 : Int32) from by decide +kernel)).trans (by first | rfl | simp [own_e])))
        have o2 : of 2 = ((100 : Int32) + x0) := (hof 2 (by decide)).trans ((own_st_rel Hf (by decide) RP (3 - 1 - 2) (by decide) 0 (by decide)).2.trans ((congrArg (own_e ((100 : Int32) + x0) ((100 : Int32) + x1) ((100 : Int32) + x2) 0) (show _ = (0 : Int32) from by decide +kernel)).trans (by first | rfl | simp [own_e])))
        exact Or.inr (Or.inr (Or.inr (Or.inr (Or.inr (⟨o0, o1, o2, (by rw [if_neg (fun z_ => (Ne.symm e12) (z_.trans hm)), if_pos hm.symm]; omega), (by rw [if_pos hm.symm, if_neg (fun z_ => e01 (z_.trans hm))]; omega)⟩)))))
    · have Hf := own_fm (v0 := y2) (v1 := y0) (v2 := y1) (v3 := (y1 + 1)) (by omega) (by omega) (by omega)
      have R0 := own_R0 (own_f y2 y0 y1 (y1 + 1)) (own_e ((100 : Int32) + x0) ((100 : Int32) + x1) ((100 : Int32) + x2) 0)
      have R1 := own_ofA Hf (e := (own_e ((100 : Int32) + x0) ((100 : Int32) + x1) ((100 : Int32) + x2) 0)) (n := 0) (a := 1) (b := 0) (k := y0) (j := ((100 : Int32) + x0)) (by simp [own_f]) (by first | rfl | simp [own_e]) R0
      have R2 := own_ofA Hf (e := (own_e ((100 : Int32) + x0) ((100 : Int32) + x1) ((100 : Int32) + x2) 0)) (n := 1) (a := 2) (b := 1) (k := y1) (j := ((100 : Int32) + x1)) (by simp [own_f]) (by first | rfl | simp [own_e]) R1
      have R3 := own_ofA Hf (e := (own_e ((100 : Int32) + x0) ((100 : Int32) + x1) ((100 : Int32) + x2) 0)) (n := 2) (a := 0) (b := 2) (k := y2) (j := ((100 : Int32) + x2)) (by simp [own_f]) (by first | rfl | simp [own_e]) R2
      have hm : mo = x1 := (by rw [hmo, if_pos (p01.mpr (by omega)), if_neg (fun z_ => absurd (p12.mp z_) (by omega))])
      have m1 : M1 = kk := by rw [hM1, if_neg (fun z_ => e01 (z_.trans hm)), if_neg (by omega)]
      have m2 : M2 = kk := by rw [hM2, m1, if_pos hm.symm]
      have m3 : M3 = kk := by rw [hM3, m2, if_neg (fun z_ => (Ne.symm e12) (z_.trans hm)), if_neg (by omega)]
      have RP := own_rp Hf (e := (own_e ((100 : Int32) + x0) ((100 : Int32) + x1) ((100 : Int32) + x2) 0)) (n := 3) (k := kk) (a := 1) (by decide) (by simp [own_f] <;> omega) R3
      refine ⟨?_, ?_, fun of hof => ?_⟩
      · rw [hm]; exact (R3 0 (by decide)).2.trans ((congrArg (own_e ((100 : Int32) + x0) ((100 : Int32) + x1) ((100 : Int32) + x2) 0) (show _ = (1 : Int32) from by decide +kernel)).trans (by first | rfl | simp [own_e]))
      · rw [m3]; exact (RP 0 (by decide)).1.trans ((congrArg (own_f y2 y0 y1 (y1 + 1)) (show _ = (1 : Int) from by decide +kernel)).trans (by simp [own_f] <;> omega))
      · have o0 : of 0 = ((100 : Int32) + x2) := (hof 0 (by decide)).trans ((own_st_rel Hf (by decide) RP (3 - 1 - 0) (by decide) 0 (by decide)).2.trans ((congrArg (own_e ((100 : Int32) + x0) ((100 : Int32) + x1) ((100 : Int32) + x2) 0) (show _ = (2 : Int32) from by decide +kernel)).trans (by first | rfl | simp [own_e])))
        have o1 : of 1 = ((100 : Int32) + x0) := (hof 1 (by decide)).trans ((own_st_rel Hf (by decide) RP (3 - 1 - 1) (by decide) 0 (by decide)).2.trans ((congrArg (own_e ((100 : Int32) + x0) ((100 : Int32) + x1) ((100 : Int32) + x2) 0) (show _ = (0 : Int32) from by decide +kernel)).trans (by first | rfl | simp [own_e])))
        have o2 : of 2 = ((100 : Int32) + x1) := (hof 2 (by decide)).trans ((own_st_rel Hf (by decide) RP (3 - 1 - 2) (by decide) 0 (by decide)).2.trans ((congrArg (own_e ((100 : Int32) + x0) ((100 : Int32) + x1) ((100 : Int32) + x2) 0) (show _ = (1 : Int32) from by decide +kernel)).trans (by first | rfl | simp [own_e])))
        exact Or.inr (Or.inr (Or.inr (Or.inr (Or.inl ⟨o0, o1, o2, (by rw [if_neg (fun z_ => (Ne.symm e12) (z_.trans hm)), if_neg (fun z_ => e01 (z_.trans hm))]; omega), (by rw [if_neg (fun z_ => e01 (z_.trans hm)), if_pos hm.symm]; omega)⟩))))
    · have Hf := own_fm (v0 := y2) (v1 := y0) (v2 := kk) (v3 := y1) (by omega) (by omega) (by omega)
      have R0 := own_R0 (own_f y2 y0 kk y1) (own_e ((100 : Int32) + x0) ((100 : Int32) + x1) ((100 : Int32) + x2) 0)
      have R1 := own_ofA Hf (e := (own_e ((100 : Int32) + x0) ((100 : Int32) + x1) ((100 : Int32) + x2) 0)) (n := 0) (a := 1) (b := 0) (k := y0) (j := ((100 : Int32) + x0)) (by simp [own_f]) (by first | rfl | simp [own_e]) R0
      have R2 := own_ofA Hf (e := (own_e ((100 : Int32) + x0) ((100 : Int32) + x1) ((100 : Int32) + x2) 0)) (n := 1) (a := 3) (b := 1) (k := y1) (j := ((100 : Int32) + x1)) (by simp [own_f]) (by first | rfl | simp [own_e]) R1
      have R3 := own_ofA Hf (e := (own_e ((100 : Int32) + x0) ((100 : Int32) + x1) ((100 : Int32) + x2) 0)) (n := 2) (a := 0) (b := 2) (k := y2) (j := ((100 : Int32) + x2)) (by simp [own_f]) (by first | rfl | simp [own_e]) R2
      have hm : mo = x1 := (by rw [hmo, if_pos (p01.mpr (by omega)), if_neg (fun z_ => absurd (p12.mp z_) (by omega))])
      have m1 : M1 = kk := by rw [hM1, if_neg (fun z_ => e01 (z_.trans hm)), if_neg (by omega)]
      have m2 : M2 = kk := by rw [hM2, m1, if_pos hm.symm]
      have m3 : M3 = kk := by rw [hM3, m2, if_neg (fun z_ => (Ne.symm e12) (z_.trans hm)), if_neg (by omega)]
      have RP := own_rp Hf (e := (own_e ((100 : Int32) + x0) ((100 : Int32) + x1) ((100 : Int32) + x2) 0)) (n := 3) (k := kk) (a := 2) (by decide) (by simp [own_f] <;> omega) R3
      refine ⟨?_, ?_, fun of hof => ?_⟩
      · rw [hm]; exact (R3 0 (by decide)).2.trans ((congrArg (own_e ((100 : Int32) + x0) ((100 : Int32) + x1) ((100 : Int32) + x2) 0) (show _ = (1 : Int32) from by decide +kernel)).trans (by first | rfl | simp [own_e]))
      · rw [m3]; exact (RP 0 (by decide)).1.trans ((congrArg (own_f y2 y0 kk y1) (show _ = (2 : Int) from by decide +kernel)).trans (by simp [own_f] <;> omega))
      · have o0 : of 0 = ((100 : Int32) + x2) := (hof 0 (by decide)).trans ((own_st_rel Hf (by decide) RP (3 - 1 - 0) (by decide) 0 (by decide)).2.trans ((congrArg (own_e ((100 : Int32) + x0) ((100 : Int32) + x1) ((100 : Int32) + x2) 0) (show _ = (2 : Int32) from by decide +kernel)).trans (by first | rfl | simp [own_e])))
        have o1 : of 1 = ((100 : Int32) + x0) := (hof 1 (by decide)).trans ((own_st_rel Hf (by decide) RP (3 - 1 - 1) (by decide) 0 (by decide)).2.trans ((congrArg (own_e ((100 : Int32) + x0) ((100 : Int32) + x1) ((100 : Int32) + x2) 0) (show _ = (0 : Int32) from by decide +kernel)).trans (by first | rfl | simp [own_e])))
        have o2 : of 2 = ((100 : Int32) + x1) := (hof 2 (by decide)).trans ((own_st_rel Hf (by decide) RP (3 - 1 - 2) (by decide) 0 (by decide)).2.trans ((congrArg (own_e ((100 : Int32) + x0) ((100 : Int32) + x1) ((100 : Int32) + x2) 0) (show _ = (1 : Int32) from by decide +kernel)).trans (by first | rfl | simp [own_e])))
        exact Or.inr (Or.inr (Or.inr (Or.inr (Or.inl ⟨o0, o1, o2, (by rw [if_neg (fun z_ => (Ne.symm e12) (z_.trans hm)), if_neg (fun z_ => e01 (z_.trans hm))]; omega), (by rw [if_neg (fun z_ => e01 (z_.trans hm)), if_pos hm.symm]; omega)⟩))))
    · have Hf := own_fm (v0 := y2) (v1 := y0) (v2 := y1) (v3 := (y1 + 1)) (by omega) (by omega) (by omega)
      have R0 := own_R0 (own_f y2 y0 y1 (y1 + 1)) (own_e ((100 : Int32) + x0) ((100 : Int32) + x1) ((100 : Int32) + x2) 0)
      have R1 := own_ofA Hf (e := (own_e ((100 : Int32) + x0) ((100 : Int32) + x1) ((100 : Int32) + x2) 0)) (n := 0) (a := 1) (b := 0) (k := y0) (j := ((100 : Int32) + x0)) (by simp [own_f]) (by first | rfl | simp [own_e]) R0
      have R2 := own_ofA Hf (e := (own_e ((100 : Int32) + x0) ((100 : Int32) + x1) ((100 : Int32) + x2) 0)) (n := 1) (a := 2) (b := 1) (k := y1) (j := ((100 : Int32) + x1)) (by simp [own_f]) (by first | rfl | simp [own_e]) R1
      have R3 := own_ofA Hf (e := (own_e ((100 : Int32) + x0) ((100 : Int32) + x1) ((100 : Int32) + x2) 0)) (n := 2) (a := 0) (b := 2) (k := y2) (j := ((100 : Int32) + x2)) (by simp [own_f]) (by first | rfl | simp [own_e]) R2
      have hm : mo = x1 := (by rw [hmo, if_pos (p01.mpr (by omega)), if_neg (fun z_ => absurd (p12.mp z_) (by omega))])
      have m1 : M1 = kk := by rw [hM1, if_neg (fun z_ => e01 (z_.trans hm)), if_neg (by omega)]
      have m2 : M2 = kk := by rw [hM2, m1, if_pos hm.symm]
      have m3 : M3 = kk := by rw [hM3, m2, if_neg (fun z_ => (Ne.symm e12) (z_.trans hm)), if_neg (by omega)]
      have RP := own_rp Hf (e := (own_e ((100 : Int32) + x0) ((100 : Int32) + x1) ((100 : Int32) + x2) 0)) (n := 3) (k := kk) (a := 2) (by decide) (by simp [own_f] <;> omega) R3
      refine ⟨?_, ?_, fun of hof => ?_⟩
      · rw [hm]; exact (R3 0 (by decide)).2.trans ((congrArg (own_e ((100 : Int32) + x0) ((100 : Int32) + x1) ((100 : Int32) + x2) 0) (show _ = (1 : Int32) from by decide +kernel)).trans (by first | rfl | simp [own_e]))
      · rw [m3]; exact (RP 0 (by decide)).1.trans ((congrArg (own_f y2 y0 y1 (y1 + 1)) (show _ = (2 : Int) from by decide +kernel)).trans (by simp [own_f] <;> omega))
      · have o0 : of 0 = ((100 : Int32) + x2) := (hof 0 (by decide)).trans ((own_st_rel Hf (by decide) RP (3 - 1 - 0) (by decide) 0 (by decide)).2.trans ((congrArg (own_e ((100 : Int32) + x0) ((100 : Int32) + x1) ((100 : Int32) + x2) 0) (show _ = (2 : Int32) from by decide +kernel)).trans (by first | rfl | simp [own_e])))
        have o1 : of 1 = ((100 : Int32) + x0) := (hof 1 (by decide)).trans ((own_st_rel Hf (by decide) RP (3 - 1 - 1) (by decide) 0 (by decide)).2.trans ((congrArg (own_e ((100 : Int32) + x0) ((100 : Int32) + x1) ((100 : Int32) + x2) 0) (show _ = (0 : Int32) from by decide +kernel)).trans (by first | rfl | simp [own_e])))
        have o2 : of 2 = ((100 : Int32) + x1) := (hof 2 (by decide)).trans ((own_st_rel Hf (by decide) RP (3 - 1 - 2) (by decide) 0 (by decide)).2.trans ((congrArg (own_e ((100 : Int32) + x0) ((100 : Int32) + x1) ((100 : Int32) + x2) 0) (show _ = (1 : Int32) from by decide +kernel)).trans (by first | rfl | simp [own_e])))
        exact Or.inr (Or.inr (Or.inr (Or.inr (Or.inl ⟨o0, o1, o2, (by rw [if_neg (fun z_ => (Ne.symm e12) (z_.trans hm)), if_neg (fun z_ => e01 (z_.trans hm))]; omega), (by rw [if_neg (fun z_ => e01 (z_.trans hm)), if_pos hm.symm]; omega)⟩))))
    · have Hf := own_fm (v0 := y2) (v1 := y0) (v2 := y1) (v3 := kk) (by omega) (by omega) (by omega)
      have R0 := own_R0 (own_f y2 y0 y1 kk) (own_e ((100 : Int32) + x0) ((100 : Int32) + x1) ((100 : Int32) + x2) 0)
      have R1 := own_ofA Hf (e := (own_e ((100 : Int32) + x0) ((100 : Int32) + x1) ((100 : Int32) + x2) 0)) (n := 0) (a := 1) (b := 0) (k := y0) (j := ((100 : Int32) + x0)) (by simp [own_f]) (by first | rfl | simp [own_e]) R0
      have R2 := own_ofA Hf (e := (own_e ((100 : Int32) + x0) ((100 : Int32) + x1) ((100 : Int32) + x2) 0)) (n := 1) (a := 2) (b := 1) (k := y1) (j := ((100 : Int32) + x1)) (by simp [own_f]) (by first | rfl | simp [own_e]) R1
      have R3 := own_ofA Hf (e := (own_e ((100 : Int32) + x0) ((100 : Int32) + x1) ((100 : Int32) + x2) 0)) (n := 2) (a := 0) (b := 2) (k := y2) (j := ((100 : Int32) + x2)) (by simp [own_f]) (by first | rfl | simp [own_e]) R2
      have hm : mo = x1 := (by rw [hmo, if_pos (p01.mpr (by omega)), if_neg (fun z_ => absurd (p12.mp z_) (by omega))])
      have m1 : M1 = kk := by rw [hM1, if_neg (fun z_ => e01 (z_.trans hm)), if_neg (by omega)]
      have m2 : M2 = kk := by rw [hM2, m1, if_pos hm.symm]
      have m3 : M3 = kk := by rw [hM3, m2, if_neg (fun z_ => (Ne.symm e12) (z_.trans hm)), if_neg (by omega)]
      have RP := own_rp Hf (e := (own_e ((100 : Int32) + x0) ((100 : Int32) + x1) ((100 : Int32) + x2) 0)) (n := 3) (k := kk) (a := 3) (by decide) (by simp [own_f] <;> omega) R3
      refine ⟨?_, ?_, fun of hof => ?_⟩
      · rw [hm]; exact (R3 0 (by decide)).2.trans ((congrArg (own_e ((100 : Int32) + x0) ((100 : Int32) + x1) ((100 : Int32) + x2) 0) (show _ = (1 : Int32) from by decide +kernel)).trans (by first | rfl | simp [own_e]))
      · rw [m3]; exact (RP 0 (by decide)).1.trans ((congrArg (own_f y2 y0 y1 kk) (show _ = (3 : Int) from by decide +kernel)).trans (by simp [own_f] <;> omega))
      · have o0 : of 0 = ((100 : Int32) + x2) := (hof 0 (by decide)).trans ((own_st_rel Hf (by decide) RP (3 - 1 - 0) (by decide) 0 (by decide)).2.trans ((congrArg (own_e ((100 : Int32) + x0) ((100 : Int32) + x1) ((100 : Int32) + x2) 0) (show _ = (2 : Int32) from by decide +kernel)).trans (by first | rfl | simp [own_e])))
        have o1 : of 1 = ((100 : Int32) + x0) := (hof 1 (by decide)).trans ((own_st_rel Hf (by decide) RP (3 - 1 - 1) (by decide) 0 (by decide)).2.trans ((congrArg (own_e ((100 : Int32) + x0) ((100 : Int32) + x1) ((100 : Int32) + x2) 0) (show _ = (0 : Int32) from by decide +kernel)).trans (by first | rfl | simp [own_e])))
        have o2 : of 2 = ((100 : Int32) + x1) := (hof 2 (by decide)).trans ((own_st_rel Hf (by decide) RP (3 - 1 - 2) (by decide) 0 (by decide)).2.trans ((congrArg (own_e ((100 : Int32) + x0) ((100 : Int32) + x1) ((100 : Int32) + x2) 0) (show _ = (1 : Int32) from by decide +kernel)).trans (by first | rfl | simp [own_e])))
        exact Or.inr (Or.inr (Or.inr (Or.inr (Or.inl ⟨o0, o1, o2, (by rw [if_neg (fun z_ => (Ne.symm e12) (z_.trans hm)), if_neg (fun z_ => e01 (z_.trans hm))]; omega), (by rw [if_neg (fun z_ => e01 (z_.trans hm)), if_pos hm.symm]; omega)⟩))))
  · have hp : (kk < y2) ∨ (kk = y2) ∨ (y2 < kk ∧ kk < y1) ∨ (kk = y1) ∨ (y1 < kk ∧ kk < y0) ∨ (kk = y0) ∨ (y0 < kk) := by omega
    rcases hp with hk | hk | hk | hk | hk | hk | hk
    · have Hf := own_fm (v0 := kk) (v1 := y2) (v2 := y1) (v3 := y0) (by omega) (by omega) (by omega)
      have R0 := own_R0 (own_f kk y2 y1 y0) (own_e ((100 : Int32) + x0) ((100 : Int32) + x1) ((100 : Int32) + x2) 0)
      have R1 := own_ofA Hf (e := (own_e ((100 : Int32) + x0) ((100 : Int32) + x1) ((100 : Int32) + x2) 0)) (n := 0) (a := 3) (b := 0) (k := y0) (j := ((100 : Int32) + x0)) (by simp [own_f]) (by first | rfl | simp [own_e]) R0
      have R2 := own_ofA Hf (e := (own_e ((100 : Int32) + x0) ((100 : Int32) + x1) ((100 : Int32) + x2) 0)) (n := 1) (a := 2) (b := 1) (k := y1) (j := ((100 : Int32) + x1)) (by simp [own_f]) (by first | rfl | simp [own_e]) R1
      have R3 := own_ofA Hf (e := (own_e ((100 : Int32) + x0) ((100 : Int32) + x1) ((100 : Int32) + x2) 0)) (n := 2) (a := 1) (b := 2) (k := y2) (j := ((100 : Int32) + x2)) (by simp [own_f]) (by first | rfl | simp [own_e]) R2
      have hm : mo = x0 := (by rw [hmo, if_neg (fun z_ => absurd (p01.mp z_) (by omega)), if_neg (fun z_ => absurd (p02.mp z_) (by omega))])
      have m1 : M1 = kk := by rw [hM1, if_pos hm.symm]
      have m2 : M2 = y1 := by rw [hM2, m1, if_neg (fun z_ => (Ne.symm e01) (z_.trans hm)), if_pos (by omega)]
      have m3 : M3 = y1 := by rw [hM3, m2, if_neg (fun z_ => (Ne.symm e02) (z_.trans hm)), if_neg (by omega)]
      have RP := own_rp Hf (e := (own_e ((100 : Int32) + x0) ((100 : Int32) + x1) ((100 : Int32) + x2) 0)) (n := 3) (k := kk) (a := 0) (by decide) (by simp [own_f] <;> omega) R3
      refine ⟨?_, ?_, fun of hof => ?_⟩
      · rw [hm]; exact (R3 0 (by decide)).2.trans ((congrArg (own_e ((100 : Int32) + x0) ((100 : Int32) + x1) ((100 : Int32) + x2) 0) (show _ = (0 : Int32) from by decide +kernel)).trans (by first | rfl | simp [own_e]))
      · rw [m3]; exact (RP 0 (by decide)).1.trans ((congrArg (own_f kk y2 y1 y0) (show _ = (2 : Int) from by decide +kernel)).trans (by simp [own_f] <;> omega))
      · have o0 : of 0 = ((100 : Int32) + x0) := (hof 0 (by decide)).trans ((own_st_rel Hf (by decide) RP (3 - 1 - 0) (by decide) 0 (by decide)).2.trans ((congrArg (own_e ((100 : Int32) + x0) ((100 : Int32) + x1) ((100 : Int32) + x2) 0) (show _ = (0 : Int32) from by decide +kernel)).trans (by first | rfl | simp [own_e])))
        have o1 : of 1 = ((100 : Int32) + x2) := (hof 1 (by decide)).trans ((own_st_rel Hf (by decide) RP (3 - 1 - 1) (by decide) 0 (by decide)).2.trans ((congrArg (own_e ((100 : Int32) + x0) ((100 : Int32) + x1) ((100 : Int32) + x2) 0) (show _ = (2 : Int32) from by decide +kernel)).trans (by first | rfl | simp [own_e])))
        have o2 : of 2 = ((100 : Int32) + x1) := (hof 2 (by decide)).trans ((own_st_rel Hf (by decide) RP (3 - 1 - 2) (by decide) 0 (by decide)).2.trans ((congrArg (own_e ((100 : Int32) + x0) ((100 : Int32) + x1) ((100 : Int32) + x2) 0) (show _ = (1 : Int32) from by decide +kernel)).trans (by first | rfl | simp [own_e])))
        exact Or.inr (Or.inl ⟨o0, o1, o2, (by rw [if_pos hm.symm, if_neg (fun z_ => (Ne.symm e02) (z_.trans hm))]; omega), (by rw [if_neg (fun z_ => (Ne.symm e02) (z_.trans hm)), if_neg (fun z_ => (Ne.symm e01) (z_.trans hm))]; omega)⟩)
    · have Hf := own_fm (v0 := y2) (v1 := y1) (v2 := y0) (v3 := (y0 + 1)) (by omega) (by omega) (by omega)
      have R0 := own_R0 (own_f y2 y1 y0 (y0 + 1)) (own_e ((100 : Int32) + x0) ((100 : Int32) + x1) ((100 : Int32) + x2) 0)
      have R1 := own_ofA Hf (e := (own_e ((100 : Int32) + x0) ((100 : Int32) + x1) ((100 : Int32) + x2) 0)) (n := 0) (a := 2) (b := 0) (k := y0) (j := ((100 : Int32) + x0)) (by simp [own_f]) (by first | rfl | simp [own_e]) R0
      have R2 := own_ofA Hf (e := (own_e ((100 : Int32) + x0) ((100 : Int32) + x1) ((100 : Int32) + x2) 0)) (n := 1) (a := 1) (b := 1) (k := y1) (j := ((100 : Int32) + x1)) (by simp [own_f]) (by first | rfl | simp [own_e]) R1
      have R3 := own_ofA Hf (e := (own_e ((100 : Int32) + x0) ((100 : Int32) + x1) ((100 : Int32) + x2) 0)) (n := 2) (a := 0) (b := 2) (k := y2) (j := ((100 : Int32) + x2)) (by simp [own_f]) (by first | rfl | simp [own_e]) R2
      have hm : mo = x0 := (by rw [hmo, if_neg (fun z_ => absurd (p01.mp z_) (by omega)), if_neg (fun z_ => absurd (p02.mp z_) (by omega))])
      have m1 : M1 = kk := by rw [hM1, if_pos hm.symm]
      have m2 : M2 = y1 := by rw [hM2, m1, if_neg (fun z_ => (Ne.symm e01) (z_.trans hm)), if_pos (by omega)]
      have m3 : M3 = y1 := by rw [hM3, m2, if_neg (fun z_ => (Ne.symm e02) (z_.trans hm)), if_neg (by omega)]
      have RP := own_rp Hf (e := (own_e ((100 : Int32) + x0) ((100 : Int32) + x1) ((100 : Int32) + x2) 0)) (n := 3) (k := kk) (a := 0) (by decide) (by simp [own_f] <;> omega) R3
      refine ⟨?_, ?_, fun of hof => ?_⟩
      · rw [hm]; exact (R3 0 (by decide)).2.trans ((congrArg (own_e ((100 : Int32) + x0) ((100 : Int32) + x1) ((100 : Int32) + x2) 0) (show _ = (0 : Int32) from by decide +kernel)).trans (by first | rfl | simp [own_e]))
      · rw [m3]; exact (RP 0 (by decide)).1.trans ((congrArg (own_f y2 y1 y0 (y0 + 1)) (show _ = (1 : Int) from by decide +kernel)).trans (by simp [own_f] <;> omega))
      · have o0 : of 0 = ((100 : Int32) + x0) := (hof 0 (by decide)).trans ((own_st_rel Hf (by decide) RP (3 - 1 - 0) (by decide) 0 (by decide)).2.trans ((congrArg (own_e ((100 : Int32) + x0) ((100 : Int32) + x1) ((100 : Int32) + x2) 0) (show _ = (0 : Int32) from by decide +kernel)).trans (by first | rfl | simp [own_e])))
        have o1 : of 1 = ((100 : Int32) + x2) := (hof 1 (by decide)).trans ((own_st_rel Hf (by decide) RP (3 - 1 - 1) (by decide) 0 (by decide)).2.trans ((congrArg (own_e ((100 : Int32) + x0) ((100 : Int32) + x1) ((100 : Int32) + x2) 0) (show _ = (2 : Int32) from by decide +kernel)).trans (by first | rfl | simp [own_e])))
        have o2 : of 2 = ((100 : Int32) + x1) := (hof 2 (by decide)).trans ((own_st_rel Hf (by decide) RP (3 - 1 - 2) (by decide) 0 (by decide)).2.trans ((congrArg (own_e ((100 : Int32) + x0) ((100 : Int32) + x1) ((100 : Int32) + x2) 0) (show _ = (1 : Int32) from by decide +kernel)).trans (by first | rfl | simp [own_e])))
        exact Or.inr (Or.inl ⟨o0, o1, o2, (by rw [if_pos hm.symm, if_neg (fun z_ => (Ne.symm e02) (z_.trans hm))]; omega), (by rw [if_neg (fun z_ => (Ne.symm e02) (z_.trans hm)), if_neg (fun z_ => (Ne.symm e01) (z_.trans hm))]; omega)⟩)
    · have Hf := own_fm (v0 := y2) (v1 := kk) (v2 := y1) (v3 := y0) (by omega) (by omega) (by omega)
      have R0 := own_R0 (own_f y2 kk y1 y0) (own_e ((100 : Int32) + x0) ((100 : Int32) + x1) ((100 : Int32) + x2) 0)
      have R1 := own_ofA Hf (e := (own_e ((100 : Int32) + x0) ((100 : Int32) + x1) ((100 : Int32) + x2) 0)) (n := 0) (a := 3) (b := 0) (k := y0) (j := ((100 : Int32) + x0)) (by simp [own_f]) (by first | rfl | simp [own_e]) R0
      have R2 := own_ofA Hf (e := (own_e ((100 : Int32) + x0) ((100 : Int32) + x1) ((100 : Int32) + x2) 0)) (n := 1) (a := 2) (b := 1) (k := y1) (j := ((100 : Int32) + x1)) (by simp [own_f]) (by first | rfl | simp [own_e]) R1
      have R3 := own_ofA Hf (e := (own_e ((100 : Int32) + x0) ((100 : Int32) + x1) ((100 : Int32) + x2) 0)) (n := 2) (a := 0) (b := 2) (k := y2) (j := ((100 : Int32) + x2)) (by simp [own_f]) (by first | rfl | simp [own_e]) R2
      have hm : mo = x0 := (by rw [hmo, if_neg (fun z_ => absurd (p01.mp z_) (by omega)), if_neg (fun z_ => absurd (p02.mp z_) (by omega))])
      have m1 : M1 = kk := by rw [hM1, if_pos hm.symm]
      have m2 : M2 = y1 := by rw [hM2, m1, if_neg (fun z_ => (Ne.symm e01) (z_.trans hm)), if_pos (by omega)]
      have m3 : M3 = y1 := by rw [hM3, m2, if_neg (fun z_ => (Ne.symm e02) (z_.trans hm)), if_neg (by omega)]
      have RP := own_rp Hf (e := (own_e ((100 : Int32) + x0) ((100 : Int32) + x1) ((100 : Int32) + x2) 0)) (n := 3) (k := kk) (a := 1) (by decide) (by simp [own_f] <;> omega) R3
      refine ⟨?_, ?_, fun of hof => ?_⟩
      · rw [hm]; exact (R3 0 (by decide)).2.trans ((congrArg (own_e ((100 : Int32) + x0) ((100 : Int32) + x1) ((100 : Int32) + x2) 0) (show _ = (0 : Int32) from by decide +kernel)).trans (by first | rfl | simp [own_e]))
      · rw [m3]; exact (RP 0 (by decide)).1.trans ((congrArg (own_f y2 kk y1 y0) (show _ = (2 : Int) from by decide +kernel)).trans (by simp [own_f] <;> omega))
      · have o0 : of 0 = ((100 : Int32) + x2) := (hof 0 (by decide)).trans ((own_st_rel Hf (by decide) RP (3 - 1 - 0) (by decide) 0 (by decide)).2.trans ((congrArg (own_e ((100 : Int32) + x0) ((100 : Int32) + x1) ((100 : Int32) + x2) 0) (show _ = (2 : Int32) from by decide +kernel)).trans (by first | rfl | simp [own_e])))
        have o1 : of 1 = ((100 : Int32) + x0) := (hof 1 (by decide)).trans ((own_st_rel Hf (by decide) RP (3 - 1 - 1) (by decide) 0 (by decide)).2.trans ((congrArg (own_e ((100 : Int32) + x0) ((100 : Int32) + x1) ((100 : Int32) + x2) 0) (show _ = (0 : Int32) from by decide +kernel)).trans (by first | rfl | simp [own_e])))
        have o2 : of 2 = ((100 : Int32) + x1) := (hof 2 (by decide)).trans ((own_st_rel Hf (by decide) RP (3 - 1 - 2) (by decide) 0 (by decide)).2.trans ((congrArg (own_e ((100 : Int32) + x0) ((100 : Int32) + x1) ((100 : Int32) + x2) 0) (show _ = (1 : Int32) from by decide +kernel)).trans (by first | rfl | simp [own_e])))
        exact Or.inr (Or.inr (Or.inr (Or.inr (Or.inl ⟨o0, o1, o2, (by rw [if_neg (fun z_ => (Ne.symm e02) (z_.trans hm)), if_pos hm.symm]; omega), (by rw [if_pos hm.symm, if_neg (fun z_ => (Ne.symm e01) (z_.trans hm))]; omega)⟩))))
    · have Hf := own_fm (v0 := y2) (v1 := y1) (v2 := y0) (v3 := (y0 + 1)) (by omega) (by omega) (by omega)
      have R0 := own_R0 (own_f y2 y1 y0 (y0 + 1)) (own_e ((100 : Int32) + x0) ((100 : Int32) + x1) ((100 : Int32) + x2) 0)
      have R1 := own_ofA Hf (e := (own_e ((100 : Int32) + x0) ((100 : Int32) + x1) ((100 : Int32) + x2) 0)) (n := 0) (a := 2) (b := 0) (k := y0) (j := ((100 : Int32) + x0)) (by simp [own_f]) (by first | rfl | simp [own_e]) R0
      have R2 := own_ofA Hf (e := (own_e ((100 : Int32) + x0) ((100 : Int32) + x1) ((100 : Int32) + x2) 0)) (n := 1) (a := 1) (b := 1) (k := y1) (j := ((100 : Int32) + x1)) (by simp [own_f]) (by first | rfl | simp [own_e]) R1
      have R3 := own_ofA Hf (e := (own_e ((100 : Int32) + x0) ((100 : Int32) + x1) ((100 : Int32) + x2) 0)) (n := 2) (a := 0) (b := 2) (k := y2) (j := ((100 : Int32) + x2)) (by simp [own_f]) (by first | rfl | simp [own_e]) R2
      have hm : mo = x0 := (by rw [hmo, if_neg (fun z_ => absurd (p01.mp z_) (by omega)), if_neg (fun z_ => absurd (p02.mp z_) (by omega))])
      have m1 : M1 = kk := by rw [hM1, if_pos hm.symm]
      have m2 : M2 = kk := by rw [hM2, m1, if_neg (fun z_ => (Ne.symm e01) (z_.trans hm)), if_neg (by omega)]
      have m3 : M3 = kk := by rw [hM3, m2, if_neg (fun z_ => (Ne.symm e02) (z_.trans hm)), if_neg (by omega)]
      have RP := own_rp Hf (e := (own_e ((100 : Int32) + x0) ((100 : Int32) + x1) ((100 : Int32) + x2) 0)) (n := 3) (k := kk) (a := 1) (by decide) (by simp [own_f] <;> omega) R3
      refine ⟨?_, ?_, fun of hof => ?_⟩
      · rw [hm]; exact (R3 0 (by decide)).2.trans ((congrArg (own_e ((100 : Int32) + x0) ((100 : Int32) + x1) ((100 : Int32) + x2) 0) (show _ = (0 : Int32) from by decide +kernel)).trans (by first | rfl | simp [own_e]))
      · rw [m3]; exact (RP 0 (by decide)).1.trans ((congrArg (own_f y2 y1 y0 (y0 + 1)) (show _ = (1 : Int) from by decide +kernel)).trans (by simp [own_f] <;> omega))
      · have o0 : of 0 = ((100 : Int32) + x2) := (hof 0 (by decide)).trans ((own_st_rel Hf (by decide) RP (3 - 1 - 0) (by decide) 0 (by decide)).2.trans ((congrArg (own_e ((100 : Int32) + x0) ((100 : Int32) + x1) ((100 : Int32) + x2) 0) (show _ = (2 : Int32) from by decide +kernel)).trans (by first | rfl | simp [own_e])))
        have o1 : of 1 = ((100 : Int32) + x1) := (hof 1 (by decide)).trans ((own_st_rel Hf (by decide) RP (3 - 1 - 1) (by decide) 0 (by decide)).2.trans ((congrArg (own_e ((100 : Int32) + x0) ((100 : Int32) + x1) ((100 : Int32) + x2) 0) (show _ = (1 : Int32) from by decide +kernel)).trans (by first | rfl | simp [own_e])))
        have o2 : of 2 = ((100 : Int32) + x0) := (hof 2 (by decide)).trans ((own_st_rel Hf (by decide) RP (3 - 1 - 2) (by decide) 0 (by decide)).2.trans ((congrArg (own_e ((100 : Int32) + x0) ((100 : Int32) + x1) ((100 : Int32) + x2) 0) (show _ = (0 : Int32) from by decide +kernel)).trans (by first | rfl | simp [own_e])))
        exact Or.inr (Or.inr (Or.inr (Or.inr (Or.inr (⟨o0, o1, o2, (by rw [if_neg (fun z_ => (Ne.symm e02) (z_.trans hm)), if_neg (fun z_ => (Ne.symm e01) (z_.trans hm))]; omega), (by rw [if_neg (fun z_ => (Ne.symm e01) (z_.trans hm)), if_pos hm.symm]; omega)⟩)))))
    · have Hf := own_fm (v0 := y2) (v1 := y1) (v2 := kk) (v3 := y0) (by omega) (by omega) (by omega)
      have R0 := own_R0 (own_f y2 y1 kk y0) (own_e ((100 : Int32) + x0) ((100 : Int32) + x1) ((100 : Int32) + x2) 0)
      have R1 := own_ofA Hf (e := (own_e ((100 : Int32) + x0) ((100 : Int32) + x1) ((100 : Int32) + x2) 0)) (n := 0) (a := 3) (b := 0) (k := y0) (j := ((100 : Int32) + x0)) (by simp [own_f]) (by first | rfl | simp [own_e]) R0
      have R2 := own_ofA Hf (e := (own_e ((100 : Int32) + x0) ((100 : Int32) + x1) ((100 : Int32) + x2) 0)) (n := 1) (a := 1) (b := 1) (k := y1) (j := ((100 : Int32) + x1)) (by simp [own_f]) (by first | rfl | simp [own_e]) R1
      have R3 := own_ofA Hf (e := (own_e ((100 : Int32) + x0) ((100 : Int32) + x1) ((100 : Int32) + x2) 0)) (n := 2) (a := 0) (b := 2) (k := y2) (j := ((100 : Int32) + x2)) (by simp [own_f]) (by first | rfl | simp [own_e]) R2
      have hm : mo = x0 := (by rw [hmo, if_neg (fun z_ => absurd (p01.mp z_) (by omega)), if_neg (fun z_ => absurd (p02.mp z_) (by omega))])
      have m1 : M1 = kk := by rw [hM1, if_pos hm.symm]
      have m2 : M2 = kk := by rw [hM2, m1, if_neg (fun z_ => (Ne.symm e01) (z_.trans hm)), if_neg (by omega)]
      have m3 : M3 = kk := by rw [hM3, m2, if_neg (fun z_ => (Ne.symm e02) (z_.trans hm)), if_neg (by omega)]
      have RP := own_rp Hf (e := (own_e ((100 : Int32) + x0) ((100 : Int32) + x1) ((100 : Int32) + x2) 0)) (n := 3) (k := kk) (a := 2) (by decide) (by simp [own_f] <;> omega) R3
      refine ⟨?_, ?_, fun of hof => ?_⟩
      · rw [hm]; exact (R3 0 (by decide)).2.trans ((congrArg (own_e ((100 : Int32) + x0) ((100 : Int32) + x1) ((100 : Int32) + x2) 0) (show _ = (0 : Int32) from by decide +kernel)).trans (by first | rfl | simp [own_e]))
      · rw [m3]; exact (RP 0 (by decide)).1.trans ((congrArg (own_f y2 y1 kk y0) (show _ = (2 : Int) from by decide +kernel)).trans (by simp [own_f] <;> omega))
      · have o0 : of 0 = ((100 : Int32) + x2) := (hof 0 (by decide)).trans ((own_st_rel Hf (by decide) RP (3 - 1 - 0) (by decide) 0 (by decide)).2.trans ((congrArg (own_e ((100 : Int32) + x0) ((100 : Int32) + x1) ((100 : Int32) + x2) 0) (show _ = (2 : Int32) from by decide +kernel)).trans (by first | rfl | simp [own_e])))
        have o1 : of 1 = ((100 : Int32) + x1) := (hof 1 (by decide)).trans ((own_st_rel Hf (by decide) RP (3 - 1 - 1) (by decide) 0 (by decide)).2.trans ((congrArg (own_e ((100 : Int32) + x0) ((100 : Int32) + x1) ((100 : Int32) + x2) 0) (show _ = (1 : Int32) from by decide +kernel)).trans (by first | rfl | simp [own_e])))
        have o2 : of 2 = ((100 : Int32) + x0) := (hof 2 (by decide)).trans ((own_st_rel Hf (by decide) RP (3 - 1 - 2) (by decide) 0 (by decide)).2.trans ((congrArg (own_e ((100 : Int32) + x0) ((100 : Int32) + x1) ((100 : Int32) + x2) 0) (show _ = (0 : Int32) from by decide +kernel)).trans (by first | rfl | simp [own_e])))
        exact Or.inr (Or.inr (Or.inr (Or.inr (Or.inr (⟨o0, o1, o2, (by rw [if_neg (fun z_ => (Ne.symm e02) (z_.trans hm)), if_neg (fun z_ => (Ne.symm e01) (z_.trans hm))]; omega), (by rw [if_neg (fun z_ => (Ne.symm e01) (z_.trans hm)), if_pos hm.symm]; omega)⟩)))))
    · have Hf := own_fm (v0 := y2) (v1 := y1) (v2 := y0) (v3 := (y0 + 1)) (by omega) (by omega) (by omega)
      have R0 := own_R0 (own_f y2 y1 y0 (y0 + 1)) (own_e ((100 : Int32) + x0) ((100 : Int32) + x1) ((100 : Int32) + x2) 0)
      have R1 := own_ofA Hf (e := (own_e ((100 : Int32) + x0) ((100 : Int32) + x1) ((100 : Int32) + x2) 0)) (n := 0) (a := 2) (b := 0) (k := y0) (j := ((100 : Int32) + x0)) (by simp [own_f]) (by first | rfl | simp [own_e]) R0
      have R2 := own_ofA Hf (e := (own_e ((100 : Int32) + x0) ((100 : Int32) + x1) ((100 : Int32) + x2) 0)) (n := 1) (a := 1) (b := 1) (k := y1) (j := ((100 : Int32) + x1)) (by simp [own_f]) (by first | rfl | simp [own_e]) R1
      have R3 := own_ofA Hf (e := (own_e ((100 : Int32) + x0) ((100 : Int32) + x1) ((100 : Int32) + x2) 0)) (n := 2) (a := 0) (b := 2) (k := y2) (j := ((100 : Int32) + x2)) (by simp [own_f]) (by first | rfl | simp [own_e]) R2
      have hm : mo = x0 := (by rw [hmo, if_neg (fun z_ => absurd (p01.mp z_) (by omega)), if_neg (fun z_ => absurd (p02.mp z_) (by omega))])
      have m1 : M1 = kk := by rw [hM1, if_pos hm.symm]
      have m2 : M2 = kk := by rw [hM2, m1, if_neg (fun z_ => (Ne.symm e01) (z_.trans hm)), if_neg (by omega)]
      have m3 : M3 = kk := by rw [hM3, m2, if_neg (fun z_ => (Ne.symm e02) (z_.trans hm)), if_neg (by omega)]
      have RP := own_rp Hf (e := (own_e ((100 : Int32) + x0) ((100 : Int32) + x1) ((100 : Int32) + x2) 0)) (n := 3) (k := kk) (a := 2) (by decide) (by simp [own_f] <;> omega) R3
      refine ⟨?_, ?_, fun of hof => ?_⟩
      · rw [hm]; exact (R3 0 (by decide)).2.trans ((congrArg (own_e ((100 : Int32) + x0) ((100 : Int32) + x1) ((100 : Int32) + x2) 0) (show _ = (0 : Int32) from by decide +kernel)).trans (by first | rfl | simp [own_e]))
      · rw [m3]; exact (RP 0 (by decide)).1.trans ((congrArg (own_f y2 y1 y0 (y0 + 1)) (show _ = (2 : Int) from by decide +kernel)).trans (by simp [own_f] <;> omega))
      · have o0 : of 0 = ((100 : Int32) + x2) := (hof 0 (by decide)).trans ((own_st_rel Hf (by decide) RP (3 - 1 - 0) (by decide) 0 (by decide)).2.trans ((congrArg (own_e ((100 : Int32) + x0) ((100 : Int32) + x1) ((100 : Int32) + x2) 0) (show _ = (2 : Int32) from by decide +kernel)).trans (by first | rfl | simp [own_e])))
        have o1 : of 1 = ((100 : Int32) + x1) := (hof 1 (by decide)).trans ((own_st_rel Hf (by decide) RP (3 - 1 - 1) (by decide) 0 (by decide)).2.trans ((congrArg (own_e ((100 : Int32) + x0) ((100 : Int32) + x1) ((100 : Int32) + x2) 0) (show _ = (1 : Int32) from by decide +kernel)).trans (by first | rfl | simp [own_e])))
        have o2 : of 2 = ((100 : Int32) + x0) := (hof 2 (by decide)).trans ((own_st_rel Hf (by decide) RP (3 - 1 - 2) (by decide) 0 (by decide)).2.trans ((congrArg (own_e ((100 : Int32) + x0) ((100 : Int32) + x1) ((100 : Int32) + x2) 0) (show _ = (0 : Int32) from by decide +kernel)).trans (by first | rfl | simp [own_e])))
        exact Or.inr (Or.inr (Or.inr (Or.inr (Or.inr (⟨o0, o1, o2, (by rw [if_neg (fun z_ => (Ne.symm e02) (z_.trans hm)), if_neg (fun z_ => (Ne.symm e01) (z_.trans hm))]; omega), (by rw [if_neg (fun z_ => (Ne.symm e01) (z_.trans hm)), if_pos hm.symm]; omega)⟩)))))
    · have Hf := own_fm (v0 := y2) (v1 := y1) (v2 := y0) (v3 := kk) (by omega) (by omega) (by omega)
      have R0 := own_R0 (own_f y2 y1 y0 kk) (own_e ((100 : Int32) + x0) ((100 : Int32) + x1) ((100 : Int32) + x2) 0)
      have R1 := own_ofA Hf (e := (own_e ((100 : Int32) + x0) ((100 : Int32) + x1) ((100 : Int32) + x2) 0)) (n := 0) (a := 2) (b := 0) (k := y0) (j := ((100 : Int32) + x0)) (by simp [own_f]) (by first | rfl | simp [own_e]) R0
      have R2 := own_ofA Hf (e := (own_e ((100 : Int32) + x0) ((100 : Int32) + x1) ((100 : Int32) + x2) 0)) (n := 1) (a := 1) (b := 1) (k := y1) (j := ((100 : Int32) + x1)) (by simp [own_f]) (by first | rfl | simp [own_e]) R1
      have R3 := own_ofA Hf (e := (own_e ((100 : Int32) + x0) ((100 : Int32) + x1) ((100 : Int32) + x2) 0)) (n := 2) (a := 0) (b := 2) (k := y2) (j := ((100 : Int32) + x2)) (by simp [own_f]) (by first | rfl | simp [own_e]) R2
      have hm : mo = x0 := (by rw [hmo, if_neg (fun z_ => absurd (p01.mp z_) (by omega)), if_neg (fun z_ => absurd (p02.mp z_) (by omega))])
      have m1 : M1 = kk := by rw [hM1, if_pos hm.symm]
      have m2 : M2 = kk := by rw [hM2, m1, if_neg (fun z_ => (Ne.symm e01) (z_.trans hm)), if_neg (by omega)]
      have m3 : M3 = kk := by rw [hM3, m2, if_neg (fun z_ => (Ne.symm e02) (z_.trans hm)), if_neg (by omega)]
      have RP := own_rp Hf (e := (own_e ((100 : Int32) + x0) ((100 : Int32) + x1) ((100 : Int32) + x2) 0)) (n := 3) (k := kk) (a := 3) (by decide) (by simp [own_f] <;> omega) R3
      refine ⟨?_, ?_, fun of hof => ?_⟩
      · rw [hm]; exact (R3 0 (by decide)).2.trans ((congrArg (own_e ((100 : Int32) + x0) ((100 : Int32) + x1) ((100 : Int32) + x2) 0) (show _ = (0 : Int32) from by decide +kernel)).trans (by first | rfl | simp [own_e]))
      · rw [m3]; exact (RP 0 (by decide)).1.trans ((congrArg (own_f y2 y1 y0 kk) (show _ = (3 : Int) from by decide +kernel)).trans (by simp [own_f] <;> omega))
      · have o0 : of 0 = ((100 : Int32) + x2) := (hof 0 (by decide)).trans ((own_st_rel Hf (by decide) RP (3 - 1 - 0) (by decide) 0 (by decide)).2.trans ((congrArg (own_e ((100 : Int32) + x0) ((100 : Int32) + x1) ((100 : Int32) + x2) 0) (show _ = (2 : Int32) from by decide +kernel)).trans (by first | rfl | simp [own_e])))
        have o1 : of 1 = ((100 : Int32) + x1) := (hof 1 (by decide)).trans ((own_st_rel Hf (by decide) RP (3 - 1 - 1) (by decide) 0 (by decide)).2.trans ((congrArg (own_e ((100 : Int32) + x0) ((100 : Int32) + x1) ((100 : Int32) + x2) 0) (show _ = (1 : Int32) from by decide +kernel)).trans (by first | rfl | simp [own_e])))
        have o2 : of 2 = ((100 : Int32) + x0) := (hof 2 (by decide)).trans ((own_st_rel Hf (by decide) RP (3 - 1 - 2) (by decide) 0 (by decide)).2.trans ((congrArg (own_e ((100 : Int32) + x0) ((100 : Int32) + x1) ((100 : Int32) + x2) 0) (show _ = (0 : Int32) from by decide +kernel)).trans (by first | rfl | simp [own_e])))
        exact Or.inr (Or.inr (Or.inr (Or.inr (Or.inr (⟨o0, o1, o2, (by rw [if_neg (fun z_ => (Ne.symm e02) (z_.trans hm)), if_neg (fun z_ => (Ne.symm e01) (z_.trans hm))]; omega), (by rw [if_neg (fun z_ => (Ne.symm e01) (z_.trans hm)), if_pos hm.symm]; omega)⟩)))))
theorem tw0 {a0 : Array Value} {Z : State} (hw : ∀ d ∈ tables_1, d.before a0 Z = true) : (Jvm.Cond.arrayClass Jvm.ClassFile.FieldType.double).before a0 Z = true := hw _ (List.mem_of_getElem? (i := 0) rfl)
theorem tw1 {a0 : Array Value} {Z : State} (hw : ∀ d ∈ tables_1, d.before a0 Z = true) : (Jvm.Cond.constant "com/example/urnwise/urnwise/sampler/SmallestKeysReplaceLargestKeyPinLaw" (7 : Nat) (2147483647 : Int32)).before a0 Z = true := hw _ (List.mem_of_getElem? (i := 1) rfl)
theorem tw2 {a0 : Array Value} {Z : State} (hw : ∀ d ∈ tables_1, d.before a0 Z = true) : (Jvm.Cond.arrayClass Jvm.ClassFile.FieldType.int).before a0 Z = true := hw _ (List.mem_of_getElem? (i := 2) rfl)
theorem tw3 {a0 : Array Value} {Z : State} (hw : ∀ d ∈ tables_1, d.before a0 Z = true) : (Jvm.Cond.classLink "com/example/urnwise/urnwise/sampler/SmallestKeysReplaceLargestKeyPinLaw" (8 : Nat) "com/example/urnwise/urnwise/sampler/SmallestKeys").before a0 Z = true := hw _ (List.mem_of_getElem? (i := 3) rfl)
theorem tw4 {a0 : Array Value} {Z : State} (hw : ∀ d ∈ tables_1, d.before a0 Z = true) : (Jvm.Cond.instantiable "com/example/urnwise/urnwise/sampler/SmallestKeys" (4 : Nat)).before a0 Z = true := hw _ (List.mem_of_getElem? (i := 4) rfl)
theorem tw5 {a0 : Array Value} {Z : State} (hw : ∀ d ∈ tables_1, d.before a0 Z = true) : (Jvm.Cond.initialized "com/example/urnwise/urnwise/sampler/SmallestKeys").before a0 Z = true := hw _ (List.mem_of_getElem? (i := 5) rfl)
theorem tw6 {a0 : Array Value} {Z : State} (hw : ∀ d ∈ tables_1, d.before a0 Z = true) : (Jvm.Cond.methodLink "com/example/urnwise/urnwise/sampler/SmallestKeysReplaceLargestKeyPinLaw" (10 : Nat) ({ cls := "com/example/urnwise/urnwise/sampler/SmallestKeys", name := "<init>", desc := "(I)V" } : Jvm.MethodName)).before a0 Z = true := hw _ (List.mem_of_getElem? (i := 6) rfl)
theorem tw7 {a0 : Array Value} {Z : State} (hw : ∀ d ∈ tables_1, d.before a0 Z = true) : (Jvm.Cond.instanceMethod ({ cls := "com/example/urnwise/urnwise/sampler/SmallestKeys", name := "<init>", desc := "(I)V" } : Jvm.MethodName)).before a0 Z = true := hw _ (List.mem_of_getElem? (i := 7) rfl)
theorem tw8 {a0 : Array Value} {Z : State} (hw : ∀ d ∈ tables_1, d.before a0 Z = true) : (Jvm.Cond.code ({ cls := "com/example/urnwise/urnwise/sampler/SmallestKeys", name := "<init>", desc := "(I)V" } : Jvm.MethodName) prog_15_method_1_code (2 : Nat) (Option.none : Option Jvm.ClassFile.FieldType)).before a0 Z = true := hw _ (List.mem_of_getElem? (i := 8) rfl)
theorem tw9 {a0 : Array Value} {Z : State} (hw : ∀ d ∈ tables_1, d.before a0 Z = true) : (Jvm.Cond.methodLink "com/example/urnwise/urnwise/sampler/SmallestKeys" (1 : Nat) ({ cls := "java/lang/Object", name := "<init>", desc := "()V" } : Jvm.MethodName)).before a0 Z = true := hw _ (List.mem_of_getElem? (i := 9) rfl)
theorem tw10 {a0 : Array Value} {Z : State} (hw : ∀ d ∈ tables_1, d.before a0 Z = true) : (Jvm.Cond.instanceMethod ({ cls := "java/lang/Object", name := "<init>", desc := "()V" } : Jvm.MethodName)).before a0 Z = true := hw _ (List.mem_of_getElem? (i := 10) rfl)
theorem tw11 {a0 : Array Value} {Z : State} (hw : ∀ d ∈ tables_1, d.before a0 Z = true) : (Jvm.Cond.code ({ cls := "java/lang/Object", name := "<init>", desc := "()V" } : Jvm.MethodName) object_method_1_code (1 : Nat) (Option.none : Option Jvm.ClassFile.FieldType)).before a0 Z = true := hw _ (List.mem_of_getElem? (i := 11) rfl)
theorem tw12 {a0 : Array Value} {Z : State} (hw : ∀ d ∈ tables_1, d.before a0 Z = true) : (Jvm.Cond.fieldLink "com/example/urnwise/urnwise/sampler/SmallestKeys" (7 : Nat) "com/example/urnwise/urnwise/sampler/SmallestKeys" "capacity" "I").before a0 Z = true := hw _ (List.mem_of_getElem? (i := 12) rfl)
theorem tw13 {a0 : Array Value} {Z : State} (hw : ∀ d ∈ tables_1, d.before a0 Z = true) : (Jvm.Cond.laysFinal "com/example/urnwise/urnwise/sampler/SmallestKeys" "com/example/urnwise/urnwise/sampler/SmallestKeys" "capacity" "I").before a0 Z = true := hw _ (List.mem_of_getElem? (i := 13) rfl)
theorem tw14 {a0 : Array Value} {Z : State} (hw : ∀ d ∈ tables_1, d.before a0 Z = true) : (Jvm.Cond.methodLink "com/example/urnwise/urnwise/sampler/SmallestKeys" (13 : Nat) ({ cls := "java/lang/Math", name := "min", desc := "(II)I" } : Jvm.MethodName)).before a0 Z = true := hw _ (List.mem_of_getElem? (i := 14) rfl)
theorem tw15 {a0 : Array Value} {Z : State} (hw : ∀ d ∈ tables_1, d.before a0 Z = true) : (Jvm.Cond.static ({ cls := "java/lang/Math", name := "min", desc := "(II)I" } : Jvm.MethodName)).before a0 Z = true := hw _ (List.mem_of_getElem? (i := 15) rfl)
theorem tw16 {a0 : Array Value} {Z : State} (hw : ∀ d ∈ tables_1, d.before a0 Z = true) : (Jvm.Cond.initialized "java/lang/Math").before a0 Z = true := hw _ (List.mem_of_getElem? (i := 16) rfl)
theorem tw17 {a0 : Array Value} {Z : State} (hw : ∀ d ∈ tables_1, d.before a0 Z = true) : (Jvm.Cond.code ({ cls := "java/lang/Math", name := "min", desc := "(II)I" } : Jvm.MethodName) jdk_29_method_69_code (2 : Nat) (Option.some Jvm.ClassFile.FieldType.int)).before a0 Z = true := hw _ (List.mem_of_getElem? (i := 17) rfl)
theorem tw18 {a0 : Array Value} {Z : State} (hw : ∀ d ∈ tables_1, d.before a0 Z = true) : (Jvm.Cond.fieldLink "com/example/urnwise/urnwise/sampler/SmallestKeys" (19 : Nat) "com/example/urnwise/urnwise/sampler/SmallestKeys" "keys" "[D").before a0 Z = true := hw _ (List.mem_of_getElem? (i := 18) rfl)
theorem tw19 {a0 : Array Value} {Z : State} (hw : ∀ d ∈ tables_1, d.before a0 Z = true) : (Jvm.Cond.lays "com/example/urnwise/urnwise/sampler/SmallestKeys" "com/example/urnwise/urnwise/sampler/SmallestKeys" "keys" "[D").before a0 Z = true := hw _ (List.mem_of_getElem? (i := 19) rfl)
theorem tw20 {a0 : Array Value} {Z : State} (hw : ∀ d ∈ tables_1, d.before a0 Z = true) : (Jvm.Cond.fieldLink "com/example/urnwise/urnwise/sampler/SmallestKeys" (23 : Nat) "com/example/urnwise/urnwise/sampler/SmallestKeys" "indices" "[I").before a0 Z = true := hw _ (List.mem_of_getElem? (i := 20) rfl)
theorem tw21 {a0 : Array Value} {Z : State} (hw : ∀ d ∈ tables_1, d.before a0 Z = true) : (Jvm.Cond.lays "com/example/urnwise/urnwise/sampler/SmallestKeys" "com/example/urnwise/urnwise/sampler/SmallestKeys" "indices" "[I").before a0 Z = true := hw _ (List.mem_of_getElem? (i := 21) rfl)
theorem tw22 {a0 : Array Value} {Z : State} (hw : ∀ d ∈ tables_1, d.before a0 Z = true) : (Jvm.Cond.methodLink "com/example/urnwise/urnwise/sampler/SmallestKeysReplaceLargestKeyPinLaw" (13 : Nat) ({ cls := "com/example/urnwise/urnwise/sampler/SmallestKeys", name := "offer", desc := "(DI)V" } : Jvm.MethodName)).before a0 Z = true := hw _ (List.mem_of_getElem? (i := 22) rfl)
theorem tw23 {a0 : Array Value} {Z : State} (hw : ∀ d ∈ tables_1, d.before a0 Z = true) : (Jvm.Cond.declares ({ cls := "com/example/urnwise/urnwise/sampler/SmallestKeys", name := "offer", desc := "(DI)V" } : Jvm.MethodName)).before a0 Z = true := hw _ (List.mem_of_getElem? (i := 23) rfl)
theorem tw24 {a0 : Array Value} {Z : State} (hw : ∀ d ∈ tables_1, d.before a0 Z = true) : (Jvm.Cond.instanceMethod ({ cls := "com/example/urnwise/urnwise/sampler/SmallestKeys", name := "offer", desc := "(DI)V" } : Jvm.MethodName)).before a0 Z = true := hw _ (List.mem_of_getElem? (i := 24) rfl)
theorem tw25 {a0 : Array Value} {Z : State} (hw : ∀ d ∈ tables_1, d.before a0 Z = true) : (Jvm.Cond.selects "com/example/urnwise/urnwise/sampler/SmallestKeys" ({ cls := "com/example/urnwise/urnwise/sampler/SmallestKeys", name := "offer", desc := "(DI)V" } : Jvm.MethodName) ({ cls := "com/example/urnwise/urnwise/sampler/SmallestKeys", name := "offer", desc := "(DI)V" } : Jvm.MethodName)).before a0 Z = true := hw _ (List.mem_of_getElem? (i := 25) rfl)
theorem tw26 {a0 : Array Value} {Z : State} (hw : ∀ d ∈ tables_1, d.before a0 Z = true) : (Jvm.Cond.code ({ cls := "com/example/urnwise/urnwise/sampler/SmallestKeys", name := "offer", desc := "(DI)V" } : Jvm.MethodName) prog_15_method_2_code (4 : Nat) (Option.none : Option Jvm.ClassFile.FieldType)).before a0 Z = true := hw _ (List.mem_of_getElem? (i := 26) rfl)
theorem tw27 {a0 : Array Value} {Z : State} (hw : ∀ d ∈ tables_1, d.before a0 Z = true) : (Jvm.Cond.fieldLink "com/example/urnwise/urnwise/sampler/SmallestKeys" (27 : Nat) "com/example/urnwise/urnwise/sampler/SmallestKeys" "size" "I").before a0 Z = true := hw _ (List.mem_of_getElem? (i := 27) rfl)
theorem tw28 {a0 : Array Value} {Z : State} (hw : ∀ d ∈ tables_1, d.before a0 Z = true) : (Jvm.Cond.lays "com/example/urnwise/urnwise/sampler/SmallestKeys" "com/example/urnwise/urnwise/sampler/SmallestKeys" "size" "I").before a0 Z = true := hw _ (List.mem_of_getElem? (i := 28) rfl)
theorem tw29 {a0 : Array Value} {Z : State} (hw : ∀ d ∈ tables_1, d.before a0 Z = true) : (Jvm.Cond.methodLink "com/example/urnwise/urnwise/sampler/SmallestKeys" (33 : Nat) ({ cls := "com/example/urnwise/urnwise/sampler/SmallestKeys", name := "siftUp", desc := "(IDI)V" } : Jvm.MethodName)).before a0 Z = true := hw _ (List.mem_of_getElem? (i := 29) rfl)
theorem tw30 {a0 : Array Value} {Z : State} (hw : ∀ d ∈ tables_1, d.before a0 Z = true) : (Jvm.Cond.instanceMethod ({ cls := "com/example/urnwise/urnwise/sampler/SmallestKeys", name := "siftUp", desc := "(IDI)V" } : Jvm.MethodName)).before a0 Z = true := hw _ (List.mem_of_getElem? (i := 30) rfl)
theorem tw31 {a0 : Array Value} {Z : State} (hw : ∀ d ∈ tables_1, d.before a0 Z = true) : (Jvm.Cond.privateMethod ({ cls := "com/example/urnwise/urnwise/sampler/SmallestKeys", name := "siftUp", desc := "(IDI)V" } : Jvm.MethodName)).before a0 Z = true := hw _ (List.mem_of_getElem? (i := 31) rfl)
theorem tw32 {a0 : Array Value} {Z : State} (hw : ∀ d ∈ tables_1, d.before a0 Z = true) : (Jvm.Cond.code ({ cls := "com/example/urnwise/urnwise/sampler/SmallestKeys", name := "siftUp", desc := "(IDI)V" } : Jvm.MethodName) prog_15_method_11_code (6 : Nat) (Option.none : Option Jvm.ClassFile.FieldType)).before a0 Z = true := hw _ (List.mem_of_getElem? (i := 32) rfl)
theorem tw33 {a0 : Array Value} {Z : State} (hw : ∀ d ∈ tables_1, d.before a0 Z = true) : (Jvm.Cond.methodLink "com/example/urnwise/urnwise/sampler/SmallestKeysReplaceLargestKeyPinLaw" (17 : Nat) ({ cls := "com/example/urnwise/urnwise/sampler/SmallestKeys", name := "replaceLargestKey", desc := "(D)I" } : Jvm.MethodName)).before a0 Z = true := hw _ (List.mem_of_getElem? (i := 33) rfl)
theorem tw34 {a0 : Array Value} {Z : State} (hw : ∀ d ∈ tables_1, d.before a0 Z = true) : (Jvm.Cond.declares ({ cls := "com/example/urnwise/urnwise/sampler/SmallestKeys", name := "replaceLargestKey", desc := "(D)I" } : Jvm.MethodName)).before a0 Z = true := hw _ (List.mem_of_getElem? (i := 34) rfl)
theorem tw35 {a0 : Array Value} {Z : State} (hw : ∀ d ∈ tables_1, d.before a0 Z = true) : (Jvm.Cond.instanceMethod ({ cls := "com/example/urnwise/urnwise/sampler/SmallestKeys", name := "replaceLargestKey", desc := "(D)I" } : Jvm.MethodName)).before a0 Z = true := hw _ (List.mem_of_getElem? (i := 35) rfl)
theorem tw36 {a0 : Array Value} {Z : State} (hw : ∀ d ∈ tables_1, d.before a0 Z = true) : (Jvm.Cond.selects "com/example/urnwise/urnwise/sampler/SmallestKeys" ({ cls := "com/example/urnwise/urnwise/sampler/SmallestKeys", name := "replaceLargestKey", desc := "(D)I" } : Jvm.MethodName) ({ cls := "com/example/urnwise/urnwise/sampler/SmallestKeys", name := "replaceLargestKey", desc := "(D)I" } : Jvm.MethodName)).before a0 Z = true := hw _ (List.mem_of_getElem? (i := 36) rfl)
theorem tw37 {a0 : Array Value} {Z : State} (hw : ∀ d ∈ tables_1, d.before a0 Z = true) : (Jvm.Cond.code ({ cls := "com/example/urnwise/urnwise/sampler/SmallestKeys", name := "replaceLargestKey", desc := "(D)I" } : Jvm.MethodName) prog_15_method_6_code (4 : Nat) (Option.some Jvm.ClassFile.FieldType.int)).before a0 Z = true := hw _ (List.mem_of_getElem? (i := 37) rfl)
theorem tw38 {a0 : Array Value} {Z : State} (hw : ∀ d ∈ tables_1, d.before a0 Z = true) : (Jvm.Cond.methodLink "com/example/urnwise/urnwise/sampler/SmallestKeys" (37 : Nat) ({ cls := "com/example/urnwise/urnwise/sampler/SmallestKeys", name := "siftDown", desc := "(IDI)V" } : Jvm.MethodName)).before a0 Z = true := hw _ (List.mem_of_getElem? (i := 38) rfl)
theorem tw39 {a0 : Array Value} {Z : State} (hw : ∀ d ∈ tables_1, d.before a0 Z = true) : (Jvm.Cond.instanceMethod ({ cls := "com/example/urnwise/urnwise/sampler/SmallestKeys", name := "siftDown", desc := "(IDI)V" } : Jvm.MethodName)).before a0 Z = true := hw _ (List.mem_of_getElem? (i := 39) rfl)
theorem tw40 {a0 : Array Value} {Z : State} (hw : ∀ d ∈ tables_1, d.before a0 Z = true) : (Jvm.Cond.privateMethod ({ cls := "com/example/urnwise/urnwise/sampler/SmallestKeys", name := "siftDown", desc := "(IDI)V" } : Jvm.MethodName)).before a0 Z = true := hw _ (List.mem_of_getElem? (i := 40) rfl)
theorem tw41 {a0 : Array Value} {Z : State} (hw : ∀ d ∈ tables_1, d.before a0 Z = true) : (Jvm.Cond.code ({ cls := "com/example/urnwise/urnwise/sampler/SmallestKeys", name := "siftDown", desc := "(IDI)V" } : Jvm.MethodName) prog_15_method_10_code (6 : Nat) (Option.none : Option Jvm.ClassFile.FieldType)).before a0 Z = true := hw _ (List.mem_of_getElem? (i := 41) rfl)
theorem tw42 {a0 : Array Value} {Z : State} (hw : ∀ d ∈ tables_1, d.before a0 Z = true) : (Jvm.Cond.methodLink "com/example/urnwise/urnwise/sampler/SmallestKeysReplaceLargestKeyPinLaw" (21 : Nat) ({ cls := "com/example/urnwise/urnwise/sampler/SmallestKeys", name := "size", desc := "()I" } : Jvm.MethodName)).before a0 Z = true := hw _ (List.mem_of_getElem? (i := 42) rfl)
theorem tw43 {a0 : Array Value} {Z : State} (hw : ∀ d ∈ tables_1, d.before a0 Z = true) : (Jvm.Cond.declares ({ cls := "com/example/urnwise/urnwise/sampler/SmallestKeys", name := "size", desc := "()I" } : Jvm.MethodName)).before a0 Z = true := hw _ (List.mem_of_getElem? (i := 43) rfl)
theorem tw44 {a0 : Array Value} {Z : State} (hw : ∀ d ∈ tables_1, d.before a0 Z = true) : (Jvm.Cond.instanceMethod ({ cls := "com/example/urnwise/urnwise/sampler/SmallestKeys", name := "size", desc := "()I" } : Jvm.MethodName)).before a0 Z = true := hw _ (List.mem_of_getElem? (i := 44) rfl)
theorem tw45 {a0 : Array Value} {Z : State} (hw : ∀ d ∈ tables_1, d.before a0 Z = true) : (Jvm.Cond.selects "com/example/urnwise/urnwise/sampler/SmallestKeys" ({ cls := "com/example/urnwise/urnwise/sampler/SmallestKeys", name := "size", desc := "()I" } : Jvm.MethodName) ({ cls := "com/example/urnwise/urnwise/sampler/SmallestKeys", name := "size", desc := "()I" } : Jvm.MethodName)).before a0 Z = true := hw _ (List.mem_of_getElem? (i := 45) rfl)
theorem tw46 {a0 : Array Value} {Z : State} (hw : ∀ d ∈ tables_1, d.before a0 Z = true) : (Jvm.Cond.code ({ cls := "com/example/urnwise/urnwise/sampler/SmallestKeys", name := "size", desc := "()I" } : Jvm.MethodName) prog_15_method_3_code (1 : Nat) (Option.some Jvm.ClassFile.FieldType.int)).before a0 Z = true := hw _ (List.mem_of_getElem? (i := 46) rfl)
theorem tw47 {a0 : Array Value} {Z : State} (hw : ∀ d ∈ tables_1, d.before a0 Z = true) : (Jvm.Cond.methodLink "com/example/urnwise/urnwise/sampler/SmallestKeysReplaceLargestKeyPinLaw" (25 : Nat) ({ cls := "com/example/urnwise/urnwise/sampler/SmallestKeys", name := "largestKey", desc := "()D" } : Jvm.MethodName)).before a0 Z = true := hw _ (List.mem_of_getElem? (i := 47) rfl)
theorem tw48 {a0 : Array Value} {Z : State} (hw : ∀ d ∈ tables_1, d.before a0 Z = true) : (Jvm.Cond.declares ({ cls := "com/example/urnwise/urnwise/sampler/SmallestKeys", name := "largestKey", desc := "()D" } : Jvm.MethodName)).before a0 Z = true := hw _ (List.mem_of_getElem? (i := 48) rfl)
theorem tw49 {a0 : Array Value} {Z : State} (hw : ∀ d ∈ tables_1, d.before a0 Z = true) : (Jvm.Cond.instanceMethod ({ cls := "com/example/urnwise/urnwise/sampler/SmallestKeys", name := "largestKey", desc := "()D" } : Jvm.MethodName)).before a0 Z = true := hw _ (List.mem_of_getElem? (i := 49) rfl)
theorem tw50 {a0 : Array Value} {Z : State} (hw : ∀ d ∈ tables_1, d.before a0 Z = true) : (Jvm.Cond.selects "com/example/urnwise/urnwise/sampler/SmallestKeys" ({ cls := "com/example/urnwise/urnwise/sampler/SmallestKeys", name := "largestKey", desc := "()D" } : Jvm.MethodName) ({ cls := "com/example/urnwise/urnwise/sampler/SmallestKeys", name := "largestKey", desc := "()D" } : Jvm.MethodName)).before a0 Z = true := hw _ (List.mem_of_getElem? (i := 50) rfl)
theorem tw51 {a0 : Array Value} {Z : State} (hw : ∀ d ∈ tables_1, d.before a0 Z = true) : (Jvm.Cond.code ({ cls := "com/example/urnwise/urnwise/sampler/SmallestKeys", name := "largestKey", desc := "()D" } : Jvm.MethodName) prog_15_method_5_code (1 : Nat) (Option.some Jvm.ClassFile.FieldType.double)).before a0 Z = true := hw _ (List.mem_of_getElem? (i := 51) rfl)
theorem tw52 {a0 : Array Value} {Z : State} (hw : ∀ d ∈ tables_1, d.before a0 Z = true) : (Jvm.Cond.methodLink "com/example/urnwise/urnwise/sampler/SmallestKeysReplaceLargestKeyPinLaw" (29 : Nat) ({ cls := "com/example/urnwise/urnwise/sampler/SmallestKeys", name := "removeAll", desc := "()[I" } : Jvm.MethodName)).before a0 Z = true := hw _ (List.mem_of_getElem? (i := 52) rfl)
theorem tw53 {a0 : Array Value} {Z : State} (hw : ∀ d ∈ tables_1, d.before a0 Z = true) : (Jvm.Cond.declares ({ cls := "com/example/urnwise/urnwise/sampler/SmallestKeys", name := "removeAll", desc := "()[I" } : Jvm.MethodName)).before a0 Z = true := hw _ (List.mem_of_getElem? (i := 53) rfl)
theorem tw54 {a0 : Array Value} {Z : State} (hw : ∀ d ∈ tables_1, d.before a0 Z = true) : (Jvm.Cond.instanceMethod ({ cls := "com/example/urnwise/urnwise/sampler/SmallestKeys", name := "removeAll", desc := "()[I" } : Jvm.MethodName)).before a0 Z = true := hw _ (List.mem_of_getElem? (i := 54) rfl)
theorem tw55 {a0 : Array Value} {Z : State} (hw : ∀ d ∈ tables_1, d.before a0 Z = true) : (Jvm.Cond.selects "com/example/urnwise/urnwise/sampler/SmallestKeys" ({ cls := "com/example/urnwise/urnwise/sampler/SmallestKeys", name := "removeAll", desc := "()[I" } : Jvm.MethodName) ({ cls := "com/example/urnwise/urnwise/sampler/SmallestKeys", name := "removeAll", desc := "()[I" } : Jvm.MethodName)).before a0 Z = true := hw _ (List.mem_of_getElem? (i := 55) rfl)
theorem tw56 {a0 : Array Value} {Z : State} (hw : ∀ d ∈ tables_1, d.before a0 Z = true) : (Jvm.Cond.code ({ cls := "com/example/urnwise/urnwise/sampler/SmallestKeys", name := "removeAll", desc := "()[I" } : Jvm.MethodName) prog_15_method_7_code (3 : Nat) (Option.some (Jvm.ClassFile.FieldType.array Jvm.ClassFile.FieldType.int))).before a0 Z = true := hw _ (List.mem_of_getElem? (i := 56) rfl)
theorem tw57 {a0 : Array Value} {Z : State} (hw : ∀ d ∈ tables_1, d.before a0 Z = true) : (Jvm.Cond.methodLink "com/example/urnwise/urnwise/sampler/SmallestKeys" (40 : Nat) ({ cls := "com/example/urnwise/urnwise/sampler/SmallestKeys", name := "removeLargest", desc := "()I" } : Jvm.MethodName)).before a0 Z = true := hw _ (List.mem_of_getElem? (i := 57) rfl)
theorem tw58 {a0 : Array Value} {Z : State} (hw : ∀ d ∈ tables_1, d.before a0 Z = true) : (Jvm.Cond.instanceMethod ({ cls := "com/example/urnwise/urnwise/sampler/SmallestKeys", name := "removeLargest", desc := "()I" } : Jvm.MethodName)).before a0 Z = true := hw _ (List.mem_of_getElem? (i := 58) rfl)
theorem tw59 {a0 : Array Value} {Z : State} (hw : ∀ d ∈ tables_1, d.before a0 Z = true) : (Jvm.Cond.privateMethod ({ cls := "com/example/urnwise/urnwise/sampler/SmallestKeys", name := "removeLargest", desc := "()I" } : Jvm.MethodName)).before a0 Z = true := hw _ (List.mem_of_getElem? (i := 59) rfl)
theorem tw60 {a0 : Array Value} {Z : State} (hw : ∀ d ∈ tables_1, d.before a0 Z = true) : (Jvm.Cond.code ({ cls := "com/example/urnwise/urnwise/sampler/SmallestKeys", name := "removeLargest", desc := "()I" } : Jvm.MethodName) prog_15_method_8_code (2 : Nat) (Option.some Jvm.ClassFile.FieldType.int)).before a0 Z = true := hw _ (List.mem_of_getElem? (i := 60) rfl)
theorem tw61 {a0 : Array Value} {Z : State} (hw : ∀ d ∈ tables_1, d.before a0 Z = true) : (Jvm.Cond.methodLink "com/example/urnwise/urnwise/sampler/SmallestKeysReplaceLargestKeyPinLaw" (33 : Nat) ({ cls := "com/example/urnwise/urnwise/sampler/SmallestKeysReplaceLargestKeyPinLaw", name := "offered", desc := "(I[II)Z" } : Jvm.MethodName)).before a0 Z = true := hw _ (List.mem_of_getElem? (i := 61) rfl)
theorem tw62 {a0 : Array Value} {Z : State} (hw : ∀ d ∈ tables_1, d.before a0 Z = true) : (Jvm.Cond.static ({ cls := "com/example/urnwise/urnwise/sampler/SmallestKeysReplaceLargestKeyPinLaw", name := "offered", desc := "(I[II)Z" } : Jvm.MethodName)).before a0 Z = true := hw _ (List.mem_of_getElem? (i := 62) rfl)
theorem tw63 {a0 : Array Value} {Z : State} (hw : ∀ d ∈ tables_1, d.before a0 Z = true) : (Jvm.Cond.initialized "com/example/urnwise/urnwise/sampler/SmallestKeysReplaceLargestKeyPinLaw").before a0 Z = true := hw _ (List.mem_of_getElem? (i := 63) rfl)
theorem tw64 {a0 : Array Value} {Z : State} (hw : ∀ d ∈ tables_1, d.before a0 Z = true) : (Jvm.Cond.code ({ cls := "com/example/urnwise/urnwise/sampler/SmallestKeysReplaceLargestKeyPinLaw", name := "offered", desc := "(I[II)Z" } : Jvm.MethodName) method_2_code (3 : Nat) (Option.some Jvm.ClassFile.FieldType.boolean)).before a0 Z = true := hw _ (List.mem_of_getElem? (i := 64) rfl)
theorem tw65 {a0 : Array Value} {Z : State} (hw : ∀ d ∈ tables_1, d.before a0 Z = true) : (Jvm.Cond.methodLink "com/example/urnwise/urnwise/sampler/SmallestKeysReplaceLargestKeyPinLaw" (39 : Nat) ({ cls := "com/example/urnwise/urnwise/sampler/SmallestKeysReplaceLargestKeyPinLaw", name := "keyOf", desc := "(IID[D)D" } : Jvm.MethodName)).before a0 Z = true := hw _ (List.mem_of_getElem? (i := 65) rfl)
theorem tw66 {a0 : Array Value} {Z : State} (hw : ∀ d ∈ tables_1, d.before a0 Z = true) : (Jvm.Cond.static ({ cls := "com/example/urnwise/urnwise/sampler/SmallestKeysReplaceLargestKeyPinLaw", name := "keyOf", desc := "(IID[D)D" } : Jvm.MethodName)).before a0 Z = true := hw _ (List.mem_of_getElem? (i := 66) rfl)
theorem tw67 {a0 : Array Value} {Z : State} (hw : ∀ d ∈ tables_1, d.before a0 Z = true) : (Jvm.Cond.code ({ cls := "com/example/urnwise/urnwise/sampler/SmallestKeysReplaceLargestKeyPinLaw", name := "keyOf", desc := "(IID[D)D" } : Jvm.MethodName) method_3_code (6 : Nat) (Option.some Jvm.ClassFile.FieldType.double)).before a0 Z = true := hw _ (List.mem_of_getElem? (i := 67) rfl)
theorem pn_0 : plainName "com/example/urnwise/urnwise/sampler/SmallestKeys" = true := by first | (simp [plainName, overriddenIn]; done) | decide +kernel
theorem pd_0 : parseMethodDescriptor "(IDI)V" = some ⟨[.int, .double, .int], none⟩ := by decide +kernel
theorem pd_1 : parseMethodDescriptor "(II)I" = some ⟨[.int, .int], some .int⟩ := by decide +kernel
theorem pd_2 : parseMethodDescriptor "()I" = some ⟨[], some .int⟩ := by decide +kernel
theorem pn_1 : plainName "com/example/urnwise/urnwise/sampler/SmallestKeysReplaceLargestKeyPinLaw" = true := by first | (simp [plainName, overriddenIn]; done) | decide +kernel
theorem pd_3 : parseMethodDescriptor "(I)V" = some ⟨[.int], none⟩ := by decide +kernel
theorem pd_4 : parseMethodDescriptor "(DI)V" = some ⟨[.double, .int], none⟩ := by decide +kernel
theorem pd_5 : parseMethodDescriptor "(D)I" = some ⟨[.double], some .int⟩ := by decide +kernel
theorem pd_6 : parseMethodDescriptor "()D" = some ⟨[], some .double⟩ := by decide +kernel
theorem pd_7 : parseMethodDescriptor "()[I" = some ⟨[], some (.array .int)⟩ := by decide +kernel
theorem pd_8 : parseMethodDescriptor "(I[II)Z" = some ⟨[.int, (.array .int), .int], some .boolean⟩ := by decide +kernel
theorem pd_9 : parseMethodDescriptor "(IID[D)D" = some ⟨[.int, .int, .double, (.array .double)], some .double⟩ := by decide +kernel
theorem ef_min (m : MethodId) (x0 : Int32) (x1 : Int32) : entryFrame m #[(.int x0), (.int x1)] 2 = mkF m 0 #[.val (.int x0), .val (.int x1)] [] := by first | (simp [entryFrame, mkF, argsToLocals, Value.category]; done) | rfl
theorem d_min_0 : decode jdk_29_method_69_code 0 = .ok (.iload_n 0, 1) := by decide +kernel
theorem d_min_1 : decode jdk_29_method_69_code 1 = .ok (.iload_n 1, 1) := by decide +kernel
theorem d_min_2 : decode jdk_29_method_69_code 2 = .ok (.if_icmp .gt 7, 3) := by decide +kernel
theorem d_min_5 : decode jdk_29_method_69_code 5 = .ok (.iload_n 0, 1) := by decide +kernel
theorem d_min_6 : decode jdk_29_method_69_code 6 = .ok (.goto 4, 3) := by decide +kernel
theorem d_min_9 : decode jdk_29_method_69_code 9 = .ok (.iload_n 1, 1) := by decide +kernel
theorem d_min_10 : decode jdk_29_method_69_code 10 = .ok (.ireturn, 1) := by decide +kernel
set_option maxRecDepth 65536 in
set_option maxHeartbeats 4000000 in
theorem m_min (l : Launch) (Z : State) (a0 : Array Value) (hw : ∀ d ∈ tables_1, d.before a0 Z = true) (p0 p1 : Int32) (h0 : Heap)  :
    OMet l (⟨"java/lang/Math", "min", "(II)I"⟩ : MethodName) jdk_29_method_69_code 2 (Option.some FieldType.int) [] ({ frames := 0, cells := 0, slots := 0, locals := 0 } : Room) Z h0 [] #[(.int p0), (.int p1)] (fun v h' => v = some (.int (if p1 < p0 then p1 else p0)) ∧ h0 = h') := by
  refine OMet.of (own := "java/lang/Math") (nm := "min") (Jvm.Free.JP.mathPlain rfl (by decide +kernel)) rfl rfl ?_
  intro p e s m below meth c T0 P0 hby hml hret hnm
  refine Done.step (T' := T0) (g' := (mkF m 0 #[.val (.int p0), .val (.int p1)] [])) (fun t kk => castTop (ef_min m p0 p1) kk) ?_
  refine Done.stepL (pc' := 10) (st' := [(.int (if p1 < p0 then p1 else p0))]) (fun t kk => ?_) ?_
  · show Steps p.tables e below (T0.setTop (mkF m 0 _ [])) t
    refine XS.iloadN P0.here P0.x rfl (hb hby d_min_0) rfl ?_
    show Steps p.tables e below (T0.setTop (mkF m 1 _ [(.int p0)])) t
    refine XS.iloadN P0.here P0.x rfl (hb hby d_min_1) rfl ?_
    show Steps p.tables e below (T0.setTop (mkF m 2 _ [(.int p1), (.int p0)])) t
    suffices kk2 : Steps p.tables e below (T0.setTop (mkF m 10 #[.val (.int p0), .val (.int p1)] [(.int (if p1 < p0 then p1 else p0))])) t by
      by_cases hc1 : p1 < p0
      · skip
        replace kk2 := Eq.mp (congrArg (fun z_ : Int32 => Steps p.tables e below (T0.setTop (mkF m 10 #[.val (.int p0), .val (.int p1)] [(.int z_)])) t) (show (if p1 < p0 then p1 else p0) = p1 from if_pos hc1)) kk2
        show Steps p.tables e below (T0.setTop (mkF m 2 _ [(.int p1), (.int p0)])) t
        refine XS.icmpYes P0.here P0.x rfl (pc0 := 2) (pc' := 9) rfl (hb hby d_min_2) rfl (iiW_gt_t hc1) (by decide) (by decide) ?_
        show Steps p.tables e below (T0.setTop (mkF m 9 _ [])) t
        refine XS.iloadN P0.here P0.x rfl (hb hby d_min_9) rfl ?_
        exact kk2
      · skip
        replace kk2 := Eq.mp (congrArg (fun z_ : Int32 => Steps p.tables e below (T0.setTop (mkF m 10 #[.val (.int p0), .val (.int p1)] [(.int z_)])) t) (show (if p1 < p0 then p1 else p0) = p0 from if_neg hc1)) kk2
        show Steps p.tables e below (T0.setTop (mkF m 2 _ [(.int p1), (.int p0)])) t
        refine XS.icmpNo P0.here P0.x rfl (hb hby d_min_2) rfl (iiW_gt_f hc1) ?_
        show Steps p.tables e below (T0.setTop (mkF m 5 _ [])) t
        refine XS.iloadN P0.here P0.x rfl (hb hby d_min_5) rfl ?_
        show Steps p.tables e below (T0.setTop (mkF m 6 _ [(.int p0)])) t
        refine XS.goto P0.here P0.x rfl (pc0 := 6) (pc' := 10) rfl (hb hby d_min_6) (by decide) (by decide) ?_
        exact kk2
    exact kk
  exact wRetI P0 hret (hb hby d_min_10) ⟨rfl, rfl⟩
theorem ef_up (m : MethodId) (x0 : Addr) (x1 : Int32) (x2 : UInt64) (x3 : Int32) : entryFrame m #[(.ref x0), (.int x1), (.double x2), (.int x3)] 6 = mkF m 0 #[.val (.ref x0), .val (.int x1), .val (.double x2), .second, .val (.int x3), .unset] [] := by first | (simp [entryFrame, mkF, argsToLocals, Value.category]; done) | rfl
theorem d_up_58 : decode prog_15_method_11_code 58 = .ok (.aload_n 0, 1) := by decide +kernel
theorem d_up_59 : decode prog_15_method_11_code 59 = .ok (.getfield 19, 3) := by decide +kernel
theorem d_up_62 : decode prog_15_method_11_code 62 = .ok (.iload_n 1, 1) := by decide +kernel
theorem d_up_63 : decode prog_15_method_11_code 63 = .ok (.dload_n 2, 1) := by decide +kernel
theorem d_up_64 : decode prog_15_method_11_code 64 = .ok (.dastore, 1) := by decide +kernel
theorem d_up_65 : decode prog_15_method_11_code 65 = .ok (.aload_n 0, 1) := by decide +kernel
theorem d_up_66 : decode prog_15_method_11_code 66 = .ok (.getfield 23, 3) := by decide +kernel
theorem d_up_69 : decode prog_15_method_11_code 69 = .ok (.iload_n 1, 1) := by decide +kernel
theorem d_up_70 : decode prog_15_method_11_code 70 = .ok (.iload 4, 2) := by decide +kernel
theorem d_up_72 : decode prog_15_method_11_code 72 = .ok (.iastore, 1) := by decide +kernel
theorem d_up_73 : decode prog_15_method_11_code 73 = .ok (.return_, 1) := by decide +kernel
theorem d_up_0 : decode prog_15_method_11_code 0 = .ok (.iload_n 1, 1) := by decide +kernel
theorem d_up_1 : decode prog_15_method_11_code 1 = .ok (.ifCond .le 57, 3) := by decide +kernel
theorem d_up_4 : decode prog_15_method_11_code 4 = .ok (.iload_n 1, 1) := by decide +kernel
theorem d_up_5 : decode prog_15_method_11_code 5 = .ok (.iconst 1, 1) := by decide +kernel
theorem d_up_6 : decode prog_15_method_11_code 6 = .ok (.isub, 1) := by decide +kernel
theorem d_up_7 : decode prog_15_method_11_code 7 = .ok (.iconst 2, 1) := by decide +kernel
theorem d_up_8 : decode prog_15_method_11_code 8 = .ok (.idiv, 1) := by decide +kernel
theorem os_up_9_18 {y0 : Addr} {y1 : Int32} {y2 : UInt64} {y4 : Int32} {y5 : Slot} {yy : Int32} (h : One y5) : storeLocals #[.val (.ref y0), .val (.int y1), .val (.double y2), .second, .val (.int y4), y5] 5 (.int yy) = some #[.val (.ref y0), .val (.int y1), .val (.double y2), .second, .val (.int y4), .val (.int yy)] := by
  rcases h with rfl | ⟨w, rfl, hw⟩
  · rfl
  · cases w <;> first | rfl | (simp [Value.category] at hw)
theorem d_up_9 : decode prog_15_method_11_code 9 = .ok (.istore 5, 2) := by decide +kernel
theorem d_up_11 : decode prog_15_method_11_code 11 = .ok (.aload_n 0, 1) := by decide +kernel
theorem d_up_12 : decode prog_15_method_11_code 12 = .ok (.getfield 19, 3) := by decide +kernel
theorem d_up_15 : decode prog_15_method_11_code 15 = .ok (.iload 5, 2) := by decide +kernel
theorem d_up_17 : decode prog_15_method_11_code 17 = .ok (.daload, 1) := by decide +kernel
theorem d_up_18 : decode prog_15_method_11_code 18 = .ok (.dload_n 2, 1) := by decide +kernel
theorem d_up_19 : decode prog_15_method_11_code 19 = .ok (.dcmp .l, 1) := by decide +kernel
theorem d_up_20 : decode prog_15_method_11_code 20 = .ok (.ifCond .lt 6, 3) := by decide +kernel
theorem d_up_26 : decode prog_15_method_11_code 26 = .ok (.aload_n 0, 1) := by decide +kernel
theorem d_up_27 : decode prog_15_method_11_code 27 = .ok (.getfield 19, 3) := by decide +kernel
theorem d_up_30 : decode prog_15_method_11_code 30 = .ok (.iload_n 1, 1) := by decide +kernel
theorem d_up_31 : decode prog_15_method_11_code 31 = .ok (.aload_n 0, 1) := by decide +kernel
theorem d_up_32 : decode prog_15_method_11_code 32 = .ok (.getfield 19, 3) := by decide +kernel
theorem d_up_35 : decode prog_15_method_11_code 35 = .ok (.iload 5, 2) := by decide +kernel
theorem d_up_37 : decode prog_15_method_11_code 37 = .ok (.daload, 1) := by decide +kernel
theorem d_up_38 : decode prog_15_method_11_code 38 = .ok (.dastore, 1) := by decide +kernel
theorem d_up_39 : decode prog_15_method_11_code 39 = .ok (.aload_n 0, 1) := by decide +kernel
theorem d_up_40 : decode prog_15_method_11_code 40 = .ok (.getfield 23, 3) := by decide +kernel
theorem d_up_43 : decode prog_15_method_11_code 43 = .ok (.iload_n 1, 1) := by decide +kernel
theorem d_up_44 : decode prog_15_method_11_code 44 = .ok (.aload_n 0, 1) := by decide +kernel
theorem d_up_45 : decode prog_15_method_11_code 45 = .ok (.getfield 23, 3) := by decide +kernel
theorem d_up_48 : decode prog_15_method_11_code 48 = .ok (.iload 5, 2) := by decide +kernel
theorem d_up_50 : decode prog_15_method_11_code 50 = .ok (.iaload, 1) := by decide +kernel
theorem d_up_51 : decode prog_15_method_11_code 51 = .ok (.iastore, 1) := by decide +kernel
theorem d_up_52 : decode prog_15_method_11_code 52 = .ok (.iload 5, 2) := by decide +kernel
theorem d_up_54 : decode prog_15_method_11_code 54 = .ok (.istore_n 1, 1) := by decide +kernel
theorem d_up_55 : decode prog_15_method_11_code 55 = .ok (.goto (-55), 3) := by decide +kernel
theorem d_up_23 : decode prog_15_method_11_code 23 = .ok (.goto 35, 3) := by decide +kernel
set_option maxRecDepth 65536 in
set_option maxHeartbeats 4000000 in
theorem m_up (l : Launch) (Z : State) (a0 : Array Value) (hw : ∀ d ∈ tables_1, d.before a0 Z = true) (a kb ib : Addr) (sv : Int32) (N n : Nat) (kf : Nat → UInt64) (K : Nat → Int) (J : Nat → Int32) (pv0 : Int32) (x : UInt64) (iv : Int32) (p0 : Nat) (kv : Int) (h0 : Heap) (E0 : Exa Z h0 a "com/example/urnwise/urnwise/sampler/SmallestKeys") (Fk : Fld Z h0 a "com/example/urnwise/urnwise/sampler/SmallestKeys" "keys" "[D" (.ref kb)) (Fi : Fld Z h0 a "com/example/urnwise/urnwise/sampler/SmallestKeys" "indices" "[I" (.ref ib)) (Fs : Fld Z h0 a "com/example/urnwise/urnwise/sampler/SmallestKeys" "size" "I" (.int sv)) (Ak : Ar Z h0 kb .double N (fun i => .double (kf i))) (Ai : Ar Z h0 ib .int N (fun i => .int (J i))) (n1 : a ≠ kb) (n2 : a ≠ ib) (n3 : kb ≠ ib) (hN : N ≤ 16) (hsv : sv.toInt = (n : Int)) (dK : ∀ i, i < N → DInt (K i) (kf i)) (dx : DInt kv x) (hp0 : pv0.toInt = (p0 : Int)) (hpN : p0 < N) :
    OMet l (⟨"com/example/urnwise/urnwise/sampler/SmallestKeys", "siftUp", "(IDI)V"⟩ : MethodName) prog_15_method_11_code 6 (Option.none : Option FieldType) [] ({ frames := 0, cells := 0, slots := 0, locals := 0 } : Room) Z h0 [kb, ib] #[(.ref a), (.int pv0), (.double x), (.int iv)] (fun v h' => v = none ∧ ∃ kf' : Nat → UInt64, Ar Z h' kb .double N (fun i => .double (kf' i)) ∧ (∀ i, i < N → DInt ((own_up p0 K J p0 kv iv).1 i) (kf' i)) ∧ Ar Z h' ib .int N (fun i => .int (((own_up p0 K J p0 kv iv).2) i))) := by
  refine OMet.of (own := "com/example/urnwise/urnwise/sampler/SmallestKeys") (nm := "siftUp") (plainFor_of_name pn_0) rfl rfl ?_
  intro p e s m below meth c T0 P0 hby hml hret hnm
  refine Done.step (T' := T0) (g' := (mkF m 0 #[.val (.ref a), .val (.int pv0), .val (.double x), .second, .val (.int iv), .unset] [])) (fun t kk => castTop (ef_up m a pv0 x iv) kk) ?_
  have ltk := Ak.ltN
  have lti := Ai.ltN
  have lta := exaN E0
  have fin : ∀ (ip : Nat) (T : State) (h : Heap) (pv : Int32) (s5 : Slot) (kf' : Nat → UInt64) (K' : Nat → Int) (J' : Nat → Int32), ip < N → pv.toInt = (ip : Int) → Pos p l e ({ frames := 0, cells := 0, slots := 0, locals := 0 } : Room) s m #[(.ref a), (.int pv0), (.double x), (.int iv)] below meth c Z "com/example/urnwise/urnwise/sampler/SmallestKeys" [kb, ib] h0.size T h 0 0 → Fld Z h a "com/example/urnwise/urnwise/sampler/SmallestKeys" "keys" "[D" (.ref kb) → Fld Z h a "com/example/urnwise/urnwise/sampler/SmallestKeys" "indices" "[I" (.ref ib) → Ar Z h kb .double N (fun i => .double (kf' i)) → Ar Z h ib .int N (fun i => .int (J' i)) → (∀ i, i < N → DInt (K' i) (kf' i)) → (oupd K' ip kv, oupd J' ip iv) = own_up p0 K J p0 kv iv → Done p l e ({ frames := 0, cells := 0, slots := 0, locals := 0 } : Room) s m #[(.ref a), (.int pv0), (.double x), (.int iv)] below meth c Z "com/example/urnwise/urnwise/sampler/SmallestKeys" [kb, ib] h0.size (fun v h' => v = none ∧ ∃ kf' : Nat → UInt64, Ar Z h' kb .double N (fun i => .double (kf' i)) ∧ (∀ i, i < N → DInt ((own_up p0 K J p0 kv iv).1 i) (kf' i)) ∧ Ar Z h' ib .int N (fun i => .int (((own_up p0 K J p0 kv iv).2) i))) T (mkF m 58 #[.val (.ref a), .val (.int pv), .val (.double x), .second, .val (.int iv), s5] []) := by
    intro ip T h pv s5 kf' K' J' hp hpv P Fk' Fi' Ak' Ai' dK' heq
    refine Done.stepL (pc' := 59) (st' := [(.ref a)]) (fun t kk => ?_) ?_
    · show Steps p.tables e below (T.setTop (mkF m 58 _ [])) t
      refine XS.aloadN P.here P.x rfl (hb hby d_up_58) rfl rfl ?_
      exact kk
    refine wGet P (host := "") (Or.inl (tw18 hw)) Via.refl Fk' (hb hby d_up_59) rfl (fun T1 P2 => ?_)
    show Done _ _ _ _ _ _ _ _ _ _ _ _ _ _ _ T1 (mkF m 62 _ [(.ref kb)])
    refine Done.stepL (pc' := 64) (st' := [(.double x), (.int pv), (.ref kb)]) (fun t kk => ?_) ?_
    · show Steps p.tables e below (T1.setTop (mkF m 62 _ [(.ref kb)])) t
      refine XS.iloadN P2.here P2.x rfl (hb hby d_up_62) rfl ?_
      show Steps p.tables e below (T1.setTop (mkF m 63 _ [(.int pv), (.ref kb)])) t
      refine XS.dloadN P2.here P2.x rfl (hb hby d_up_63) rfl ?_
      exact kk
    refine wDastore P2 (f := kf') Ak' (j := pv) (i := ip) hpv hp (Or.inl (by simp)) (hb hby d_up_64) rfl (fun T3 h5 P4 W6 A7 => ?_)
    have szh5 : h5.size = h.size := W6.size
    show Done _ _ _ _ _ _ _ _ _ _ _ _ _ _ _ T3 (mkF m 65 _ [])
    refine Done.stepL (pc' := 66) (st' := [(.ref a)]) (fun t kk => ?_) ?_
    · show Steps p.tables e below (T3.setTop (mkF m 65 _ [])) t
      refine XS.aloadN P4.here P4.x rfl (hb hby d_up_65) rfl rfl ?_
      exact kk
    have f8 := (Fi'.other W6 (Or.inl (by first | assumption | exact Ne.symm (by assumption) | exact adr_ne (by omega) | omega)))
    refine wGet P4 (host := "") (Or.inl (tw20 hw)) Via.refl f8 (hb hby d_up_66) rfl (fun T9 P10 => ?_)
    show Done _ _ _ _ _ _ _ _ _ _ _ _ _ _ _ T9 (mkF m 69 _ [(.ref ib)])
    refine Done.stepL (pc' := 72) (st' := [(.int iv), (.int pv), (.ref ib)]) (fun t kk => ?_) ?_
    · show Steps p.tables e below (T9.setTop (mkF m 69 _ [(.ref ib)])) t
      refine XS.iloadN P10.here P10.x rfl (hb hby d_up_69) rfl ?_
      show Steps p.tables e below (T9.setTop (mkF m 70 _ [(.int pv), (.ref ib)])) t
      refine XS.iload P10.here P10.x rfl (hb hby d_up_70) rfl ?_
      exact kk
    have f11 := (Ai'.other W6 (by first | assumption | exact Ne.symm (by assumption) | exact adr_ne (by omega) | omega))
    refine wIastore P10 (f := J') f11 (j := pv) (i := ip) hpv hp (Or.inl (by simp)) (hb hby d_up_72) rfl (fun T12 h14 P13 W15 A16 => ?_)
    have szh14 : h14.size = h5.size := W15.size
    show Done _ _ _ _ _ _ _ _ _ _ _ _ _ _ _ T12 (mkF m 73 _ [])
    have f17 := (A7.other W15 (by first | assumption | exact Ne.symm (by assumption) | exact adr_ne (by omega) | omega))
    exact wRetV P13 hret (hb hby d_up_73) ⟨rfl, _, f17, (fun i hi => by rw [← heq]; exact own_dupd dK' dx i hi), (by rw [← heq]; exact A16)⟩
  have loop : ∀ (r : Nat) (ip : Nat) (T : State) (h : Heap) (pv : Int32) (s5 : Slot) (kf' : Nat → UInt64) (K' : Nat → Int) (J' : Nat → Int32), ip ≤ r → ip < N → pv.toInt = (ip : Int) → One s5 → Pos p l e ({ frames := 0, cells := 0, slots := 0, locals := 0 } : Room) s m #[(.ref a), (.int pv0), (.double x), (.int iv)] below meth c Z "com/example/urnwise/urnwise/sampler/SmallestKeys" [kb, ib] h0.size T h 0 0 → Fld Z h a "com/example/urnwise/urnwise/sampler/SmallestKeys" "keys" "[D" (.ref kb) → Fld Z h a "com/example/urnwise/urnwise/sampler/SmallestKeys" "indices" "[I" (.ref ib) → Fld Z h a "com/example/urnwise/urnwise/sampler/SmallestKeys" "size" "I" (.int sv) → Ar Z h kb .double N (fun i => .double (kf' i)) → Ar Z h ib .int N (fun i => .int (J' i)) → (∀ i, i < N → DInt (K' i) (kf' i)) → own_up r K' J' ip kv iv = own_up p0 K J p0 kv iv → Done p l e ({ frames := 0, cells := 0, slots := 0, locals := 0 } : Room) s m #[(.ref a), (.int pv0), (.double x), (.int iv)] below meth c Z "com/example/urnwise/urnwise/sampler/SmallestKeys" [kb, ib] h0.size (fun v h' => v = none ∧ ∃ kf' : Nat → UInt64, Ar Z h' kb .double N (fun i => .double (kf' i)) ∧ (∀ i, i < N → DInt ((own_up p0 K J p0 kv iv).1 i) (kf' i)) ∧ Ar Z h' ib .int N (fun i => .int (((own_up p0 K J p0 kv iv).2) i))) T (mkF m 0 #[.val (.ref a), .val (.int pv), .val (.double x), .second, .val (.int iv), s5] []) := by
    intro r
    induction r with
    | zero =>
      intro ip T h pv s5 kf' K' J' hr hp hpv h5 P Fk' Fi' Fs' Ak' Ai' dK' heq
      obtain rfl : ip = 0 := by omega
      refine Done.stepL (pc' := 58) (st' := []) (fun t kk => ?_) ?_
      · show Steps p.tables e below (T.setTop (mkF m 0 _ [])) t
        refine XS.iloadN P.here P.x rfl (hb hby d_up_0) rfl ?_
        show Steps p.tables e below (T.setTop (mkF m 1 _ [(.int pv)])) t
        refine XS.ifYes P.here P.x rfl (pc0 := 1) (pc' := 58) rfl (hb hby d_up_1) rfl (i0W_le_t (by rw [own_lt' (i := 0) (by decide) hpv]; omega)) (by decide) (by decide) ?_
        exact kk
      exact fin 0 _ _ _ _ _ _ _ (by omega) hpv P Fk' Fi' Ak' Ai' dK' heq
    | succ r ih =>
      intro ip T h pv s5 kf' K' J' hr hp hpv h5 P Fk' Fi' Fs' Ak' Ai' dK' heq
      refine Done.stepL (pc' := 1) (st' := [(.int pv)]) (fun t kk => ?_) ?_
      · show Steps p.tables e below (T.setTop (mkF m 0 _ [])) t
        refine XS.iloadN P.here P.x rfl (hb hby d_up_0) rfl ?_
        exact kk
      by_cases hc : ¬ ((0 : Int32) < pv)
      · obtain rfl : ip = 0 := own_p0 hpv hc
        refine Done.stepL (pc' := 58) (st' := []) (fun t kk => ?_) ?_
        · show Steps p.tables e below (T.setTop (mkF m 1 _ [(.int pv)])) t
          refine XS.ifYes P.here P.x rfl (pc0 := 1) (pc' := 58) rfl (hb hby d_up_1) rfl (i0W_le_t hc) (by decide) (by decide) ?_
          exact kk
        exact fin 0 _ _ _ _ _ _ _ (by omega) hpv P Fk' Fi' Ak' Ai' dK' heq
      · have hpos := own_p1 hpv hc
        refine Done.step (T' := T) (g' := (mkF m 11 #[.val (.ref a), .val (.int pv), .val (.double x), .second, .val (.int iv), .val (.int ((pv - (1 : Int32)) / (2 : Int32)))] [])) (fun t kk => ?_) ?_
        · show Steps p.tables e below (T.setTop (mkF m 1 _ [(.int pv)])) t
          refine XS.ifNo P.here P.x rfl (hb hby d_up_1) rfl (i0W_le_f (show ¬ (¬ ((0 : Int32) < pv)) from hc)) ?_
          show Steps p.tables e below (T.setTop (mkF m 4 _ [])) t
          refine XS.iloadN P.here P.x rfl (hb hby d_up_4) rfl ?_
          show Steps p.tables e below (T.setTop (mkF m 5 _ [(.int pv)])) t
          refine XS.iconst P.here P.x rfl (hb hby d_up_5) ?_
          show Steps p.tables e below (T.setTop (mkF m 6 _ [(.int (1 : Int32)), (.int pv)])) t
          refine XS.isub P.here P.x rfl (hb hby d_up_6) rfl ?_
          show Steps p.tables e below (T.setTop (mkF m 7 _ [(.int (pv - (1 : Int32)))])) t
          refine XS.iconst P.here P.x rfl (hb hby d_up_7) ?_
          show Steps p.tables e below (T.setTop (mkF m 8 _ [(.int (2 : Int32)), (.int (pv - (1 : Int32)))])) t
          refine XS.idiv P.here P.x rfl (hb hby d_up_8) rfl (by decide) ?_
          show Steps p.tables e below (T.setTop (mkF m 9 _ [(.int ((pv - (1 : Int32)) / (2 : Int32)))])) t
          refine XS.istore P.here P.x rfl (hb hby d_up_9) rfl (l' := #[.val (.ref a), .val (.int pv), .val (.double x), .second, .val (.int iv), .val (.int ((pv - (1 : Int32)) / (2 : Int32)))]) (os_up_9_18 h5) ?_
          exact kk
        generalize g_qv : ((pv - (1 : Int32)) / (2 : Int32)) = qv
        have hqv : qv.toInt = (((ip - 1) / 2 : Nat) : Int) := by rw [← g_qv]; exact own_par hpv hpos
        show Done _ _ _ _ _ _ _ _ _ _ _ _ _ _ _ T (mkF m 11 _ [])
        rw [own_up, if_neg (show ¬ (ip = 0) by omega)] at heq
        refine Done.stepL (pc' := 12) (st' := [(.ref a)]) (fun t kk => ?_) ?_
        · show Steps p.tables e below (T.setTop (mkF m 11 _ [])) t
          refine XS.aloadN P.here P.x rfl (hb hby d_up_11) rfl rfl ?_
          exact kk
        refine wGet P (host := "") (Or.inl (tw18 hw)) Via.refl Fk' (hb hby d_up_12) rfl (fun T18 P19 => ?_)
        show Done _ _ _ _ _ _ _ _ _ _ _ _ _ _ _ T18 (mkF m 15 _ [(.ref kb)])
        refine Done.stepL (pc' := 17) (st' := [(.int qv), (.ref kb)]) (fun t kk => ?_) ?_
        · show Steps p.tables e below (T18.setTop (mkF m 15 _ [(.ref kb)])) t
          refine XS.iload P19.here P19.x rfl (hb hby d_up_15) rfl ?_
          exact kk
        refine wDaload P19 Ak' (j := qv) (i := ((ip - 1) / 2)) hqv (by omega) (v := (.double (kf' ((ip - 1) / 2)))) rfl (hb hby d_up_17) rfl ?_
        show Done _ _ _ _ _ _ _ _ _ _ _ _ _ _ _ T18 (mkF m 18 _ [(.double (kf' ((ip - 1) / 2)))])
        refine Done.stepL (pc' := 20) (st' := [(.int (cmpZ (K' ((ip - 1) / 2)) kv))]) (fun t kk => ?_) ?_
        · show Steps p.tables e below (T18.setTop (mkF m 18 _ [(.double (kf' ((ip - 1) / 2)))])) t
          refine XS.dloadN P19.here P19.x rfl (hb hby d_up_18) rfl ?_
          show Steps p.tables e below (T18.setTop (mkF m 19 _ [(.double x), (.double (kf' ((ip - 1) / 2)))])) t
          refine XS.dcmpS P19.here P19.x rfl (hb hby d_up_19) rfl (dcmpZ (dK' ((ip - 1) / 2) (by omega)) dx) ?_
          exact kk
        by_cases hl : (K' ((ip - 1) / 2)) < kv
        · rw [if_pos hl] at heq
          refine Done.stepL (pc' := 27) (st' := [(.ref a)]) (fun t kk => ?_) ?_
          · show Steps p.tables e below (T18.setTop (mkF m 20 _ [(.int (cmpZ (K' ((ip - 1) / 2)) kv))])) t
            refine XS.ifYes P19.here P19.x rfl (pc0 := 20) (pc' := 26) rfl (hb hby d_up_20) rfl (ciW_lt_t hl) (by decide) (by decide) ?_
            show Steps p.tables e below (T18.setTop (mkF m 26 _ [])) t
            refine XS.aloadN P19.here P19.x rfl (hb hby d_up_26) rfl rfl ?_
            exact kk
          refine wGet P19 (host := "") (Or.inl (tw18 hw)) Via.refl Fk' (hb hby d_up_27) rfl (fun T20 P21 => ?_)
          show Done _ _ _ _ _ _ _ _ _ _ _ _ _ _ _ T20 (mkF m 30 _ [(.ref kb)])
          refine Done.stepL (pc' := 32) (st' := [(.ref a), (.int pv), (.ref kb)]) (fun t kk => ?_) ?_
          · show Steps p.tables e below (T20.setTop (mkF m 30 _ [(.ref kb)])) t
            refine XS.iloadN P21.here P21.x rfl (hb hby d_up_30) rfl ?_
            show Steps p.tables e below (T20.setTop (mkF m 31 _ [(.int pv), (.ref kb)])) t
            refine XS.aloadN P21.here P21.x rfl (hb hby d_up_31) rfl rfl ?_
            exact kk
          refine wGet P21 (host := "") (Or.inl (tw18 hw)) Via.refl Fk' (hb hby d_up_32) rfl (fun T22 P23 => ?_)
          show Done _ _ _ _ _ _ _ _ _ _ _ _ _ _ _ T22 (mkF m 35 _ [(.ref kb), (.int pv), (.ref kb)])
          refine Done.stepL (pc' := 37) (st' := [(.int qv), (.ref kb), (.int pv), (.ref kb)]) (fun t kk => ?_) ?_
          · show Steps p.tables e below (T22.setTop (mkF m 35 _ [(.ref kb), (.int pv), (.ref kb)])) t
            refine XS.iload P23.here P23.x rfl (hb hby d_up_35) rfl ?_
            exact kk
          refine wDaload P23 Ak' (j := qv) (i := ((ip - 1) / 2)) hqv (by omega) (v := (.double (kf' ((ip - 1) / 2)))) rfl (hb hby d_up_37) rfl ?_
          show Done _ _ _ _ _ _ _ _ _ _ _ _ _ _ _ T22 (mkF m 38 _ [(.double (kf' ((ip - 1) / 2))), (.int pv), (.ref kb)])
          refine wDastore P23 (f := kf') Ak' (j := pv) (i := ip) hpv hp (Or.inl (by simp)) (hb hby d_up_38) rfl (fun T24 h26 P25 W27 A28 => ?_)
          have szh26 : h26.size = h.size := W27.size
          show Done _ _ _ _ _ _ _ _ _ _ _ _ _ _ _ T24 (mkF m 39 _ [])
          refine Done.stepL (pc' := 40) (st' := [(.ref a)]) (fun t kk => ?_) ?_
          · show Steps p.tables e below (T24.setTop (mkF m 39 _ [])) t
            refine XS.aloadN P25.here P25.x rfl (hb hby d_up_39) rfl rfl ?_
            exact kk
          have f29 := (Fi'.other W27 (Or.inl (by first | assumption | exact Ne.symm (by assumption) | exact adr_ne (by omega) | omega)))
          refine wGet P25 (host := "") (Or.inl (tw20 hw)) Via.refl f29 (hb hby d_up_40) rfl (fun T30 P31 => ?_)
          show Done _ _ _ _ _ _ _ _ _ _ _ _ _ _ _ T30 (mkF m 43 _ [(.ref ib)])
          refine Done.stepL (pc' := 45) (st' := [(.ref a), (.int pv), (.ref ib)]) (fun t kk => ?_) ?_
          · show Steps p.tables e below (T30.setTop (mkF m 43 _ [(.ref ib)])) t
            refine XS.iloadN P31.here P31.x rfl (hb hby d_up_43) rfl ?_
            show Steps p.tables e below (T30.setTop (mkF m 44 _ [(.int pv), (.ref ib)])) t
            refine XS.aloadN P31.here P31.x rfl (hb hby d_up_44) rfl rfl ?_
            exact kk
          refine wGet P31 (host := "") (Or.inl (tw20 hw)) Via.refl f29 (hb hby d_up_45) rfl (fun T32 P33 => ?_)
          show Done _ _ _ _ _ _ _ _ _ _ _ _ _ _ _ T32 (mkF m 48 _ [(.ref ib), (.int pv), (.ref ib)])
          refine Done.stepL (pc' := 50) (st' := [(.int qv), (.ref ib), (.int pv), (.ref ib)]) (fun t kk => ?_) ?_
          · show Steps p.tables e below (T32.setTop (mkF m 48 _ [(.ref ib), (.int pv), (.ref ib)])) t
            refine XS.iload P33.here P33.x rfl (hb hby d_up_48) rfl ?_
            exact kk
          have f34 := (Ai'.other W27 (by first | assumption | exact Ne.symm (by assumption) | exact adr_ne (by omega) | omega))
          refine wIaload P33 f34 (j := qv) (i := ((ip - 1) / 2)) hqv (by omega) (v := (.int (J' ((ip - 1) / 2)))) rfl (hb hby d_up_50) rfl ?_
          show Done _ _ _ _ _ _ _ _ _ _ _ _ _ _ _ T32 (mkF m 51 _ [(.int (J' ((ip - 1) / 2))), (.int pv), (.ref ib)])
          refine wIastore P33 (f := J') f34 (j := pv) (i := ip) hpv hp (Or.inl (by simp)) (hb hby d_up_51) rfl (fun T35 h37 P36 W38 A39 => ?_)
          have szh37 : h37.size = h26.size := W38.size
          show Done _ _ _ _ _ _ _ _ _ _ _ _ _ _ _ T35 (mkF m 52 _ [])
          refine Done.step (T' := T35) (g' := (mkF m 0 #[.val (.ref a), .val (.int qv), .val (.double x), .second, .val (.int iv), .val (.int qv)] [])) (fun t kk => ?_) ?_
          · show Steps p.tables e below (T35.setTop (mkF m 52 _ [])) t
            refine XS.iload P36.here P36.x rfl (hb hby d_up_52) rfl ?_
            show Steps p.tables e below (T35.setTop (mkF m 54 _ [(.int qv)])) t
            refine XS.istoreN P36.here P36.x rfl (hb hby d_up_54) rfl (l' := #[.val (.ref a), .val (.int qv), .val (.double x), .second, .val (.int iv), .val (.int qv)]) rfl ?_
            show Steps p.tables e below (T35.setTop (mkF m 55 _ [])) t
            refine XS.goto P36.here P36.x rfl (pc0 := 55) (pc' := 0) rfl (hb hby d_up_55) (by decide) (by decide) ?_
            exact kk
          have f40 := ((Fk'.other W27 (Or.inl (by first | assumption | exact Ne.symm (by assumption) | exact adr_ne (by omega) | omega))).other W38 (Or.inl (by first | assumption | exact Ne.symm (by assumption) | exact adr_ne (by omega) | omega)))
          have f41 := (f29.other W38 (Or.inl (by first | assumption | exact Ne.symm (by assumption) | exact adr_ne (by omega) | omega)))
          have f42 := ((Fs'.other W27 (Or.inl (by first | assumption | exact Ne.symm (by assumption) | exact adr_ne (by omega) | omega))).other W38 (Or.inl (by first | assumption | exact Ne.symm (by assumption) | exact adr_ne (by omega) | omega)))
          have f43 := (A28.other W38 (by first | assumption | exact Ne.symm (by assumption) | exact adr_ne (by omega) | omega))
          exact ih ((ip - 1) / 2) _ _ _ _ _ _ _ (by omega) (by omega) hqv (One.val rfl) P36 f40 f41 f42 f43 A39 (own_dupd dK' (dK' ((ip - 1) / 2) (by omega))) heq
        · rw [if_neg hl] at heq
          refine Done.stepL (pc' := 58) (st' := []) (fun t kk => ?_) ?_
          · show Steps p.tables e below (T18.setTop (mkF m 20 _ [(.int (cmpZ (K' ((ip - 1) / 2)) kv))])) t
            refine XS.ifNo P19.here P19.x rfl (hb hby d_up_20) rfl (ciW_lt_f (show ¬ ((K' ((ip - 1) / 2)) < kv) from hl)) ?_
            show Steps p.tables e below (T18.setTop (mkF m 23 _ [])) t
            refine XS.goto P19.here P19.x rfl (pc0 := 23) (pc' := 58) rfl (hb hby d_up_23) (by decide) (by decide) ?_
            exact kk
          exact fin ip _ _ _ _ _ _ _ (by omega) hpv P19 Fk' Fi' Ak' Ai' dK' heq
  show Done _ _ _ _ _ _ _ _ _ _ _ _ _ _ _ T0 (mkF m 0 _ [])
  exact loop p0 p0 _ _ _ _ _ _ _ (Nat.le_refl _) hpN hp0 One.u P0 Fk Fi Fs Ak Ai dK rfl
theorem ef_dn (m : MethodId) (x0 : Addr) (x1 : Int32) (x2 : UInt64) (x3 : Int32) : entryFrame m #[(.ref x0), (.int x1), (.double x2), (.int x3)] 6 = mkF m 0 #[.val (.ref x0), .val (.int x1), .val (.double x2), .second, .val (.int x3), .unset] [] := by first | (simp [entryFrame, mkF, argsToLocals, Value.category]; done) | rfl
theorem d_dn_104 : decode prog_15_method_10_code 104 = .ok (.aload_n 0, 1) := by decide +kernel
theorem d_dn_105 : decode prog_15_method_10_code 105 = .ok (.getfield 19, 3) := by decide +kernel
theorem d_dn_108 : decode prog_15_method_10_code 108 = .ok (.iload_n 1, 1) := by decide +kernel
theorem d_dn_109 : decode prog_15_method_10_code 109 = .ok (.dload_n 2, 1) := by decide +kernel
theorem d_dn_110 : decode prog_15_method_10_code 110 = .ok (.dastore, 1) := by decide +kernel
theorem d_dn_111 : decode prog_15_method_10_code 111 = .ok (.aload_n 0, 1) := by decide +kernel
theorem d_dn_112 : decode prog_15_method_10_code 112 = .ok (.getfield 23, 3) := by decide +kernel
theorem d_dn_115 : decode prog_15_method_10_code 115 = .ok (.iload_n 1, 1) := by decide +kernel
theorem d_dn_116 : decode prog_15_method_10_code 116 = .ok (.iload 4, 2) := by decide +kernel
theorem d_dn_118 : decode prog_15_method_10_code 118 = .ok (.iastore, 1) := by decide +kernel
theorem d_dn_119 : decode prog_15_method_10_code 119 = .ok (.return_, 1) := by decide +kernel
theorem d_dn_0 : decode prog_15_method_10_code 0 = .ok (.iconst 2, 1) := by decide +kernel
theorem d_dn_1 : decode prog_15_method_10_code 1 = .ok (.iload_n 1, 1) := by decide +kernel
theorem d_dn_2 : decode prog_15_method_10_code 2 = .ok (.imul, 1) := by decide +kernel
theorem d_dn_3 : decode prog_15_method_10_code 3 = .ok (.iconst 1, 1) := by decide +kernel
theorem d_dn_4 : decode prog_15_method_10_code 4 = .ok (.iadd, 1) := by decide +kernel
theorem d_dn_5 : decode prog_15_method_10_code 5 = .ok (.istore 5, 2) := by decide +kernel
theorem d_dn_7 : decode prog_15_method_10_code 7 = .ok (.iload 5, 2) := by decide +kernel
theorem d_dn_9 : decode prog_15_method_10_code 9 = .ok (.aload_n 0, 1) := by decide +kernel
theorem d_dn_10 : decode prog_15_method_10_code 10 = .ok (.getfield 27, 3) := by decide +kernel
theorem d_dn_13 : decode prog_15_method_10_code 13 = .ok (.if_icmp .ge 91, 3) := by decide +kernel
theorem d_dn_50 : decode prog_15_method_10_code 50 = .ok (.aload_n 0, 1) := by decide +kernel
theorem d_dn_51 : decode prog_15_method_10_code 51 = .ok (.getfield 19, 3) := by decide +kernel
theorem d_dn_54 : decode prog_15_method_10_code 54 = .ok (.iload 5, 2) := by decide +kernel
theorem d_dn_56 : decode prog_15_method_10_code 56 = .ok (.daload, 1) := by decide +kernel
theorem d_dn_57 : decode prog_15_method_10_code 57 = .ok (.dload_n 2, 1) := by decide +kernel
theorem d_dn_58 : decode prog_15_method_10_code 58 = .ok (.dcmp .g, 1) := by decide +kernel
theorem d_dn_59 : decode prog_15_method_10_code 59 = .ok (.ifCond .gt 6, 3) := by decide +kernel
theorem d_dn_65 : decode prog_15_method_10_code 65 = .ok (.aload_n 0, 1) := by decide +kernel
theorem d_dn_66 : decode prog_15_method_10_code 66 = .ok (.getfield 19, 3) := by decide +kernel
theorem d_dn_69 : decode prog_15_method_10_code 69 = .ok (.iload_n 1, 1) := by decide +kernel
theorem d_dn_70 : decode prog_15_method_10_code 70 = .ok (.aload_n 0, 1) := by decide +kernel
theorem d_dn_71 : decode prog_15_method_10_code 71 = .ok (.getfield 19, 3) := by decide +kernel
theorem d_dn_74 : decode prog_15_method_10_code 74 = .ok (.iload 5, 2) := by decide +kernel
theorem d_dn_76 : decode prog_15_method_10_code 76 = .ok (.daload, 1) := by decide +kernel
theorem d_dn_77 : decode prog_15_method_10_code 77 = .ok (.dastore, 1) := by decide +kernel
theorem d_dn_78 : decode prog_15_method_10_code 78 = .ok (.aload_n 0, 1) := by decide +kernel
theorem d_dn_79 : decode prog_15_method_10_code 79 = .ok (.getfield 23, 3) := by decide +kernel
theorem d_dn_82 : decode prog_15_method_10_code 82 = .ok (.iload_n 1, 1) := by decide +kernel
theorem d_dn_83 : decode prog_15_method_10_code 83 = .ok (.aload_n 0, 1) := by decide +kernel
theorem d_dn_84 : decode prog_15_method_10_code 84 = .ok (.getfield 23, 3) := by decide +kernel
theorem d_dn_87 : decode prog_15_method_10_code 87 = .ok (.iload 5, 2) := by decide +kernel
theorem d_dn_89 : decode prog_15_method_10_code 89 = .ok (.iaload, 1) := by decide +kernel
theorem d_dn_90 : decode prog_15_method_10_code 90 = .ok (.iastore, 1) := by decide +kernel
theorem d_dn_91 : decode prog_15_method_10_code 91 = .ok (.iload 5, 2) := by decide +kernel
theorem d_dn_93 : decode prog_15_method_10_code 93 = .ok (.istore_n 1, 1) := by decide +kernel
theorem d_dn_94 : decode prog_15_method_10_code 94 = .ok (.iconst 2, 1) := by decide +kernel
theorem d_dn_95 : decode prog_15_method_10_code 95 = .ok (.iload_n 1, 1) := by decide +kernel
theorem d_dn_96 : decode prog_15_method_10_code 96 = .ok (.imul, 1) := by decide +kernel
theorem d_dn_97 : decode prog_15_method_10_code 97 = .ok (.iconst 1, 1) := by decide +kernel
theorem d_dn_98 : decode prog_15_method_10_code 98 = .ok (.iadd, 1) := by decide +kernel
theorem d_dn_99 : decode prog_15_method_10_code 99 = .ok (.istore 5, 2) := by decide +kernel
theorem d_dn_101 : decode prog_15_method_10_code 101 = .ok (.goto (-94), 3) := by decide +kernel
theorem d_dn_62 : decode prog_15_method_10_code 62 = .ok (.goto 42, 3) := by decide +kernel
theorem d_dn_16 : decode prog_15_method_10_code 16 = .ok (.iload 5, 2) := by decide +kernel
theorem d_dn_18 : decode prog_15_method_10_code 18 = .ok (.iconst 1, 1) := by decide +kernel
theorem d_dn_19 : decode prog_15_method_10_code 19 = .ok (.iadd, 1) := by decide +kernel
theorem d_dn_20 : decode prog_15_method_10_code 20 = .ok (.aload_n 0, 1) := by decide +kernel
theorem d_dn_21 : decode prog_15_method_10_code 21 = .ok (.getfield 27, 3) := by decide +kernel
theorem d_dn_24 : decode prog_15_method_10_code 24 = .ok (.if_icmp .ge 26, 3) := by decide +kernel
theorem d_dn_27 : decode prog_15_method_10_code 27 = .ok (.aload_n 0, 1) := by decide +kernel
theorem d_dn_28 : decode prog_15_method_10_code 28 = .ok (.getfield 19, 3) := by decide +kernel
theorem d_dn_31 : decode prog_15_method_10_code 31 = .ok (.iload 5, 2) := by decide +kernel
theorem d_dn_33 : decode prog_15_method_10_code 33 = .ok (.iconst 1, 1) := by decide +kernel
theorem d_dn_34 : decode prog_15_method_10_code 34 = .ok (.iadd, 1) := by decide +kernel
theorem d_dn_35 : decode prog_15_method_10_code 35 = .ok (.daload, 1) := by decide +kernel
theorem d_dn_36 : decode prog_15_method_10_code 36 = .ok (.aload_n 0, 1) := by decide +kernel
theorem d_dn_37 : decode prog_15_method_10_code 37 = .ok (.getfield 19, 3) := by decide +kernel
theorem d_dn_40 : decode prog_15_method_10_code 40 = .ok (.iload 5, 2) := by decide +kernel
theorem d_dn_42 : decode prog_15_method_10_code 42 = .ok (.daload, 1) := by decide +kernel
theorem d_dn_43 : decode prog_15_method_10_code 43 = .ok (.dcmp .l, 1) := by decide +kernel
theorem d_dn_44 : decode prog_15_method_10_code 44 = .ok (.ifCond .le 6, 3) := by decide +kernel
theorem d_dn_47 : decode prog_15_method_10_code 47 = .ok (.iinc 5 1, 3) := by decide +kernel
set_option maxRecDepth 65536 in
set_option maxHeartbeats 4000000 in
theorem m_dn (l : Launch) (Z : State) (a0 : Array Value) (hw : ∀ d ∈ tables_1, d.before a0 Z = true) (a kb ib : Addr) (sv : Int32) (N n : Nat) (kf : Nat → UInt64) (K : Nat → Int) (J : Nat → Int32) (pv0 : Int32) (x : UInt64) (iv : Int32) (p0 : Nat) (kv : Int) (h0 : Heap) (E0 : Exa Z h0 a "com/example/urnwise/urnwise/sampler/SmallestKeys") (Fk : Fld Z h0 a "com/example/urnwise/urnwise/sampler/SmallestKeys" "keys" "[D" (.ref kb)) (Fi : Fld Z h0 a "com/example/urnwise/urnwise/sampler/SmallestKeys" "indices" "[I" (.ref ib)) (Fs : Fld Z h0 a "com/example/urnwise/urnwise/sampler/SmallestKeys" "size" "I" (.int sv)) (Ak : Ar Z h0 kb .double N (fun i => .double (kf i))) (Ai : Ar Z h0 ib .int N (fun i => .int (J i))) (n1 : a ≠ kb) (n2 : a ≠ ib) (n3 : kb ≠ ib) (hN : N ≤ 16) (hsv : sv.toInt = (n : Int)) (dK : ∀ i, i < N → DInt (K i) (kf i)) (dx : DInt kv x) (hp0 : pv0.toInt = (p0 : Int)) (hpN : p0 < N) (hnN : n ≤ N) :
    OMet l (⟨"com/example/urnwise/urnwise/sampler/SmallestKeys", "siftDown", "(IDI)V"⟩ : MethodName) prog_15_method_10_code 6 (Option.none : Option FieldType) [] ({ frames := 0, cells := 0, slots := 0, locals := 0 } : Room) Z h0 [kb, ib] #[(.ref a), (.int pv0), (.double x), (.int iv)] (fun v h' => v = none ∧ ∃ kf' : Nat → UInt64, Ar Z h' kb .double N (fun i => .double (kf' i)) ∧ (∀ i, i < N → DInt ((own_dn n n K J p0 kv iv).1 i) (kf' i)) ∧ Ar Z h' ib .int N (fun i => .int (((own_dn n n K J p0 kv iv).2) i))) := by
  refine OMet.of (own := "com/example/urnwise/urnwise/sampler/SmallestKeys") (nm := "siftDown") (plainFor_of_name pn_0) rfl rfl ?_
  intro p e s m below meth c T0 P0 hby hml hret hnm
  refine Done.step (T' := T0) (g' := (mkF m 0 #[.val (.ref a), .val (.int pv0), .val (.double x), .second, .val (.int iv), .unset] [])) (fun t kk => castTop (ef_dn m a pv0 x iv) kk) ?_
  have ltk := Ak.ltN
  have lti := Ai.ltN
  have lta := exaN E0
  have fin : ∀ (ip : Nat) (T : State) (h : Heap) (pv : Int32) (s5 : Slot) (kf' : Nat → UInt64) (K' : Nat → Int) (J' : Nat → Int32), ip < N → pv.toInt = (ip : Int) → Pos p l e ({ frames := 0, cells := 0, slots := 0, locals := 0 } : Room) s m #[(.ref a), (.int pv0), (.double x), (.int iv)] below meth c Z "com/example/urnwise/urnwise/sampler/SmallestKeys" [kb, ib] h0.size T h 0 0 → Fld Z h a "com/example/urnwise/urnwise/sampler/SmallestKeys" "keys" "[D" (.ref kb) → Fld Z h a "com/example/urnwise/urnwise/sampler/SmallestKeys" "indices" "[I" (.ref ib) → Ar Z h kb .double N (fun i => .double (kf' i)) → Ar Z h ib .int N (fun i => .int (J' i)) → (∀ i, i < N → DInt (K' i) (kf' i)) → (oupd K' ip kv, oupd J' ip iv) = own_dn n n K J p0 kv iv → Done p l e ({ frames := 0, cells := 0, slots := 0, locals := 0 } : Room) s m #[(.ref a), (.int pv0), (.double x), (.int iv)] below meth c Z "com/example/urnwise/urnwise/sampler/SmallestKeys" [kb, ib] h0.size (fun v h' => v = none ∧ ∃ kf' : Nat → UInt64, Ar Z h' kb .double N (fun i => .double (kf' i)) ∧ (∀ i, i < N → DInt ((own_dn n n K J p0 kv iv).1 i) (kf' i)) ∧ Ar Z h' ib .int N (fun i => .int (((own_dn n n K J p0 kv iv).2) i))) T (mkF m 104 #[.val (.ref a), .val (.int pv), .val (.double x), .second, .val (.int iv), s5] []) := by
    intro ip T h pv s5 kf' K' J' hp hpv P Fk' Fi' Ak' Ai' dK' heq
    refine Done.stepL (pc' := 105) (st' := [(.ref a)]) (fun t kk => ?_) ?_
    · show Steps p.tables e below (T.setTop (mkF m 104 _ [])) t
      refine XS.aloadN P.here P.x rfl (hb hby d_dn_104) rfl rfl ?_
      exact kk
    refine wGet P (host := "") (Or.inl (tw18 hw)) Via.refl Fk' (hb hby d_dn_105) rfl (fun T1 P2 => ?_)
    show Done _ _ _ _ _ _ _ _ _ _ _ _ _ _ _ T1 (mkF m 108 _ [(.ref kb)])
    refine Done.stepL (pc' := 110) (st' := [(.double x), (.int pv), (.ref kb)]) (fun t kk => ?_) ?_
    · show Steps p.tables e below (T1.setTop (mkF m 108 _ [(.ref kb)])) t
      refine XS.iloadN P2.here P2.x rfl (hb hby d_dn_108) rfl ?_
      show Steps p.tables e below (T1.setTop (mkF m 109 _ [(.int pv), (.ref kb)])) t
      refine XS.dloadN P2.here P2.x rfl (hb hby d_dn_109) rfl ?_
      exact kk
    refine wDastore P2 (f := kf') Ak' (j := pv) (i := ip) hpv hp (Or.inl (by simp)) (hb hby d_dn_110) rfl (fun T3 h5 P4 W6 A7 => ?_)
    have szh5 : h5.size = h.size := W6.size
    show Done _ _ _ _ _ _ _ _ _ _ _ _ _ _ _ T3 (mkF m 111 _ [])
    refine Done.stepL (pc' := 112) (st' := [(.ref a)]) (fun t kk => ?_) ?_
    · show Steps p.tables e below (T3.setTop (mkF m 111 _ [])) t
      refine XS.aloadN P4.here P4.x rfl (hb hby d_dn_111) rfl rfl ?_
      exact kk
    have f8 := (Fi'.other W6 (Or.inl (by first | assumption | exact Ne.symm (by assumption) | exact adr_ne (by omega) | omega)))
    refine wGet P4 (host := "") (Or.inl (tw20 hw)) Via.refl f8 (hb hby d_dn_112) rfl (fun T9 P10 => ?_)
    show Done _ _ _ _ _ _ _ _ _ _ _ _ _ _ _ T9 (mkF m 115 _ [(.ref ib)])
    refine Done.stepL (pc' := 118) (st' := [(.int iv), (.int pv), (.ref ib)]) (fun t kk => ?_) ?_
    · show Steps p.tables e below (T9.setTop (mkF m 115 _ [(.ref ib)])) t
      refine XS.iloadN P10.here P10.x rfl (hb hby d_dn_115) rfl ?_
      show Steps p.tables e below (T9.setTop (mkF m 116 _ [(.int pv), (.ref ib)])) t
      refine XS.iload P10.here P10.x rfl (hb hby d_dn_116) rfl ?_
      exact kk
    have f11 := (Ai'.other W6 (by first | assumption | exact Ne.symm (by assumption) | exact adr_ne (by omega) | omega))
    refine wIastore P10 (f := J') f11 (j := pv) (i := ip) hpv hp (Or.inl (by simp)) (hb hby d_dn_118) rfl (fun T12 h14 P13 W15 A16 => ?_)
    have szh14 : h14.size = h5.size := W15.size
    show Done _ _ _ _ _ _ _ _ _ _ _ _ _ _ _ T12 (mkF m 119 _ [])
    have f17 := (A7.other W15 (by first | assumption | exact Ne.symm (by assumption) | exact adr_ne (by omega) | omega))
    exact wRetV P13 hret (hb hby d_dn_119) ⟨rfl, _, f17, (fun i hi => by rw [← heq]; exact own_dupd dK' dx i hi), (by rw [← heq]; exact A16)⟩
  refine Done.step (T' := T0) (g' := (mkF m 7 #[.val (.ref a), .val (.int pv0), .val (.double x), .second, .val (.int iv), .val (.int (((2 : Int32) * pv0) + (1 : Int32)))] [])) (fun t kk => ?_) ?_
  · show Steps p.tables e below (T0.setTop (mkF m 0 _ [])) t
    refine XS.iconst P0.here P0.x rfl (hb hby d_dn_0) ?_
    show Steps p.tables e below (T0.setTop (mkF m 1 _ [(.int (2 : Int32))])) t
    refine XS.iloadN P0.here P0.x rfl (hb hby d_dn_1) rfl ?_
    show Steps p.tables e below (T0.setTop (mkF m 2 _ [(.int pv0), (.int (2 : Int32))])) t
    refine XS.imul P0.here P0.x rfl (hb hby d_dn_2) rfl ?_
    show Steps p.tables e below (T0.setTop (mkF m 3 _ [(.int ((2 : Int32) * pv0))])) t
    refine XS.iconst P0.here P0.x rfl (hb hby d_dn_3) ?_
    show Steps p.tables e below (T0.setTop (mkF m 4 _ [(.int (1 : Int32)), (.int ((2 : Int32) * pv0))])) t
    refine XS.iadd P0.here P0.x rfl (hb hby d_dn_4) rfl ?_
    show Steps p.tables e below (T0.setTop (mkF m 5 _ [(.int (((2 : Int32) * pv0) + (1 : Int32)))])) t
    refine XS.istore P0.here P0.x rfl (hb hby d_dn_5) rfl (l' := #[.val (.ref a), .val (.int pv0), .val (.double x), .second, .val (.int iv), .val (.int (((2 : Int32) * pv0) + (1 : Int32)))]) rfl ?_
    exact kk
  have loop : ∀ (r : Nat) (ip : Nat) (T : State) (h : Heap) (pv ch : Int32) (kf' : Nat → UInt64) (K' : Nat → Int) (J' : Nat → Int32), n ≤ ip + r → ip < N → pv.toInt = (ip : Int) → ch.toInt = ((2 * ip + 1 : Nat) : Int) → Pos p l e ({ frames := 0, cells := 0, slots := 0, locals := 0 } : Room) s m #[(.ref a), (.int pv0), (.double x), (.int iv)] below meth c Z "com/example/urnwise/urnwise/sampler/SmallestKeys" [kb, ib] h0.size T h 0 0 → Fld Z h a "com/example/urnwise/urnwise/sampler/SmallestKeys" "keys" "[D" (.ref kb) → Fld Z h a "com/example/urnwise/urnwise/sampler/SmallestKeys" "indices" "[I" (.ref ib) → Fld Z h a "com/example/urnwise/urnwise/sampler/SmallestKeys" "size" "I" (.int sv) → Ar Z h kb .double N (fun i => .double (kf' i)) → Ar Z h ib .int N (fun i => .int (J' i)) → (∀ i, i < N → DInt (K' i) (kf' i)) → own_dn r n K' J' ip kv iv = own_dn n n K J p0 kv iv → Done p l e ({ frames := 0, cells := 0, slots := 0, locals := 0 } : Room) s m #[(.ref a), (.int pv0), (.double x), (.int iv)] below meth c Z "com/example/urnwise/urnwise/sampler/SmallestKeys" [kb, ib] h0.size (fun v h' => v = none ∧ ∃ kf' : Nat → UInt64, Ar Z h' kb .double N (fun i => .double (kf' i)) ∧ (∀ i, i < N → DInt ((own_dn n n K J p0 kv iv).1 i) (kf' i)) ∧ Ar Z h' ib .int N (fun i => .int (((own_dn n n K J p0 kv iv).2) i))) T (mkF m 7 #[.val (.ref a), .val (.int pv), .val (.double x), .second, .val (.int iv), .val (.int ch)] []) := by
    intro r
    induction r with
    | zero =>
      intro ip T h pv ch kf' K' J' hr hp hpv hch P Fk' Fi' Fs' Ak' Ai' dK' heq
      refine Done.stepL (pc' := 10) (st' := [(.ref a), (.int ch)]) (fun t kk => ?_) ?_
      · show Steps p.tables e below (T.setTop (mkF m 7 _ [])) t
        refine XS.iload P.here P.x rfl (hb hby d_dn_7) rfl ?_
        show Steps p.tables e below (T.setTop (mkF m 9 _ [(.int ch)])) t
        refine XS.aloadN P.here P.x rfl (hb hby d_dn_9) rfl rfl ?_
        exact kk
      refine wGet P (host := "") (Or.inl (tw27 hw)) Via.refl Fs' (hb hby d_dn_10) rfl (fun T18 P19 => ?_)
      show Done _ _ _ _ _ _ _ _ _ _ _ _ _ _ _ T18 (mkF m 13 _ [(.int sv), (.int ch)])
      refine Done.stepL (pc' := 104) (st' := []) (fun t kk => ?_) ?_
      · show Steps p.tables e below (T18.setTop (mkF m 13 _ [(.int sv), (.int ch)])) t
        refine XS.icmpYes P19.here P19.x rfl (pc0 := 13) (pc' := 104) rfl (hb hby d_dn_13) rfl (iiW_ge_t (by rw [own_lt' hch hsv]; omega)) (by decide) (by decide) ?_
        exact kk
      exact fin ip _ _ _ _ _ _ _ (by omega) hpv P19 Fk' Fi' Ak' Ai' dK' heq
    | succ r ih =>
      intro ip T h pv ch kf' K' J' hr hp hpv hch P Fk' Fi' Fs' Ak' Ai' dK' heq
      rw [own_dn] at heq
      have mid : ∀ (T' : State) (dv : Int32) (d : Nat), dv.toInt = (d : Int) → d < n → ip < d → own_d n K' ip = d → Pos p l e ({ frames := 0, cells := 0, slots := 0, locals := 0 } : Room) s m #[(.ref a), (.int pv0), (.double x), (.int iv)] below meth c Z "com/example/urnwise/urnwise/sampler/SmallestKeys" [kb, ib] h0.size T' h 0 0 → Done p l e ({ frames := 0, cells := 0, slots := 0, locals := 0 } : Room) s m #[(.ref a), (.int pv0), (.double x), (.int iv)] below meth c Z "com/example/urnwise/urnwise/sampler/SmallestKeys" [kb, ib] h0.size (fun v h' => v = none ∧ ∃ kf' : Nat → UInt64, Ar Z h' kb .double N (fun i => .double (kf' i)) ∧ (∀ i, i < N → DInt ((own_dn n n K J p0 kv iv).1 i) (kf' i)) ∧ Ar Z h' ib .int N (fun i => .int (((own_dn n n K J p0 kv iv).2) i))) T' (mkF m 50 #[.val (.ref a), .val (.int pv), .val (.double x), .second, .val (.int iv), .val (.int dv)] []) := by
        intro T' dv d hdv hdn hpd hd P'
        rw [if_pos (show 2 * ip + 1 < n by have : own_d n K' ip = 2 * ip + 1 ∨ own_d n K' ip = 2 * ip + 2 := own_d_or n K' ip; omega), hd] at heq
        refine Done.stepL (pc' := 51) (st' := [(.ref a)]) (fun t kk => ?_) ?_
        · show Steps p.tables e below (T'.setTop (mkF m 50 _ [])) t
          refine XS.aloadN P'.here P'.x rfl (hb hby d_dn_50) rfl rfl ?_
          exact kk
        refine wGet P' (host := "") (Or.inl (tw18 hw)) Via.refl Fk' (hb hby d_dn_51) rfl (fun T20 P21 => ?_)
        show Done _ _ _ _ _ _ _ _ _ _ _ _ _ _ _ T20 (mkF m 54 _ [(.ref kb)])
        refine Done.stepL (pc' := 56) (st' := [(.int dv), (.ref kb)]) (fun t kk => ?_) ?_
        · show Steps p.tables e below (T20.setTop (mkF m 54 _ [(.ref kb)])) t
          refine XS.iload P21.here P21.x rfl (hb hby d_dn_54) rfl ?_
          exact kk
        refine wDaload P21 Ak' (j := dv) (i := d) hdv (by omega) (v := (.double (kf' d))) rfl (hb hby d_dn_56) rfl ?_
        show Done _ _ _ _ _ _ _ _ _ _ _ _ _ _ _ T20 (mkF m 57 _ [(.double (kf' d))])
        refine Done.stepL (pc' := 59) (st' := [(.int (cmpZ (K' d) kv))]) (fun t kk => ?_) ?_
        · show Steps p.tables e below (T20.setTop (mkF m 57 _ [(.double (kf' d))])) t
          refine XS.dloadN P21.here P21.x rfl (hb hby d_dn_57) rfl ?_
          show Steps p.tables e below (T20.setTop (mkF m 58 _ [(.double x), (.double (kf' d))])) t
          refine XS.dcmpS P21.here P21.x rfl (hb hby d_dn_58) rfl (dcmpZ (dK' d (by omega)) dx) ?_
          exact kk
        by_cases hl : kv < (K' d)
        · rw [if_pos hl] at heq
          refine Done.stepL (pc' := 66) (st' := [(.ref a)]) (fun t kk => ?_) ?_
          · show Steps p.tables e below (T20.setTop (mkF m 59 _ [(.int (cmpZ (K' d) kv))])) t
            refine XS.ifYes P21.here P21.x rfl (pc0 := 59) (pc' := 65) rfl (hb hby d_dn_59) rfl (ciW_gt_t hl) (by decide) (by decide) ?_
            show Steps p.tables e below (T20.setTop (mkF m 65 _ [])) t
            refine XS.aloadN P21.here P21.x rfl (hb hby d_dn_65) rfl rfl ?_
            exact kk
          refine wGet P21 (host := "") (Or.inl (tw18 hw)) Via.refl Fk' (hb hby d_dn_66) rfl (fun T22 P23 => ?_)
          show Done _ _ _ _ _ _ _ _ _ _ _ _ _ _ _ T22 (mkF m 69 _ [(.ref kb)])
          refine Done.stepL (pc' := 71) (st' := [(.ref a), (.int pv), (.ref kb)]) (fun t kk => ?_) ?_
          · show Steps p.tables e below (T22.setTop (mkF m 69 _ [(.ref kb)])) t
            refine XS.iloadN P23.here P23.x rfl (hb hby d_dn_69) rfl ?_
            show Steps p.tables e below (T22.setTop (mkF m 70 _ [(.int pv), (.ref kb)])) t
            refine XS.aloadN P23.here P23.x rfl (hb hby d_dn_70) rfl rfl ?_
            exact kk
          refine wGet P23 (host := "") (Or.inl (tw18 hw)) Via.refl Fk' (hb hby d_dn_71) rfl (fun T24 P25 => ?_)
          show Done _ _ _ _ _ _ _ _ _ _ _ _ _ _ _ T24 (mkF m 74 _ [(.ref kb), (.int pv), (.ref kb)])
          refine Done.stepL (pc' := 76) (st' := [(.int dv), (.ref kb), (.int pv), (.ref kb)]) (fun t kk => ?_) ?_
          · show Steps p.tables e below (T24.setTop (mkF m 74 _ [(.ref kb), (.int pv), (.ref kb)])) t
            refine XS.iload P25.here P25.x rfl (hb hby d_dn_74) rfl ?_
            exact kk
          refine wDaload P25 Ak' (j := dv) (i := d) hdv (by omega) (v := (.double (kf' d))) rfl (hb hby d_dn_76) rfl ?_
          show Done _ _ _ _ _ _ _ _ _ _ _ _ _ _ _ T24 (mkF m 77 _ [(.double (kf' d)), (.int pv), (.ref kb)])
          refine wDastore P25 (f := kf') Ak' (j := pv) (i := ip) hpv hp (Or.inl (by simp)) (hb hby d_dn_77) rfl (fun T26 h28 P27 W29 A30 => ?_)
          have szh28 : h28.size = h.size := W29.size
          show Done _ _ _ _ _ _ _ _ _ _ _ _ _ _ _ T26 (mkF m 78 _ [])
          refine Done.stepL (pc' := 79) (st' := [(.ref a)]) (fun t kk => ?_) ?_
          · show Steps p.tables e below (T26.setTop (mkF m 78 _ [])) t
            refine XS.aloadN P27.here P27.x rfl (hb hby d_dn_78) rfl rfl ?_
            exact kk
          have f31 := (Fi'.other W29 (Or.inl (by first | assumption | exact Ne.symm (by assumption) | exact adr_ne (by omega) | omega)))
          refine wGet P27 (host := "") (Or.inl (tw20 hw)) Via.refl f31 (hb hby d_dn_79) rfl (fun T32 P33 => ?_)
          show Done _ _ _ _ _ _ _ _ _ _ _ _ _ _ _ T32 (mkF m 82 _ [(.ref ib)])
          refine Done.stepL (pc' := 84) (st' := [(.ref a), (.int pv), (.ref ib)]) (fun t kk => ?_) ?_
          · show Steps p.tables e below (T32.setTop (mkF m 82 _ [(.ref ib)])) t
            refine XS.iloadN P33.here P33.x rfl (hb hby d_dn_82) rfl ?_
            show Steps p.tables e below (T32.setTop (mkF m 83 _ [(.int pv), (.ref ib)])) t
            refine XS.aloadN P33.here P33.x rfl (hb hby d_dn_83) rfl rfl ?_
            exact kk
          refine wGet P33 (host := "") (Or.inl (tw20 hw)) Via.refl f31 (hb hby d_dn_84) rfl (fun T34 P35 => ?_)
          show Done _ _ _ _ _ _ _ _ _ _ _ _ _ _ _ T34 (mkF m 87 _ [(.ref ib), (.int pv), (.ref ib)])
          refine Done.stepL (pc' := 89) (st' := [(.int dv), (.ref ib), (.int pv), (.ref ib)]) (fun t kk => ?_) ?_
          · show Steps p.tables e below (T34.setTop (mkF m 87 _ [(.ref ib), (.int pv), (.ref ib)])) t
            refine XS.iload P35.here P35.x rfl (hb hby d_dn_87) rfl ?_
            exact kk
          have f36 := (Ai'.other W29 (by first | assumption | exact Ne.symm (by assumption) | exact adr_ne (by omega) | omega))
          refine wIaload P35 f36 (j := dv) (i := d) hdv (by omega) (v := (.int (J' d))) rfl (hb hby d_dn_89) rfl ?_
          show Done _ _ _ _ _ _ _ _ _ _ _ _ _ _ _ T34 (mkF m 90 _ [(.int (J' d)), (.int pv), (.ref ib)])
          refine wIastore P35 (f := J') f36 (j := pv) (i := ip) hpv hp (Or.inl (by simp)) (hb hby d_dn_90) rfl (fun T37 h39 P38 W40 A41 => ?_)
          have szh39 : h39.size = h28.size := W40.size
          show Done _ _ _ _ _ _ _ _ _ _ _ _ _ _ _ T37 (mkF m 91 _ [])
          refine Done.step (T' := T37) (g' := (mkF m 7 #[.val (.ref a), .val (.int dv), .val (.double x), .second, .val (.int iv), .val (.int (((2 : Int32) * dv) + (1 : Int32)))] [])) (fun t kk => ?_) ?_
          · show Steps p.tables e below (T37.setTop (mkF m 91 _ [])) t
            refine XS.iload P38.here P38.x rfl (hb hby d_dn_91) rfl ?_
            show Steps p.tables e below (T37.setTop (mkF m 93 _ [(.int dv)])) t
            refine XS.istoreN P38.here P38.x rfl (hb hby d_dn_93) rfl (l' := #[.val (.ref a), .val (.int dv), .val (.double x), .second, .val (.int iv), .val (.int dv)]) rfl ?_
            show Steps p.tables e below (T37.setTop (mkF m 94 _ [])) t
            refine XS.iconst P38.here P38.x rfl (hb hby d_dn_94) ?_
            show Steps p.tables e below (T37.setTop (mkF m 95 _ [(.int (2 : Int32))])) t
            refine XS.iloadN P38.here P38.x rfl (hb hby d_dn_95) rfl ?_
            show Steps p.tables e below (T37.setTop (mkF m 96 _ [(.int dv), (.int (2 : Int32))])) t
            refine XS.imul P38.here P38.x rfl (hb hby d_dn_96) rfl ?_
            show Steps p.tables e below (T37.setTop (mkF m 97 _ [(.int ((2 : Int32) * dv))])) t
            refine XS.iconst P38.here P38.x rfl (hb hby d_dn_97) ?_
            show Steps p.tables e below (T37.setTop (mkF m 98 _ [(.int (1 : Int32)), (.int ((2 : Int32) * dv))])) t
            refine XS.iadd P38.here P38.x rfl (hb hby d_dn_98) rfl ?_
            show Steps p.tables e below (T37.setTop (mkF m 99 _ [(.int (((2 : Int32) * dv) + (1 : Int32)))])) t
            refine XS.istore P38.here P38.x rfl (hb hby d_dn_99) rfl (l' := #[.val (.ref a), .val (.int dv), .val (.double x), .second, .val (.int iv), .val (.int (((2 : Int32) * dv) + (1 : Int32)))]) rfl ?_
            show Steps p.tables e below (T37.setTop (mkF m 101 _ [])) t
            refine XS.goto P38.here P38.x rfl (pc0 := 101) (pc' := 7) rfl (hb hby d_dn_101) (by decide) (by decide) ?_
            exact kk
          have f42 := ((Fk'.other W29 (Or.inl (by first | assumption | exact Ne.symm (by assumption) | exact adr_ne (by omega) | omega))).other W40 (Or.inl (by first | assumption | exact Ne.symm (by assumption) | exact adr_ne (by omega) | omega)))
          have f43 := (f31.other W40 (Or.inl (by first | assumption | exact Ne.symm (by assumption) | exact adr_ne (by omega) | omega)))
          have f44 := ((Fs'.other W29 (Or.inl (by first | assumption | exact Ne.symm (by assumption) | exact adr_ne (by omega) | omega))).other W40 (Or.inl (by first | assumption | exact Ne.symm (by assumption) | exact adr_ne (by omega) | omega)))
          have f45 := (A30.other W40 (by first | assumption | exact Ne.symm (by assumption) | exact adr_ne (by omega) | omega))
          exact ih d _ _ _ _ _ _ _ (by omega) (by omega) hdv (own_ch hdv (by omega)) P38 f42 f43 f44 f45 A41 (own_dupd dK' (dK' d (by omega))) heq
        · rw [if_neg hl] at heq
          refine Done.stepL (pc' := 104) (st' := []) (fun t kk => ?_) ?_
          · show Steps p.tables e below (T20.setTop (mkF m 59 _ [(.int (cmpZ (K' d) kv))])) t
            refine XS.ifNo P21.here P21.x rfl (hb hby d_dn_59) rfl (ciW_gt_f (show ¬ (kv < (K' d)) from hl)) ?_
            show Steps p.tables e below (T20.setTop (mkF m 62 _ [])) t
            refine XS.goto P21.here P21.x rfl (pc0 := 62) (pc' := 104) rfl (hb hby d_dn_62) (by decide) (by decide) ?_
            exact kk
          exact fin ip _ _ _ _ _ _ _ (by omega) hpv P21 Fk' Fi' Ak' Ai' dK' heq
      refine Done.stepL (pc' := 10) (st' := [(.ref a), (.int ch)]) (fun t kk => ?_) ?_
      · show Steps p.tables e below (T.setTop (mkF m 7 _ [])) t
        refine XS.iload P.here P.x rfl (hb hby d_dn_7) rfl ?_
        show Steps p.tables e below (T.setTop (mkF m 9 _ [(.int ch)])) t
        refine XS.aloadN P.here P.x rfl (hb hby d_dn_9) rfl rfl ?_
        exact kk
      refine wGet P (host := "") (Or.inl (tw27 hw)) Via.refl Fs' (hb hby d_dn_10) rfl (fun T46 P47 => ?_)
      show Done _ _ _ _ _ _ _ _ _ _ _ _ _ _ _ T46 (mkF m 13 _ [(.int sv), (.int ch)])
      by_cases hc : ¬ (ch < sv)
      · rw [if_neg (fun z => hc ((own_lt' hch hsv).mpr z))] at heq
        refine Done.stepL (pc' := 104) (st' := []) (fun t kk => ?_) ?_
        · show Steps p.tables e below (T46.setTop (mkF m 13 _ [(.int sv), (.int ch)])) t
          refine XS.icmpYes P47.here P47.x rfl (pc0 := 13) (pc' := 104) rfl (hb hby d_dn_13) rfl (iiW_ge_t hc) (by decide) (by decide) ?_
          exact kk
        exact fin ip _ _ _ _ _ _ _ (by omega) hpv P47 Fk' Fi' Ak' Ai' dK' heq
      · have hc' : 2 * ip + 1 < n := (own_lt' hch hsv).mp (Decidable.not_not.mp hc)
        refine Done.stepL (pc' := 21) (st' := [(.ref a), (.int (ch + (1 : Int32)))]) (fun t kk => ?_) ?_
        · show Steps p.tables e below (T46.setTop (mkF m 13 _ [(.int sv), (.int ch)])) t
          refine XS.icmpNo P47.here P47.x rfl (hb hby d_dn_13) rfl (iiW_ge_f (show ¬ (¬ (ch < sv)) from hc)) ?_
          show Steps p.tables e below (T46.setTop (mkF m 16 _ [])) t
          refine XS.iload P47.here P47.x rfl (hb hby d_dn_16) rfl ?_
          show Steps p.tables e below (T46.setTop (mkF m 18 _ [(.int ch)])) t
          refine XS.iconst P47.here P47.x rfl (hb hby d_dn_18) ?_
          show Steps p.tables e below (T46.setTop (mkF m 19 _ [(.int (1 : Int32)), (.int ch)])) t
          refine XS.iadd P47.here P47.x rfl (hb hby d_dn_19) rfl ?_
          show Steps p.tables e below (T46.setTop (mkF m 20 _ [(.int (ch + (1 : Int32)))])) t
          refine XS.aloadN P47.here P47.x rfl (hb hby d_dn_20) rfl rfl ?_
          exact kk
        refine wGet P47 (host := "") (Or.inl (tw27 hw)) Via.refl Fs' (hb hby d_dn_21) rfl (fun T48 P49 => ?_)
        show Done _ _ _ _ _ _ _ _ _ _ _ _ _ _ _ T48 (mkF m 24 _ [(.int sv), (.int (ch + (1 : Int32)))])
        by_cases hbb : ¬ ((ch + (1 : Int32)) < sv)
        · have hd2 : ¬ (2 * ip + 2 < n) := fun z => hbb ((own_lt' (own_in hch (by omega)) hsv).mpr z)
          refine Done.stepL (pc' := 50) (st' := []) (fun t kk => ?_) ?_
          · show Steps p.tables e below (T48.setTop (mkF m 24 _ [(.int sv), (.int (ch + (1 : Int32)))])) t
            refine XS.icmpYes P49.here P49.x rfl (pc0 := 24) (pc' := 50) rfl (hb hby d_dn_24) rfl (iiW_ge_t hbb) (by decide) (by decide) ?_
            exact kk
          exact mid _ _ (2 * ip + 1) hch (by omega) (by omega) (if_neg fun z => hd2 z.1) P49
        · have hd2 : 2 * ip + 2 < n := (own_lt' (own_in hch (by omega)) hsv).mp (Decidable.not_not.mp hbb)
          refine Done.stepL (pc' := 28) (st' := [(.ref a)]) (fun t kk => ?_) ?_
          · show Steps p.tables e below (T48.setTop (mkF m 24 _ [(.int sv), (.int (ch + (1 : Int32)))])) t
            refine XS.icmpNo P49.here P49.x rfl (hb hby d_dn_24) rfl (iiW_ge_f (show ¬ (¬ ((ch + (1 : Int32)) < sv)) from hbb)) ?_
            show Steps p.tables e below (T48.setTop (mkF m 27 _ [])) t
            refine XS.aloadN P49.here P49.x rfl (hb hby d_dn_27) rfl rfl ?_
            exact kk
          refine wGet P49 (host := "") (Or.inl (tw18 hw)) Via.refl Fk' (hb hby d_dn_28) rfl (fun T50 P51 => ?_)
          show Done _ _ _ _ _ _ _ _ _ _ _ _ _ _ _ T50 (mkF m 31 _ [(.ref kb)])
          refine Done.stepL (pc' := 35) (st' := [(.int (ch + (1 : Int32))), (.ref kb)]) (fun t kk => ?_) ?_
          · show Steps p.tables e below (T50.setTop (mkF m 31 _ [(.ref kb)])) t
            refine XS.iload P51.here P51.x rfl (hb hby d_dn_31) rfl ?_
            show Steps p.tables e below (T50.setTop (mkF m 33 _ [(.int ch), (.ref kb)])) t
            refine XS.iconst P51.here P51.x rfl (hb hby d_dn_33) ?_
            show Steps p.tables e below (T50.setTop (mkF m 34 _ [(.int (1 : Int32)), (.int ch), (.ref kb)])) t
            refine XS.iadd P51.here P51.x rfl (hb hby d_dn_34) rfl ?_
            exact kk
          refine wDaload P51 Ak' (j := (ch + (1 : Int32))) (i := (2 * ip + 2)) (own_in hch (by omega)) (by omega) (v := (.double (kf' (2 * ip + 2)))) rfl (hb hby d_dn_35) rfl ?_
          show Done _ _ _ _ _ _ _ _ _ _ _ _ _ _ _ T50 (mkF m 36 _ [(.double (kf' (2 * ip + 2)))])
          refine Done.stepL (pc' := 37) (st' := [(.ref a), (.double (kf' (2 * ip + 2)))]) (fun t kk => ?_) ?_
          · show Steps p.tables e below (T50.setTop (mkF m 36 _ [(.double (kf' (2 * ip + 2)))])) t
            refine XS.aloadN P51.here P51.x rfl (hb hby d_dn_36) rfl rfl ?_
            exact kk
          refine wGet P51 (host := "") (Or.inl (tw18 hw)) Via.refl Fk' (hb hby d_dn_37) rfl (fun T52 P53 => ?_)
          show Done _ _ _ _ _ _ _ _ _ _ _ _ _ _ _ T52 (mkF m 40 _ [(.ref kb), (.double (kf' (2 * ip + 2)))])
          refine Done.stepL (pc' := 42) (st' := [(.int ch), (.ref kb), (.double (kf' (2 * ip + 2)))]) (fun t kk => ?_) ?_
          · show Steps p.tables e below (T52.setTop (mkF m 40 _ [(.ref kb), (.double (kf' (2 * ip + 2)))])) t
            refine XS.iload P53.here P53.x rfl (hb hby d_dn_40) rfl ?_
            exact kk
          refine wDaload P53 Ak' (j := ch) (i := (2 * ip + 1)) hch (by omega) (v := (.double (kf' (2 * ip + 1)))) rfl (hb hby d_dn_42) rfl ?_
          show Done _ _ _ _ _ _ _ _ _ _ _ _ _ _ _ T52 (mkF m 43 _ [(.double (kf' (2 * ip + 1))), (.double (kf' (2 * ip + 2)))])
          refine Done.stepL (pc' := 44) (st' := [(.int (cmpZ (K' (2 * ip + 2)) (K' (2 * ip + 1))))]) (fun t kk => ?_) ?_
          · show Steps p.tables e below (T52.setTop (mkF m 43 _ [(.double (kf' (2 * ip + 1))), (.double (kf' (2 * ip + 2)))])) t
            refine XS.dcmpS P53.here P53.x rfl (hb hby d_dn_43) rfl (dcmpZ (dK' (2 * ip + 2) (by omega)) (dK' (2 * ip + 1) (by omega))) ?_
            exact kk
          by_cases hg : ¬ ((K' (2 * ip + 1)) < (K' (2 * ip + 2)))
          · refine Done.stepL (pc' := 50) (st' := []) (fun t kk => ?_) ?_
            · show Steps p.tables e below (T52.setTop (mkF m 44 _ [(.int (cmpZ (K' (2 * ip + 2)) (K' (2 * ip + 1))))])) t
              refine XS.ifYes P53.here P53.x rfl (pc0 := 44) (pc' := 50) rfl (hb hby d_dn_44) rfl (ciW_le_t hg) (by decide) (by decide) ?_
              exact kk
            exact mid _ _ (2 * ip + 1) hch (by omega) (by omega) (if_neg fun z => hg z.2) P53
          · refine Done.step (T' := T52) (g' := (mkF m 50 #[.val (.ref a), .val (.int pv), .val (.double x), .second, .val (.int iv), .val (.int (ch + (1 : Int32)))] [])) (fun t kk => ?_) ?_
            · show Steps p.tables e below (T52.setTop (mkF m 44 _ [(.int (cmpZ (K' (2 * ip + 2)) (K' (2 * ip + 1))))])) t
              refine XS.ifNo P53.here P53.x rfl (hb hby d_dn_44) rfl (ciW_le_f (show ¬ (¬ ((K' (2 * ip + 1)) < (K' (2 * ip + 2)))) from hg)) ?_
              show Steps p.tables e below (T52.setTop (mkF m 47 _ [])) t
              refine XS.iinc P53.here P53.x rfl (hb hby d_dn_47) rfl (l' := #[.val (.ref a), .val (.int pv), .val (.double x), .second, .val (.int iv), .val (.int (ch + (1 : Int32)))]) rfl ?_
              exact kk
            exact mid _ _ (2 * ip + 2) (own_in hch (by omega)) (by omega) (by omega) (if_pos ⟨hd2, Decidable.not_not.mp hg⟩) P53
  exact loop n p0 _ _ _ _ _ _ _ (by omega) hpN hp0 (own_ch hp0 (by omega)) P0 Fk Fi Fs Ak Ai dK rfl
theorem ef_offA (m : MethodId) (x0 : Addr) (x1 : UInt64) (x2 : Int32) : entryFrame m #[(.ref x0), (.double x1), (.int x2)] 4 = mkF m 0 #[.val (.ref x0), .val (.double x1), .second, .val (.int x2)] [] := by first | (simp [entryFrame, mkF, argsToLocals, Value.category]; done) | rfl
theorem d_offA_0 : decode prog_15_method_2_code 0 = .ok (.aload_n 0, 1) := by decide +kernel
theorem d_offA_1 : decode prog_15_method_2_code 1 = .ok (.getfield 27, 3) := by decide +kernel
theorem d_offA_4 : decode prog_15_method_2_code 4 = .ok (.aload_n 0, 1) := by decide +kernel
theorem d_offA_5 : decode prog_15_method_2_code 5 = .ok (.getfield 7, 3) := by decide +kernel
theorem d_offA_8 : decode prog_15_method_2_code 8 = .ok (.if_icmp .ge 42, 3) := by decide +kernel
theorem d_offA_11 : decode prog_15_method_2_code 11 = .ok (.aload_n 0, 1) := by decide +kernel
theorem d_offA_12 : decode prog_15_method_2_code 12 = .ok (.getfield 27, 3) := by decide +kernel
theorem d_offA_15 : decode prog_15_method_2_code 15 = .ok (.aload_n 0, 1) := by decide +kernel
theorem d_offA_16 : decode prog_15_method_2_code 16 = .ok (.getfield 19, 3) := by decide +kernel
theorem d_offA_19 : decode prog_15_method_2_code 19 = .ok (.arraylength, 1) := by decide +kernel
theorem d_offA_20 : decode prog_15_method_2_code 20 = .ok (.if_icmp .ne 7, 3) := by decide +kernel
theorem d_offA_27 : decode prog_15_method_2_code 27 = .ok (.aload_n 0, 1) := by decide +kernel
theorem d_offA_28 : decode prog_15_method_2_code 28 = .ok (.aload_n 0, 1) := by decide +kernel
theorem d_offA_29 : decode prog_15_method_2_code 29 = .ok (.getfield 27, 3) := by decide +kernel
theorem d_offA_32 : decode prog_15_method_2_code 32 = .ok (.dload_n 1, 1) := by decide +kernel
theorem d_offA_33 : decode prog_15_method_2_code 33 = .ok (.iload_n 3, 1) := by decide +kernel
theorem d_offA_34 : decode prog_15_method_2_code 34 = .ok (.invokevirtual 33, 3) := by decide +kernel
theorem d_offA_37 : decode prog_15_method_2_code 37 = .ok (.aload_n 0, 1) := by decide +kernel
theorem d_offA_38 : decode prog_15_method_2_code 38 = .ok (.dup, 1) := by decide +kernel
theorem d_offA_39 : decode prog_15_method_2_code 39 = .ok (.getfield 27, 3) := by decide +kernel
theorem d_offA_42 : decode prog_15_method_2_code 42 = .ok (.iconst 1, 1) := by decide +kernel
theorem d_offA_43 : decode prog_15_method_2_code 43 = .ok (.iadd, 1) := by decide +kernel
theorem d_offA_44 : decode prog_15_method_2_code 44 = .ok (.putfield 27, 3) := by decide +kernel
theorem d_offA_47 : decode prog_15_method_2_code 47 = .ok (.goto 21, 3) := by decide +kernel
theorem d_offA_68 : decode prog_15_method_2_code 68 = .ok (.return_, 1) := by decide +kernel
set_option maxRecDepth 65536 in
set_option maxHeartbeats 4000000 in
theorem m_offA (l : Launch) (Z : State) (a0 : Array Value) (hw : ∀ d ∈ tables_1, d.before a0 Z = true) (a kb ib : Addr) (sv : Int32) (N n : Nat) (kf : Nat → UInt64) (K : Nat → Int) (J : Nat → Int32) (cv : Int32) (x : UInt64) (iv : Int32) (kv : Int) (sv' : Int32) (h0 : Heap) (E0 : Exa Z h0 a "com/example/urnwise/urnwise/sampler/SmallestKeys") (Fk : Fld Z h0 a "com/example/urnwise/urnwise/sampler/SmallestKeys" "keys" "[D" (.ref kb)) (Fi : Fld Z h0 a "com/example/urnwise/urnwise/sampler/SmallestKeys" "indices" "[I" (.ref ib)) (Fs : Fld Z h0 a "com/example/urnwise/urnwise/sampler/SmallestKeys" "size" "I" (.int sv)) (Fc : Fld Z h0 a "com/example/urnwise/urnwise/sampler/SmallestKeys" "capacity" "I" (.int cv)) (Ak : Ar Z h0 kb .double N (fun i => .double (kf i))) (Ai : Ar Z h0 ib .int N (fun i => .int (J i))) (n1 : a ≠ kb) (n2 : a ≠ ib) (n3 : kb ≠ ib) (hN : N ≤ 16) (hsv : sv.toInt = (n : Int)) (dK : ∀ i, i < N → DInt (K i) (kf i)) (dx : DInt kv x) (hlt : sv < cv) (hnN : n < N) (hs1 : sv + (1 : Int32) = sv') :
    OMet l (⟨"com/example/urnwise/urnwise/sampler/SmallestKeys", "offer", "(DI)V"⟩ : MethodName) prog_15_method_2_code 4 (Option.none : Option FieldType) [] ({ frames := 1, cells := 0, slots := 0, locals := 17 } : Room) Z h0 [a, kb, ib] #[(.ref a), (.double x), (.int iv)] (fun v h' => v = none ∧ ∃ kf' : Nat → UInt64, Fld Z h' a "com/example/urnwise/urnwise/sampler/SmallestKeys" "size" "I" (.int sv') ∧ Fld Z h' a "com/example/urnwise/urnwise/sampler/SmallestKeys" "keys" "[D" (.ref kb) ∧ Fld Z h' a "com/example/urnwise/urnwise/sampler/SmallestKeys" "indices" "[I" (.ref ib) ∧ Fld Z h' a "com/example/urnwise/urnwise/sampler/SmallestKeys" "capacity" "I" (.int cv) ∧ Ar Z h' kb .double N (fun i => .double (kf' i)) ∧ (∀ i, i < N → DInt ((own_of n true K J kv iv).1 i) (kf' i)) ∧ Ar Z h' ib .int N (fun i => .int (((own_of n true K J kv iv).2) i))) := by
  refine OMet.of (own := "com/example/urnwise/urnwise/sampler/SmallestKeys") (nm := "offer") (plainFor_of_name pn_0) rfl rfl ?_
  intro p e s m below meth c T0 P0 hby hml hret hnm
  refine Done.step (T' := T0) (g' := (mkF m 0 #[.val (.ref a), .val (.double x), .second, .val (.int iv)] [])) (fun t kk => castTop (ef_offA m a x iv) kk) ?_
  have ltk := Ak.ltN
  have lti := Ai.ltN
  have lta := exaN E0
  refine Done.stepL (pc' := 1) (st' := [(.ref a)]) (fun t kk => ?_) ?_
  · show Steps p.tables e below (T0.setTop (mkF m 0 _ [])) t
    refine XS.aloadN P0.here P0.x rfl (hb hby d_offA_0) rfl rfl ?_
    exact kk
  refine wGet P0 (host := "") (Or.inl (tw27 hw)) Via.refl Fs (hb hby d_offA_1) rfl (fun T1 P2 => ?_)
  show Done _ _ _ _ _ _ _ _ _ _ _ _ _ _ _ T1 (mkF m 4 _ [(.int sv)])
  refine Done.stepL (pc' := 5) (st' := [(.ref a), (.int sv)]) (fun t kk => ?_) ?_
  · show Steps p.tables e below (T1.setTop (mkF m 4 _ [(.int sv)])) t
    refine XS.aloadN P2.here P2.x rfl (hb hby d_offA_4) rfl rfl ?_
    exact kk
  refine wGet P2 (host := "") (Or.inl (tw12 hw)) Via.refl Fc (hb hby d_offA_5) rfl (fun T3 P4 => ?_)
  show Done _ _ _ _ _ _ _ _ _ _ _ _ _ _ _ T3 (mkF m 8 _ [(.int cv), (.int sv)])
  refine Done.stepL (pc' := 12) (st' := [(.ref a)]) (fun t kk => ?_) ?_
  · show Steps p.tables e below (T3.setTop (mkF m 8 _ [(.int cv), (.int sv)])) t
    refine XS.icmpNo P4.here P4.x rfl (hb hby d_offA_8) rfl (iiW_ge_f (not_not_intro hlt)) ?_
    show Steps p.tables e below (T3.setTop (mkF m 11 _ [])) t
    refine XS.aloadN P4.here P4.x rfl (hb hby d_offA_11) rfl rfl ?_
    exact kk
  refine wGet P4 (host := "") (Or.inl (tw27 hw)) Via.refl Fs (hb hby d_offA_12) rfl (fun T5 P6 => ?_)
  show Done _ _ _ _ _ _ _ _ _ _ _ _ _ _ _ T5 (mkF m 15 _ [(.int sv)])
  refine Done.stepL (pc' := 16) (st' := [(.ref a), (.int sv)]) (fun t kk => ?_) ?_
  · show Steps p.tables e below (T5.setTop (mkF m 15 _ [(.int sv)])) t
    refine XS.aloadN P6.here P6.x rfl (hb hby d_offA_15) rfl rfl ?_
    exact kk
  refine wGet P6 (host := "") (Or.inl (tw18 hw)) Via.refl Fk (hb hby d_offA_16) rfl (fun T7 P8 => ?_)
  show Done _ _ _ _ _ _ _ _ _ _ _ _ _ _ _ T7 (mkF m 19 _ [(.ref kb), (.int sv)])
  refine wLen P8 Ak (z := (Int32.ofNat N)) (own_z (by omega)) (hb hby d_offA_19) rfl ?_
  show Done _ _ _ _ _ _ _ _ _ _ _ _ _ _ _ T7 (mkF m 20 _ [(.int (Int32.ofNat N)), (.int sv)])
  refine Done.stepL (pc' := 29) (st' := [(.ref a), (.ref a)]) (fun t kk => ?_) ?_
  · show Steps p.tables e below (T7.setTop (mkF m 20 _ [(.int (Int32.ofNat N)), (.int sv)])) t
    refine XS.icmpYes P8.here P8.x rfl (pc0 := 20) (pc' := 27) rfl (hb hby d_offA_20) rfl (iiW_ne_t (fun z => by have := congrArg Int32.toInt z; rw [hsv, own_z (by omega)] at this; omega)) (by decide) (by decide) ?_
    show Steps p.tables e below (T7.setTop (mkF m 27 _ [])) t
    refine XS.aloadN P8.here P8.x rfl (hb hby d_offA_27) rfl rfl ?_
    show Steps p.tables e below (T7.setTop (mkF m 28 _ [(.ref a)])) t
    refine XS.aloadN P8.here P8.x rfl (hb hby d_offA_28) rfl rfl ?_
    exact kk
  refine wGet P8 (host := "") (Or.inl (tw27 hw)) Via.refl Fs (hb hby d_offA_29) rfl (fun T9 P10 => ?_)
  show Done _ _ _ _ _ _ _ _ _ _ _ _ _ _ _ T9 (mkF m 32 _ [(.int sv), (.ref a)])
  refine Done.stepL (pc' := 34) (st' := [(.int iv), (.double x), (.int sv), (.ref a)]) (fun t kk => ?_) ?_
  · show Steps p.tables e below (T9.setTop (mkF m 32 _ [(.int sv), (.ref a)])) t
    refine XS.dloadN P10.here P10.x rfl (hb hby d_offA_32) rfl ?_
    show Steps p.tables e below (T9.setTop (mkF m 33 _ [(.double x), (.int sv), (.ref a)])) t
    refine XS.iloadN P10.here P10.x rfl (hb hby d_offA_33) rfl ?_
    exact kk
  refine wCallP P10 (m_up l Z a0 hw a kb ib sv N n kf K J sv x iv n kv h0 E0 Fk Fi Fs Ak Ai n1 n2 n3 hN hsv dK dx hsv hnN) (tw29 hw) (tw30 hw) (tw31 hw) (tw4 hw) (tw5 hw) (tw32 hw) (by decide) E0 (by rw [hml]; rfl) (lenOf pd_0 rfl) (argsL := [(.int sv), (.double x), (.int iv)]) (rest := []) rfl rfl (W := 0) (Nat.le_of_eq rfl) (by decide) (by decide) (by decide) (by decide) (allS (Or.inl (by simp)) (allS (Or.inl (by simp)) all0)) (hb hby d_offA_34) rfl (k' := 0) (n' := 0) rfl rfl ?_
  rintro T11 h17 _ P12 K18 ⟨rfl, kf16, A13, dK15, A14⟩
  have szh17 : h0.size ≤ h17.size := K18.1
  show Done _ _ _ _ _ _ _ _ _ _ _ _ _ _ _ T11 (mkF m 37 _ [])
  refine Done.stepL (pc' := 39) (st' := [(.ref a), (.ref a)]) (fun t kk => ?_) ?_
  · show Steps p.tables e below (T11.setTop (mkF m 37 _ [])) t
    refine XS.aloadN P12.here P12.x rfl (hb hby d_offA_37) rfl rfl ?_
    show Steps p.tables e below (T11.setTop (mkF m 38 _ [(.ref a)])) t
    refine XS.dup P12.here P12.x rfl (hb hby d_offA_38) rfl rfl ?_
    exact kk
  have f19 := (Fs.keep K18 (ninS (by first | assumption | exact Ne.symm (by assumption) | exact adr_ne (by omega) | omega) (ninS (by first | assumption | exact Ne.symm (by assumption) | exact adr_ne (by omega) | omega) nin0)))
  refine wGet P12 (host := "") (Or.inl (tw27 hw)) Via.refl f19 (hb hby d_offA_39) rfl (fun T20 P21 => ?_)
  show Done _ _ _ _ _ _ _ _ _ _ _ _ _ _ _ T20 (mkF m 42 _ [(.int sv), (.ref a)])
  refine Done.stepL (pc' := 44) (st' := [(.int (sv + (1 : Int32))), (.ref a)]) (fun t kk => ?_) ?_
  · show Steps p.tables e below (T20.setTop (mkF m 42 _ [(.int sv), (.ref a)])) t
    refine XS.iconst P21.here P21.x rfl (hb hby d_offA_42) ?_
    show Steps p.tables e below (T20.setTop (mkF m 43 _ [(.int (1 : Int32)), (.int sv), (.ref a)])) t
    refine XS.iadd P21.here P21.x rfl (hb hby d_offA_43) rfl ?_
    exact kk
  have f22 := (E0.keep K18)
  refine wPut P21 (host := "") (Or.inl (tw27 hw)) Via.refl f19 f22 (Or.inl (tw28 hw)) (tw4 hw) (ty := .int) (by decide) rfl rfl (Or.inl (by simp)) (hb hby d_offA_44) rfl (fun T23 h25 P24 W26 F27 => ?_)
  have szh25 : h25.size = h17.size := W26.size
  show Done _ _ _ _ _ _ _ _ _ _ _ _ _ _ _ T23 (mkF m 47 _ [])
  refine Done.stepL (pc' := 68) (st' := []) (fun t kk => ?_) ?_
  · show Steps p.tables e below (T23.setTop (mkF m 47 _ [])) t
    refine XS.goto P24.here P24.x rfl (pc0 := 47) (pc' := 68) rfl (hb hby d_offA_47) (by decide) (by decide) ?_
    exact kk
  have f28 := ((Fk.keep K18 (ninS (by first | assumption | exact Ne.symm (by assumption) | exact adr_ne (by omega) | omega) (ninS (by first | assumption | exact Ne.symm (by assumption) | exact adr_ne (by omega) | omega) nin0))).other W26 (Or.inr (slot_ne (Or.inl (tw19 hw)) (Or.inl (tw28 hw)) (by decide) (t := (.array .double)) (t' := .int) (by decide) (by decide))))
  have f29 := ((Fi.keep K18 (ninS (by first | assumption | exact Ne.symm (by assumption) | exact adr_ne (by omega) | omega) (ninS (by first | assumption | exact Ne.symm (by assumption) | exact adr_ne (by omega) | omega) nin0))).other W26 (Or.inr (slot_ne (Or.inl (tw21 hw)) (Or.inl (tw28 hw)) (by decide) (t := (.array .int)) (t' := .int) (by decide) (by decide))))
  have f30 := ((Fc.keep K18 (ninS (by first | assumption | exact Ne.symm (by assumption) | exact adr_ne (by omega) | omega) (ninS (by first | assumption | exact Ne.symm (by assumption) | exact adr_ne (by omega) | omega) nin0))).other W26 (Or.inr (slot_ne (Or.inr (tw13 hw)) (Or.inl (tw28 hw)) (by decide) (t := .int) (t' := .int) (by decide) (by decide))))
  have f31 := (A13.other W26 (by first | assumption | exact Ne.symm (by assumption) | exact adr_ne (by omega) | omega))
  have f32 := (A14.other W26 (by first | assumption | exact Ne.symm (by assumption) | exact adr_ne (by omega) | omega))
  exact wRetV P24 hret (hb hby d_offA_68) ⟨rfl, _, hs1 ▸ F27, f28, f29, f30, f31, dK15, f32⟩
theorem ef_hpInit (m : MethodId) (x0 : Addr) (x1 : Int32) : entryFrame m #[(.ref x0), (.int x1)] 2 = mkF m 0 #[.val (.ref x0), .val (.int x1)] [] := by first | (simp [entryFrame, mkF, argsToLocals, Value.category]; done) | rfl
theorem d_hpInit_0 : decode prog_15_method_1_code 0 = .ok (.aload_n 0, 1) := by decide +kernel
theorem d_hpInit_1 : decode prog_15_method_1_code 1 = .ok (.invokespecial 1, 3) := by decide +kernel
theorem d_hpInit_4 : decode prog_15_method_1_code 4 = .ok (.aload_n 0, 1) := by decide +kernel
theorem d_hpInit_5 : decode prog_15_method_1_code 5 = .ok (.iload_n 1, 1) := by decide +kernel
theorem d_hpInit_6 : decode prog_15_method_1_code 6 = .ok (.putfield 7, 3) := by decide +kernel
theorem d_hpInit_9 : decode prog_15_method_1_code 9 = .ok (.aload_n 0, 1) := by decide +kernel
theorem d_hpInit_10 : decode prog_15_method_1_code 10 = .ok (.iload_n 1, 1) := by decide +kernel
theorem d_hpInit_11 : decode prog_15_method_1_code 11 = .ok (.bipush 16, 2) := by decide +kernel
theorem d_hpInit_13 : decode prog_15_method_1_code 13 = .ok (.invokestatic 13, 3) := by decide +kernel
theorem d_hpInit_16 : decode prog_15_method_1_code 16 = .ok (.newarray .double, 2) := by decide +kernel
theorem d_hpInit_18 : decode prog_15_method_1_code 18 = .ok (.putfield 19, 3) := by decide +kernel
theorem d_hpInit_21 : decode prog_15_method_1_code 21 = .ok (.aload_n 0, 1) := by decide +kernel
theorem d_hpInit_22 : decode prog_15_method_1_code 22 = .ok (.aload_n 0, 1) := by decide +kernel
theorem d_hpInit_23 : decode prog_15_method_1_code 23 = .ok (.getfield 19, 3) := by decide +kernel
theorem d_hpInit_26 : decode prog_15_method_1_code 26 = .ok (.arraylength, 1) := by decide +kernel
theorem d_hpInit_27 : decode prog_15_method_1_code 27 = .ok (.newarray .int, 2) := by decide +kernel
theorem d_hpInit_29 : decode prog_15_method_1_code 29 = .ok (.putfield 23, 3) := by decide +kernel
theorem d_hpInit_32 : decode prog_15_method_1_code 32 = .ok (.return_, 1) := by decide +kernel
set_option maxRecDepth 65536 in
set_option maxHeartbeats 4000000 in
theorem m_hpInit (l : Launch) (Z : State) (a0 : Array Value) (hw : ∀ d ∈ tables_1, d.before a0 Z = true) (a : Addr) (cv : Int32) (N : Nat) (h0 : Heap) (E0 : Exa Z h0 a "com/example/urnwise/urnwise/sampler/SmallestKeys") (Fc : Fld Z h0 a "com/example/urnwise/urnwise/sampler/SmallestKeys" "capacity" "I" (.int (0 : Int32))) (Fk : Fld Z h0 a "com/example/urnwise/urnwise/sampler/SmallestKeys" "keys" "[D" .null) (Fi : Fld Z h0 a "com/example/urnwise/urnwise/sampler/SmallestKeys" "indices" "[I" .null) (hz : (if (16 : Int32) < cv then (16 : Int32) else cv).toInt = (N : Int)) (hN : N ≤ 16) (Fs : Fld Z h0 a "com/example/urnwise/urnwise/sampler/SmallestKeys" "size" "I" (.int (0 : Int32))) :
    OMet l (⟨"com/example/urnwise/urnwise/sampler/SmallestKeys", "<init>", "(I)V"⟩ : MethodName) prog_15_method_1_code 2 (Option.none : Option FieldType) [] ({ frames := 1, cells := 2, slots := 32, locals := 14 } : Room) Z h0 [a] #[(.ref a), (.int cv)] (fun v h' => v = none ∧ ∃ kb ib : Addr, h0.size ≤ kb ∧ h0.size ≤ ib ∧ kb ≠ ib ∧ kb < h'.size ∧ ib < h'.size ∧ Fld Z h' a "com/example/urnwise/urnwise/sampler/SmallestKeys" "size" "I" (.int (0 : Int32)) ∧ Fld Z h' a "com/example/urnwise/urnwise/sampler/SmallestKeys" "keys" "[D" (.ref kb) ∧ Fld Z h' a "com/example/urnwise/urnwise/sampler/SmallestKeys" "indices" "[I" (.ref ib) ∧ Fld Z h' a "com/example/urnwise/urnwise/sampler/SmallestKeys" "capacity" "I" (.int cv) ∧ Ar Z h' kb .double N (fun i => .double ((fun _ => (0 : UInt64)) i)) ∧ Ar Z h' ib .int N (fun i => .int ((fun _ => (0 : Int32)) i))) := by
  refine OMet.of (own := "com/example/urnwise/urnwise/sampler/SmallestKeys") (nm := "<init>") (plainFor_of_name pn_0) rfl rfl ?_
  intro p e s m below meth c T0 P0 hby hml hret hnm
  refine Done.step (T' := T0) (g' := (mkF m 0 #[.val (.ref a), .val (.int cv)] [])) (fun t kk => castTop (ef_hpInit m a cv) kk) ?_
  have lta := exaN E0
  refine Done.stepL (pc' := 1) (st' := [(.ref a)]) (fun t kk => ?_) ?_
  · show Steps p.tables e below (T0.setTop (mkF m 0 _ [])) t
    refine XS.aloadN P0.here P0.x rfl (hb hby d_hpInit_0) rfl rfl ?_
    exact kk
  refine wInit P0 (tw9 hw) (tw10 hw) (tw11 hw) (by rw [hml]; rfl) (hb hby d_hpInit_1) (by decide) (W := 0) (Nat.le_of_eq rfl) (by decide) rfl (fun T1 P2 => ?_)
  show Done _ _ _ _ _ _ _ _ _ _ _ _ _ _ _ T1 (mkF m 4 _ [])
  refine Done.stepL (pc' := 6) (st' := [(.int cv), (.ref a)]) (fun t kk => ?_) ?_
  · show Steps p.tables e below (T1.setTop (mkF m 4 _ [])) t
    refine XS.aloadN P2.here P2.x rfl (hb hby d_hpInit_4) rfl rfl ?_
    show Steps p.tables e below (T1.setTop (mkF m 5 _ [(.ref a)])) t
    refine XS.iloadN P2.here P2.x rfl (hb hby d_hpInit_5) rfl ?_
    exact kk
  refine wPut P2 (host := "") (Or.inl (tw12 hw)) Via.refl Fc E0 (Or.inr ⟨(tw13 hw), rfl, hnm⟩) (tw4 hw) (ty := .int) (by decide) rfl rfl (Or.inl (by simp)) (hb hby d_hpInit_6) rfl (fun T3 h5 P4 W6 F7 => ?_)
  have szh5 : h5.size = h0.size := W6.size
  show Done _ _ _ _ _ _ _ _ _ _ _ _ _ _ _ T3 (mkF m 9 _ [])
  refine Done.stepL (pc' := 13) (st' := [(.int (16 : Int32)), (.int cv), (.ref a)]) (fun t kk => ?_) ?_
  · show Steps p.tables e below (T3.setTop (mkF m 9 _ [])) t
    refine XS.aloadN P4.here P4.x rfl (hb hby d_hpInit_9) rfl rfl ?_
    show Steps p.tables e below (T3.setTop (mkF m 10 _ [(.ref a)])) t
    refine XS.iloadN P4.here P4.x rfl (hb hby d_hpInit_10) rfl ?_
    show Steps p.tables e below (T3.setTop (mkF m 11 _ [(.int cv), (.ref a)])) t
    refine XS.bipush P4.here P4.x rfl (hb hby d_hpInit_11) ?_
    exact kk
  refine wCallS P4 (m_min l Z a0 hw cv (16 : Int32) h5) (tw14 hw) (tw15 hw) (tw16 hw) (tw17 hw) (by decide) (by rw [hml]; rfl) (lenOf pd_1 rfl) (argsL := [(.int cv), (.int (16 : Int32))]) (rest := [(.ref a)]) rfl rfl (W := 1) (Nat.le_of_eq rfl) (by decide) (by decide) (by decide) (by decide) (by simp) (hb hby d_hpInit_13) rfl (k' := 0) (n' := 0) rfl rfl ?_
  rintro T8 _ _ P9 - ⟨rfl, rfl⟩
  show Done _ _ _ _ _ _ _ _ _ _ _ _ _ _ _ T8 (mkF m 16 _ [(.int (if (16 : Int32) < cv then (16 : Int32) else cv)), (.ref a)])
  refine wNewA (aty := .double) P9 (tw0 hw) (hb hby d_hpInit_16) rfl (N := N) hz (cap := 16) hN (by decide) (by decide) (by decide) (ad := "[D") (by decide) (ty := .double) (dv := (.double (0 : UInt64))) rfl rfl (k' := 1) (n' := 16) rfl rfl (fun T10 h12 b13 g14 lt15 P11 E16 A17 X18 => ?_)
  have ge_b13 : h0.size ≤ b13 := by have := P9.ge; omega
  show Done _ _ _ _ _ _ _ _ _ _ _ _ _ _ _ T10 (mkF m 18 _ [(.ref b13), (.ref a)])
  have f19 := ((Fk.other W6 (Or.inr (slot_ne (Or.inl (tw19 hw)) (Or.inr (tw13 hw)) (by decide) (t := (.array .double)) (t' := .int) (by decide) (by decide)))).ext E16)
  have f20 := ((E0.wr W6).ext E16)
  refine wPut P11 (host := "") (Or.inl (tw18 hw)) Via.refl f19 f20 (Or.inl (tw19 hw)) (tw4 hw) (ty := (.array .double)) (by decide) rfl rfl (Or.inl (by simp)) (hb hby d_hpInit_18) rfl (fun T21 h23 P22 W24 F25 => ?_)
  have szh23 : h23.size = h12.size := W24.size
  show Done _ _ _ _ _ _ _ _ _ _ _ _ _ _ _ T21 (mkF m 21 _ [])
  refine Done.stepL (pc' := 23) (st' := [(.ref a), (.ref a)]) (fun t kk => ?_) ?_
  · show Steps p.tables e below (T21.setTop (mkF m 21 _ [])) t
    refine XS.aloadN P22.here P22.x rfl (hb hby d_hpInit_21) rfl rfl ?_
    show Steps p.tables e below (T21.setTop (mkF m 22 _ [(.ref a)])) t
    refine XS.aloadN P22.here P22.x rfl (hb hby d_hpInit_22) rfl rfl ?_
    exact kk
  refine wGet P22 (host := "") (Or.inl (tw18 hw)) Via.refl F25 (hb hby d_hpInit_23) rfl (fun T26 P27 => ?_)
  show Done _ _ _ _ _ _ _ _ _ _ _ _ _ _ _ T26 (mkF m 26 _ [(.ref b13), (.ref a)])
  have f28 := (A17.other W24 (by first | assumption | exact Ne.symm (by assumption) | exact adr_ne (by omega) | omega))
  refine wLen P27 f28 (z := (if (16 : Int32) < cv then (16 : Int32) else cv)) hz (hb hby d_hpInit_26) rfl ?_
  show Done _ _ _ _ _ _ _ _ _ _ _ _ _ _ _ T26 (mkF m 27 _ [(.int (if (16 : Int32) < cv then (16 : Int32) else cv)), (.ref a)])
  refine wNewA (aty := .int) P27 (tw2 hw) (hb hby d_hpInit_27) rfl (N := N) hz (cap := 16) hN (by decide) (by decide) (by decide) (ad := "[I") (by decide) (ty := .int) (dv := (.int (0 : Int32))) rfl rfl (k' := 2) (n' := 32) rfl rfl (fun T29 h31 b32 g33 lt34 P30 E35 A36 X37 => ?_)
  have ge_b32 : h0.size ≤ b32 := by have := P27.ge; omega
  show Done _ _ _ _ _ _ _ _ _ _ _ _ _ _ _ T29 (mkF m 29 _ [(.ref b32), (.ref a)])
  have f38 := ((((Fi.other W6 (Or.inr (slot_ne (Or.inl (tw21 hw)) (Or.inr (tw13 hw)) (by decide) (t := (.array .int)) (t' := .int) (by decide) (by decide)))).ext E16).other W24 (Or.inr (slot_ne (Or.inl (tw21 hw)) (Or.inl (tw19 hw)) (by decide) (t := (.array .int)) (t' := (.array .double)) (by decide) (by decide)))).ext E35)
  have f39 := ((f20.wr W24).ext E35)
  refine wPut P30 (host := "") (Or.inl (tw20 hw)) Via.refl f38 f39 (Or.inl (tw21 hw)) (tw4 hw) (ty := (.array .int)) (by decide) rfl rfl (Or.inl (by simp)) (hb hby d_hpInit_29) rfl (fun T40 h42 P41 W43 F44 => ?_)
  have szh42 : h42.size = h31.size := W43.size
  show Done _ _ _ _ _ _ _ _ _ _ _ _ _ _ _ T40 (mkF m 32 _ [])
  have f45 := ((f28.ext E35).other W43 (by first | assumption | exact Ne.symm (by assumption) | exact adr_ne (by omega) | omega))
  have f46 := (A36.other W43 (by first | assumption | exact Ne.symm (by assumption) | exact adr_ne (by omega) | omega))
  have f47 := (((((Fs.other W6 (Or.inr (slot_ne (Or.inl (tw28 hw)) (Or.inr (tw13 hw)) (by decide) (t := .int) (t' := .int) (by decide) (by decide)))).ext E16).other W24 (Or.inr (slot_ne (Or.inl (tw28 hw)) (Or.inl (tw19 hw)) (by decide) (t := .int) (t' := (.array .double)) (by decide) (by decide)))).ext E35).other W43 (Or.inr (slot_ne (Or.inl (tw28 hw)) (Or.inl (tw21 hw)) (by decide) (t := .int) (t' := (.array .int)) (by decide) (by decide))))
  have f48 := ((F25.ext E35).other W43 (Or.inr (slot_ne (Or.inl (tw19 hw)) (Or.inl (tw21 hw)) (by decide) (t := (.array .double)) (t' := (.array .int)) (by decide) (by decide))))
  have f49 := ((((F7.ext E16).other W24 (Or.inr (slot_ne (Or.inr (tw13 hw)) (Or.inl (tw19 hw)) (by decide) (t := .int) (t' := (.array .double)) (by decide) (by decide)))).ext E35).other W43 (Or.inr (slot_ne (Or.inr (tw13 hw)) (Or.inl (tw21 hw)) (by decide) (t := .int) (t' := (.array .int)) (by decide) (by decide))))
  exact wRetV P41 hret (hb hby d_hpInit_32) ⟨rfl, b13, b32, ge_b13, ge_b32, (by first | omega | exact adr_ne (by omega)), f45.lt, f46.lt, f47, f48, F44, f49, f45, f46⟩
theorem ef_size (m : MethodId) (x0 : Addr) : entryFrame m #[(.ref x0)] 1 = mkF m 0 #[.val (.ref x0)] [] := by first | (simp [entryFrame, mkF, argsToLocals, Value.category]; done) | rfl
theorem d_size_0 : decode prog_15_method_3_code 0 = .ok (.aload_n 0, 1) := by decide +kernel
theorem d_size_1 : decode prog_15_method_3_code 1 = .ok (.getfield 27, 3) := by decide +kernel
theorem d_size_4 : decode prog_15_method_3_code 4 = .ok (.ireturn, 1) := by decide +kernel
set_option maxRecDepth 65536 in
set_option maxHeartbeats 4000000 in
theorem m_size (l : Launch) (Z : State) (a0 : Array Value) (hw : ∀ d ∈ tables_1, d.before a0 Z = true) (a : Addr) (w : Int32) (h0 : Heap) (F0 : Fld Z h0 a "com/example/urnwise/urnwise/sampler/SmallestKeys" "size" "I" (.int w)) :
    OMet l (⟨"com/example/urnwise/urnwise/sampler/SmallestKeys", "size", "()I"⟩ : MethodName) prog_15_method_3_code 1 (Option.some FieldType.int) [] ({ frames := 0, cells := 0, slots := 0, locals := 0 } : Room) Z h0 [] #[(.ref a)] (fun v h' => v = some (.int w) ∧ h0 = h') := by
  refine OMet.of (own := "com/example/urnwise/urnwise/sampler/SmallestKeys") (nm := "size") (plainFor_of_name pn_0) rfl rfl ?_
  intro p e s m below meth c T0 P0 hby hml hret hnm
  refine Done.step (T' := T0) (g' := (mkF m 0 #[.val (.ref a)] [])) (fun t kk => castTop (ef_size m a) kk) ?_
  refine Done.stepL (pc' := 1) (st' := [(.ref a)]) (fun t kk => ?_) ?_
  · show Steps p.tables e below (T0.setTop (mkF m 0 _ [])) t
    refine XS.aloadN P0.here P0.x rfl (hb hby d_size_0) rfl rfl ?_
    exact kk
  refine wGet P0 (host := "") (Or.inl (tw27 hw)) Via.refl F0 (hb hby d_size_1) rfl (fun T1 P2 => ?_)
  show Done _ _ _ _ _ _ _ _ _ _ _ _ _ _ _ T1 (mkF m 4 _ [(.int w)])
  exact wRetI P2 hret (hb hby d_size_4) ⟨rfl, rfl⟩
theorem ef_rl (m : MethodId) (x0 : Addr) : entryFrame m #[(.ref x0)] 2 = mkF m 0 #[.val (.ref x0), .unset] [] := by first | (simp [entryFrame, mkF, argsToLocals, Value.category]; done) | rfl
theorem d_rl_0 : decode prog_15_method_8_code 0 = .ok (.aload_n 0, 1) := by decide +kernel
theorem d_rl_1 : decode prog_15_method_8_code 1 = .ok (.getfield 23, 3) := by decide +kernel
theorem d_rl_4 : decode prog_15_method_8_code 4 = .ok (.iconst 0, 1) := by decide +kernel
theorem d_rl_5 : decode prog_15_method_8_code 5 = .ok (.iaload, 1) := by decide +kernel
theorem d_rl_6 : decode prog_15_method_8_code 6 = .ok (.istore_n 1, 1) := by decide +kernel
theorem d_rl_7 : decode prog_15_method_8_code 7 = .ok (.aload_n 0, 1) := by decide +kernel
theorem d_rl_8 : decode prog_15_method_8_code 8 = .ok (.dup, 1) := by decide +kernel
theorem d_rl_9 : decode prog_15_method_8_code 9 = .ok (.getfield 27, 3) := by decide +kernel
theorem d_rl_12 : decode prog_15_method_8_code 12 = .ok (.iconst 1, 1) := by decide +kernel
theorem d_rl_13 : decode prog_15_method_8_code 13 = .ok (.isub, 1) := by decide +kernel
theorem d_rl_14 : decode prog_15_method_8_code 14 = .ok (.putfield 27, 3) := by decide +kernel
theorem d_rl_17 : decode prog_15_method_8_code 17 = .ok (.aload_n 0, 1) := by decide +kernel
theorem d_rl_18 : decode prog_15_method_8_code 18 = .ok (.iconst 0, 1) := by decide +kernel
theorem d_rl_19 : decode prog_15_method_8_code 19 = .ok (.aload_n 0, 1) := by decide +kernel
theorem d_rl_20 : decode prog_15_method_8_code 20 = .ok (.getfield 19, 3) := by decide +kernel
theorem d_rl_23 : decode prog_15_method_8_code 23 = .ok (.aload_n 0, 1) := by decide +kernel
theorem d_rl_24 : decode prog_15_method_8_code 24 = .ok (.getfield 27, 3) := by decide +kernel
theorem d_rl_27 : decode prog_15_method_8_code 27 = .ok (.daload, 1) := by decide +kernel
theorem d_rl_28 : decode prog_15_method_8_code 28 = .ok (.aload_n 0, 1) := by decide +kernel
theorem d_rl_29 : decode prog_15_method_8_code 29 = .ok (.getfield 23, 3) := by decide +kernel
theorem d_rl_32 : decode prog_15_method_8_code 32 = .ok (.aload_n 0, 1) := by decide +kernel
theorem d_rl_33 : decode prog_15_method_8_code 33 = .ok (.getfield 27, 3) := by decide +kernel
theorem d_rl_36 : decode prog_15_method_8_code 36 = .ok (.iaload, 1) := by decide +kernel
theorem d_rl_37 : decode prog_15_method_8_code 37 = .ok (.invokevirtual 37, 3) := by decide +kernel
theorem d_rl_40 : decode prog_15_method_8_code 40 = .ok (.iload_n 1, 1) := by decide +kernel
theorem d_rl_41 : decode prog_15_method_8_code 41 = .ok (.ireturn, 1) := by decide +kernel
set_option maxRecDepth 65536 in
set_option maxHeartbeats 4000000 in
theorem m_rl (l : Launch) (Z : State) (a0 : Array Value) (hw : ∀ d ∈ tables_1, d.before a0 Z = true) (a kb ib : Addr) (sv : Int32) (N n : Nat) (kf : Nat → UInt64) (K : Nat → Int) (J : Nat → Int32) (cv sv' : Int32) (n' : Nat) (h0 : Heap) (E0 : Exa Z h0 a "com/example/urnwise/urnwise/sampler/SmallestKeys") (Fk : Fld Z h0 a "com/example/urnwise/urnwise/sampler/SmallestKeys" "keys" "[D" (.ref kb)) (Fi : Fld Z h0 a "com/example/urnwise/urnwise/sampler/SmallestKeys" "indices" "[I" (.ref ib)) (Fs : Fld Z h0 a "com/example/urnwise/urnwise/sampler/SmallestKeys" "size" "I" (.int sv)) (Fc : Fld Z h0 a "com/example/urnwise/urnwise/sampler/SmallestKeys" "capacity" "I" (.int cv)) (Ak : Ar Z h0 kb .double N (fun i => .double (kf i))) (Ai : Ar Z h0 ib .int N (fun i => .int (J i))) (n1 : a ≠ kb) (n2 : a ≠ ib) (n3 : kb ≠ ib) (hN : N ≤ 16) (hsv : sv.toInt = (n : Int)) (dK : ∀ i, i < N → DInt (K i) (kf i)) (hn' : n = n' + 1) (hsv' : sv'.toInt = (n' : Int)) (hs1 : sv - (1 : Int32) = sv') (hnN : n ≤ N) :
    OMet l (⟨"com/example/urnwise/urnwise/sampler/SmallestKeys", "removeLargest", "()I"⟩ : MethodName) prog_15_method_8_code 2 (Option.some FieldType.int) [] ({ frames := 1, cells := 0, slots := 0, locals := 17 } : Room) Z h0 [a, kb, ib] #[(.ref a)] (fun v h' => v = some (.int (J 0)) ∧ ∃ kf' : Nat → UInt64, Fld Z h' a "com/example/urnwise/urnwise/sampler/SmallestKeys" "size" "I" (.int sv') ∧ Fld Z h' a "com/example/urnwise/urnwise/sampler/SmallestKeys" "keys" "[D" (.ref kb) ∧ Fld Z h' a "com/example/urnwise/urnwise/sampler/SmallestKeys" "indices" "[I" (.ref ib) ∧ Fld Z h' a "com/example/urnwise/urnwise/sampler/SmallestKeys" "capacity" "I" (.int cv) ∧ Ar Z h' kb .double N (fun i => .double (kf' i)) ∧ (∀ i, i < N → DInt ((own_dn n' n' K J 0 (K n') (J n')).1 i) (kf' i)) ∧ Ar Z h' ib .int N (fun i => .int (((own_dn n' n' K J 0 (K n') (J n')).2) i))) := by
  refine OMet.of (own := "com/example/urnwise/urnwise/sampler/SmallestKeys") (nm := "removeLargest") (plainFor_of_name pn_0) rfl rfl ?_
  intro p e s m below meth c T0 P0 hby hml hret hnm
  refine Done.step (T' := T0) (g' := (mkF m 0 #[.val (.ref a), .unset] [])) (fun t kk => castTop (ef_rl m a) kk) ?_
  have ltk := Ak.ltN
  have lti := Ai.ltN
  have lta := exaN E0
  have hs2 : (sv - (1 : Int32)).toInt = (n' : Int) := by rw [hs1]; exact hsv'
  refine Done.stepL (pc' := 1) (st' := [(.ref a)]) (fun t kk => ?_) ?_
  · show Steps p.tables e below (T0.setTop (mkF m 0 _ [])) t
    refine XS.aloadN P0.here P0.x rfl (hb hby d_rl_0) rfl rfl ?_
    exact kk
  refine wGet P0 (host := "") (Or.inl (tw20 hw)) Via.refl Fi (hb hby d_rl_1) rfl (fun T1 P2 => ?_)
  show Done _ _ _ _ _ _ _ _ _ _ _ _ _ _ _ T1 (mkF m 4 _ [(.ref ib)])
  refine Done.stepL (pc' := 5) (st' := [(.int (0 : Int32)), (.ref ib)]) (fun t kk => ?_) ?_
  · show Steps p.tables e below (T1.setTop (mkF m 4 _ [(.ref ib)])) t
    refine XS.iconst P2.here P2.x rfl (hb hby d_rl_4) ?_
    exact kk
  refine wIaload P2 Ai (j := (0 : Int32)) (i := 0) rfl (by omega) (v := (.int (J 0))) rfl (hb hby d_rl_5) rfl ?_
  show Done _ _ _ _ _ _ _ _ _ _ _ _ _ _ _ T1 (mkF m 6 _ [(.int (J 0))])
  refine Done.step (T' := T1) (g' := (mkF m 9 #[.val (.ref a), .val (.int (J 0))] [(.ref a), (.ref a)])) (fun t kk => ?_) ?_
  · show Steps p.tables e below (T1.setTop (mkF m 6 _ [(.int (J 0))])) t
    refine XS.istoreN P2.here P2.x rfl (hb hby d_rl_6) rfl (l' := #[.val (.ref a), .val (.int (J 0))]) rfl ?_
    show Steps p.tables e below (T1.setTop (mkF m 7 _ [])) t
    refine XS.aloadN P2.here P2.x rfl (hb hby d_rl_7) rfl rfl ?_
    show Steps p.tables e below (T1.setTop (mkF m 8 _ [(.ref a)])) t
    refine XS.dup P2.here P2.x rfl (hb hby d_rl_8) rfl rfl ?_
    exact kk
  refine wGet P2 (host := "") (Or.inl (tw27 hw)) Via.refl Fs (hb hby d_rl_9) rfl (fun T3 P4 => ?_)
  show Done _ _ _ _ _ _ _ _ _ _ _ _ _ _ _ T3 (mkF m 12 _ [(.int sv), (.ref a)])
  refine Done.stepL (pc' := 14) (st' := [(.int (sv - (1 : Int32))), (.ref a)]) (fun t kk => ?_) ?_
  · show Steps p.tables e below (T3.setTop (mkF m 12 _ [(.int sv), (.ref a)])) t
    refine XS.iconst P4.here P4.x rfl (hb hby d_rl_12) ?_
    show Steps p.tables e below (T3.setTop (mkF m 13 _ [(.int (1 : Int32)), (.int sv), (.ref a)])) t
    refine XS.isub P4.here P4.x rfl (hb hby d_rl_13) rfl ?_
    exact kk
  refine wPut P4 (host := "") (Or.inl (tw27 hw)) Via.refl Fs E0 (Or.inl (tw28 hw)) (tw4 hw) (ty := .int) (by decide) rfl rfl (Or.inl (by simp)) (hb hby d_rl_14) rfl (fun T5 h7 P6 W8 F9 => ?_)
  have szh7 : h7.size = h0.size := W8.size
  show Done _ _ _ _ _ _ _ _ _ _ _ _ _ _ _ T5 (mkF m 17 _ [])
  refine Done.stepL (pc' := 20) (st' := [(.ref a), (.int (0 : Int32)), (.ref a)]) (fun t kk => ?_) ?_
  · show Steps p.tables e below (T5.setTop (mkF m 17 _ [])) t
    refine XS.aloadN P6.here P6.x rfl (hb hby d_rl_17) rfl rfl ?_
    show Steps p.tables e below (T5.setTop (mkF m 18 _ [(.ref a)])) t
    refine XS.iconst P6.here P6.x rfl (hb hby d_rl_18) ?_
    show Steps p.tables e below (T5.setTop (mkF m 19 _ [(.int (0 : Int32)), (.ref a)])) t
    refine XS.aloadN P6.here P6.x rfl (hb hby d_rl_19) rfl rfl ?_
    exact kk
  have f10 := (Fk.other W8 (Or.inr (slot_ne (Or.inl (tw19 hw)) (Or.inl (tw28 hw)) (by decide) (t := (.array .double)) (t' := .int) (by decide) (by decide))))
  refine wGet P6 (host := "") (Or.inl (tw18 hw)) Via.refl f10 (hb hby d_rl_20) rfl (fun T11 P12 => ?_)
  show Done _ _ _ _ _ _ _ _ _ _ _ _ _ _ _ T11 (mkF m 23 _ [(.ref kb), (.int (0 : Int32)), (.ref a)])
  refine Done.stepL (pc' := 24) (st' := [(.ref a), (.ref kb), (.int (0 : Int32)), (.ref a)]) (fun t kk => ?_) ?_
  · show Steps p.tables e below (T11.setTop (mkF m 23 _ [(.ref kb), (.int (0 : Int32)), (.ref a)])) t
    refine XS.aloadN P12.here P12.x rfl (hb hby d_rl_23) rfl rfl ?_
    exact kk
  refine wGet P12 (host := "") (Or.inl (tw27 hw)) Via.refl F9 (hb hby d_rl_24) rfl (fun T13 P14 => ?_)
  show Done _ _ _ _ _ _ _ _ _ _ _ _ _ _ _ T13 (mkF m 27 _ [(.int (sv - (1 : Int32))), (.ref kb), (.int (0 : Int32)), (.ref a)])
  have f15 := (Ak.other W8 (by first | assumption | exact Ne.symm (by assumption) | exact adr_ne (by omega) | omega))
  refine wDaload P14 f15 (j := (sv - (1 : Int32))) (i := n') hs2 (by omega) (v := (.double (kf n'))) rfl (hb hby d_rl_27) rfl ?_
  show Done _ _ _ _ _ _ _ _ _ _ _ _ _ _ _ T13 (mkF m 28 _ [(.double (kf n')), (.int (0 : Int32)), (.ref a)])
  refine Done.stepL (pc' := 29) (st' := [(.ref a), (.double (kf n')), (.int (0 : Int32)), (.ref a)]) (fun t kk => ?_) ?_
  · show Steps p.tables e below (T13.setTop (mkF m 28 _ [(.double (kf n')), (.int (0 : Int32)), (.ref a)])) t
    refine XS.aloadN P14.here P14.x rfl (hb hby d_rl_28) rfl rfl ?_
    exact kk
  have f16 := (Fi.other W8 (Or.inr (slot_ne (Or.inl (tw21 hw)) (Or.inl (tw28 hw)) (by decide) (t := (.array .int)) (t' := .int) (by decide) (by decide))))
  refine wGet P14 (host := "") (Or.inl (tw20 hw)) Via.refl f16 (hb hby d_rl_29) rfl (fun T17 P18 => ?_)
  show Done _ _ _ _ _ _ _ _ _ _ _ _ _ _ _ T17 (mkF m 32 _ [(.ref ib), (.double (kf n')), (.int (0 : Int32)), (.ref a)])
  refine Done.stepL (pc' := 33) (st' := [(.ref a), (.ref ib), (.double (kf n')), (.int (0 : Int32)), (.ref a)]) (fun t kk => ?_) ?_
  · show Steps p.tables e below (T17.setTop (mkF m 32 _ [(.ref ib), (.double (kf n')), (.int (0 : Int32)), (.ref a)])) t
    refine XS.aloadN P18.here P18.x rfl (hb hby d_rl_32) rfl rfl ?_
    exact kk
  refine wGet P18 (host := "") (Or.inl (tw27 hw)) Via.refl F9 (hb hby d_rl_33) rfl (fun T19 P20 => ?_)
  show Done _ _ _ _ _ _ _ _ _ _ _ _ _ _ _ T19 (mkF m 36 _ [(.int (sv - (1 : Int32))), (.ref ib), (.double (kf n')), (.int (0 : Int32)), (.ref a)])
  have f21 := (Ai.other W8 (by first | assumption | exact Ne.symm (by assumption) | exact adr_ne (by omega) | omega))
  refine wIaload P20 f21 (j := (sv - (1 : Int32))) (i := n') hs2 (by omega) (v := (.int (J n'))) rfl (hb hby d_rl_36) rfl ?_
  show Done _ _ _ _ _ _ _ _ _ _ _ _ _ _ _ T19 (mkF m 37 _ [(.int (J n')), (.double (kf n')), (.int (0 : Int32)), (.ref a)])
  have f28 := (E0.wr W8)
  refine wCallP P20 (m_dn l Z a0 hw a kb ib (sv - (1 : Int32)) N n' kf K J (0 : Int32) (kf n') (J n') 0 (K n') h7 f28 f10 f16 F9 f15 f21 n1 n2 n3 hN hs2 dK (dK n' (by omega)) rfl (by omega) (by omega)) (tw38 hw) (tw39 hw) (tw40 hw) (tw4 hw) (tw5 hw) (tw41 hw) (by decide) f28 (by rw [hml]; rfl) (lenOf pd_0 rfl) (argsL := [(.int (0 : Int32)), (.double (kf n')), (.int (J n'))]) (rest := []) rfl rfl (W := 0) (Nat.le_of_eq rfl) (by decide) (by decide) (by decide) (by decide) (allS (Or.inl (by simp)) (allS (Or.inl (by simp)) all0)) (hb hby d_rl_37) rfl (k' := 0) (n' := 0) rfl rfl ?_
  rintro T22 h29 _ P23 K30 ⟨rfl, kf27, A24, dK26, A25⟩
  have szh29 : h7.size ≤ h29.size := K30.1
  show Done _ _ _ _ _ _ _ _ _ _ _ _ _ _ _ T22 (mkF m 40 _ [])
  refine Done.stepL (pc' := 41) (st' := [(.int (J 0))]) (fun t kk => ?_) ?_
  · show Steps p.tables e below (T22.setTop (mkF m 40 _ [])) t
    refine XS.iloadN P23.here P23.x rfl (hb hby d_rl_40) rfl ?_
    exact kk
  have f31 := (F9.keep K30 (ninS (by first | assumption | exact Ne.symm (by assumption) | exact adr_ne (by omega) | omega) (ninS (by first | assumption | exact Ne.symm (by assumption) | exact adr_ne (by omega) | omega) nin0)))
  have f32 := (f10.keep K30 (ninS (by first | assumption | exact Ne.symm (by assumption) | exact adr_ne (by omega) | omega) (ninS (by first | assumption | exact Ne.symm (by assumption) | exact adr_ne (by omega) | omega) nin0)))
  have f33 := (f16.keep K30 (ninS (by first | assumption | exact Ne.symm (by assumption) | exact adr_ne (by omega) | omega) (ninS (by first | assumption | exact Ne.symm (by assumption) | exact adr_ne (by omega) | omega) nin0)))
  have f34 := ((Fc.other W8 (Or.inr (slot_ne (Or.inr (tw13 hw)) (Or.inl (tw28 hw)) (by decide) (t := .int) (t' := .int) (by decide) (by decide)))).keep K30 (ninS (by first | assumption | exact Ne.symm (by assumption) | exact adr_ne (by omega) | omega) (ninS (by first | assumption | exact Ne.symm (by assumption) | exact adr_ne (by omega) | omega) nin0)))
  exact wRetI P23 hret (hb hby d_rl_41) ⟨rfl, _, hs1 ▸ f31, f32, f33, f34, A24, dK26, A25⟩
theorem ef_ra (m : MethodId) (x0 : Addr) : entryFrame m #[(.ref x0)] 3 = mkF m 0 #[.val (.ref x0), .unset, .unset] [] := by first | (simp [entryFrame, mkF, argsToLocals, Value.category]; done) | rfl
theorem d_ra_0 : decode prog_15_method_7_code 0 = .ok (.aload_n 0, 1) := by decide +kernel
theorem d_ra_1 : decode prog_15_method_7_code 1 = .ok (.getfield 27, 3) := by decide +kernel
theorem d_ra_4 : decode prog_15_method_7_code 4 = .ok (.newarray .int, 2) := by decide +kernel
theorem d_ra_6 : decode prog_15_method_7_code 6 = .ok (.astore_n 1, 1) := by decide +kernel
theorem d_ra_7 : decode prog_15_method_7_code 7 = .ok (.aload_n 0, 1) := by decide +kernel
theorem d_ra_8 : decode prog_15_method_7_code 8 = .ok (.getfield 27, 3) := by decide +kernel
theorem d_ra_11 : decode prog_15_method_7_code 11 = .ok (.iconst 1, 1) := by decide +kernel
theorem d_ra_12 : decode prog_15_method_7_code 12 = .ok (.isub, 1) := by decide +kernel
theorem d_ra_13 : decode prog_15_method_7_code 13 = .ok (.istore_n 2, 1) := by decide +kernel
theorem d_ra_14 : decode prog_15_method_7_code 14 = .ok (.iload_n 2, 1) := by decide +kernel
theorem d_ra_15 : decode prog_15_method_7_code 15 = .ok (.ifCond .lt 16, 3) := by decide +kernel
theorem d_ra_31 : decode prog_15_method_7_code 31 = .ok (.aload_n 1, 1) := by decide +kernel
theorem d_ra_32 : decode prog_15_method_7_code 32 = .ok (.areturn, 1) := by decide +kernel
theorem d_ra_18 : decode prog_15_method_7_code 18 = .ok (.aload_n 1, 1) := by decide +kernel
theorem d_ra_19 : decode prog_15_method_7_code 19 = .ok (.iload_n 2, 1) := by decide +kernel
theorem d_ra_20 : decode prog_15_method_7_code 20 = .ok (.aload_n 0, 1) := by decide +kernel
theorem d_ra_21 : decode prog_15_method_7_code 21 = .ok (.invokevirtual 40, 3) := by decide +kernel
theorem d_ra_24 : decode prog_15_method_7_code 24 = .ok (.iastore, 1) := by decide +kernel
theorem d_ra_25 : decode prog_15_method_7_code 25 = .ok (.iinc 2 (-1), 3) := by decide +kernel
theorem d_ra_28 : decode prog_15_method_7_code 28 = .ok (.goto (-14), 3) := by decide +kernel
set_option maxRecDepth 65536 in
set_option maxHeartbeats 4000000 in
theorem m_ra (l : Launch) (Z : State) (a0 : Array Value) (hw : ∀ d ∈ tables_1, d.before a0 Z = true) (a kb ib : Addr) (sv : Int32) (N n : Nat) (kf : Nat → UInt64) (K : Nat → Int) (J : Nat → Int32) (cv : Int32) (h0 : Heap) (E0 : Exa Z h0 a "com/example/urnwise/urnwise/sampler/SmallestKeys") (Fk : Fld Z h0 a "com/example/urnwise/urnwise/sampler/SmallestKeys" "keys" "[D" (.ref kb)) (Fi : Fld Z h0 a "com/example/urnwise/urnwise/sampler/SmallestKeys" "indices" "[I" (.ref ib)) (Fs : Fld Z h0 a "com/example/urnwise/urnwise/sampler/SmallestKeys" "size" "I" (.int sv)) (Fc : Fld Z h0 a "com/example/urnwise/urnwise/sampler/SmallestKeys" "capacity" "I" (.int cv)) (Ak : Ar Z h0 kb .double N (fun i => .double (kf i))) (Ai : Ar Z h0 ib .int N (fun i => .int (J i))) (n1 : a ≠ kb) (n2 : a ≠ ib) (n3 : kb ≠ ib) (hN : N ≤ 16) (hsv : sv.toInt = (n : Int)) (dK : ∀ i, i < N → DInt (K i) (kf i)) (hnN : n ≤ N) (hn4 : n ≤ 4) :
    OMet l (⟨"com/example/urnwise/urnwise/sampler/SmallestKeys", "removeAll", "()[I"⟩ : MethodName) prog_15_method_7_code 3 (Option.some (FieldType.array FieldType.int)) [] ({ frames := 2, cells := 1, slots := 4, locals := 32 } : Room) Z h0 [a, kb, ib] #[(.ref a)] (fun v h' => ∃ (rr : Addr) (of : Nat → Int32), v = some (.ref rr) ∧ rr < h'.size ∧ Fld Z h' a "com/example/urnwise/urnwise/sampler/SmallestKeys" "size" "I" (.int 0) ∧ Ar Z h' rr .int n (fun i => .int (of i)) ∧ (∀ d, d < n → of d = (own_st n K J (n - 1 - d)).2 0)) := by
  refine OMet.of (own := "com/example/urnwise/urnwise/sampler/SmallestKeys") (nm := "removeAll") (plainFor_of_name pn_0) rfl rfl ?_
  intro p e s m below meth c T0 P0 hby hml hret hnm
  refine Done.step (T' := T0) (g' := (mkF m 0 #[.val (.ref a), .unset, .unset] [])) (fun t kk => castTop (ef_ra m a) kk) ?_
  have ltk := Ak.ltN
  have lti := Ai.ltN
  have lta := exaN E0
  refine Done.stepL (pc' := 1) (st' := [(.ref a)]) (fun t kk => ?_) ?_
  · show Steps p.tables e below (T0.setTop (mkF m 0 _ [])) t
    refine XS.aloadN P0.here P0.x rfl (hb hby d_ra_0) rfl rfl ?_
    exact kk
  refine wGet P0 (host := "") (Or.inl (tw27 hw)) Via.refl Fs (hb hby d_ra_1) rfl (fun T1 P2 => ?_)
  show Done _ _ _ _ _ _ _ _ _ _ _ _ _ _ _ T1 (mkF m 4 _ [(.int sv)])
  refine wNewA (aty := .int) P2 (tw2 hw) (hb hby d_ra_4) rfl (N := n) hsv (cap := 4) hn4 (by decide) (by decide) (by decide) (ad := "[I") (by decide) (ty := .int) (dv := (.int (0 : Int32))) rfl rfl (k' := 1) (n' := 4) rfl rfl (fun T3 h5 b6 g7 lt8 P4 E9 A10 X11 => ?_)
  have ge_b6 : h0.size ≤ b6 := by have := P2.ge; omega
  show Done _ _ _ _ _ _ _ _ _ _ _ _ _ _ _ T3 (mkF m 6 _ [(.ref b6)])
  refine Done.step (T' := T3) (g' := (mkF m 8 #[.val (.ref a), .val (.ref b6), .unset] [(.ref a)])) (fun t kk => ?_) ?_
  · show Steps p.tables e below (T3.setTop (mkF m 6 _ [(.ref b6)])) t
    refine XS.astoreN P4.here P4.x rfl (hb hby d_ra_6) rfl rfl (l' := #[.val (.ref a), .val (.ref b6), .unset]) rfl ?_
    show Steps p.tables e below (T3.setTop (mkF m 7 _ [])) t
    refine XS.aloadN P4.here P4.x rfl (hb hby d_ra_7) rfl rfl ?_
    exact kk
  have f12 := (Fs.ext E9)
  refine wGet P4 (host := "") (Or.inl (tw27 hw)) Via.refl f12 (hb hby d_ra_8) rfl (fun T13 P14 => ?_)
  show Done _ _ _ _ _ _ _ _ _ _ _ _ _ _ _ T13 (mkF m 11 _ [(.int sv)])
  refine Done.step (T' := T13) (g' := (mkF m 14 #[.val (.ref a), .val (.ref b6), .val (.int (sv - (1 : Int32)))] [])) (fun t kk => ?_) ?_
  · show Steps p.tables e below (T13.setTop (mkF m 11 _ [(.int sv)])) t
    refine XS.iconst P14.here P14.x rfl (hb hby d_ra_11) ?_
    show Steps p.tables e below (T13.setTop (mkF m 12 _ [(.int (1 : Int32)), (.int sv)])) t
    refine XS.isub P14.here P14.x rfl (hb hby d_ra_12) rfl ?_
    show Steps p.tables e below (T13.setTop (mkF m 13 _ [(.int (sv - (1 : Int32)))])) t
    refine XS.istoreN P14.here P14.x rfl (hb hby d_ra_13) rfl (l' := #[.val (.ref a), .val (.ref b6), .val (.int (sv - (1 : Int32)))]) rfl ?_
    exact kk
  have f15 := (Fk.ext E9)
  have f16 := (Fi.ext E9)
  have f17 := (Fc.ext E9)
  have f18 := (E0.ext E9)
  have f19 := (Ak.ext E9)
  have f20 := (Ai.ext E9)
  have neb : a ≠ b6 ∧ kb ≠ b6 ∧ ib ≠ b6 ∧ h0.size ≤ b6 := by have := ge_b6; refine ⟨?_, ?_, ?_, ?_⟩ <;> first | omega | exact adr_ne (by omega)
  obtain ⟨neb1, neb2, neb3, geb⟩ := neb
  have loop : ∀ (r : Nat) (j : Nat) (T : State) (h : Heap) (dv svv : Int32) (kf' : Nat → UInt64) (K' : Nat → Int) (J' : Nat → Int32) (of : Nat → Int32), r + j = n → dv.toInt = (r : Int) - 1 → svv.toInt = (r : Int) → (K', J') = own_st n K J j → Pos p l e ({ frames := 2, cells := 1, slots := 4, locals := 32 } : Room) s m #[(.ref a)] below meth c Z "com/example/urnwise/urnwise/sampler/SmallestKeys" [a, kb, ib] h0.size T h 1 4 → Exa Z h a "com/example/urnwise/urnwise/sampler/SmallestKeys" → Fld Z h a "com/example/urnwise/urnwise/sampler/SmallestKeys" "keys" "[D" (.ref kb) → Fld Z h a "com/example/urnwise/urnwise/sampler/SmallestKeys" "indices" "[I" (.ref ib) → Fld Z h a "com/example/urnwise/urnwise/sampler/SmallestKeys" "size" "I" (.int svv) → Fld Z h a "com/example/urnwise/urnwise/sampler/SmallestKeys" "capacity" "I" (.int cv) → Ar Z h kb .double N (fun i => .double (kf' i)) → Ar Z h ib .int N (fun i => .int (J' i)) → Ar Z h b6 .int n (fun i => .int (of i)) → (∀ i, i < N → DInt (K' i) (kf' i)) → (∀ d, r ≤ d → d < n → of d = (own_st n K J (n - 1 - d)).2 0) → Done p l e ({ frames := 2, cells := 1, slots := 4, locals := 32 } : Room) s m #[(.ref a)] below meth c Z "com/example/urnwise/urnwise/sampler/SmallestKeys" [a, kb, ib] h0.size (fun v h' => ∃ (rr : Addr) (of : Nat → Int32), v = some (.ref rr) ∧ rr < h'.size ∧ Fld Z h' a "com/example/urnwise/urnwise/sampler/SmallestKeys" "size" "I" (.int 0) ∧ Ar Z h' rr .int n (fun i => .int (of i)) ∧ (∀ d, d < n → of d = (own_st n K J (n - 1 - d)).2 0)) T (mkF m 14 #[.val (.ref a), .val (.ref b6), .val (.int dv)] []) := by
    intro r
    induction r with
    | zero =>
      intro j T h dv svv kf' K' J' of hr hdv hsvv hst P E' Fk' Fi' Fs' Fc' Ak' Ai' A1 dK' hof
      obtain rfl : svv = 0 := Int32.toInt_inj.mp hsvv
      refine Done.stepL (pc' := 32) (st' := [(.ref b6)]) (fun t kk => ?_) ?_
      · show Steps p.tables e below (T.setTop (mkF m 14 _ [])) t
        refine XS.iloadN P.here P.x rfl (hb hby d_ra_14) rfl ?_
        show Steps p.tables e below (T.setTop (mkF m 15 _ [(.int dv)])) t
        refine XS.ifYes P.here P.x rfl (pc0 := 15) (pc' := 31) rfl (hb hby d_ra_15) rfl (i0W_lt_t (by rw [Int32.lt_iff_toInt_lt, hdv]; decide)) (by decide) (by decide) ?_
        show Steps p.tables e below (T.setTop (mkF m 31 _ [])) t
        refine XS.aloadN P.here P.x rfl (hb hby d_ra_31) rfl rfl ?_
        exact kk
      exact wRetA P hret rfl rfl (hb hby d_ra_32) ⟨b6, of, rfl, A1.lt, Fs', A1, fun d hd => hof d (Nat.zero_le _) hd⟩
    | succ r ih =>
      intro j T h dv svv kf' K' J' of hr hdv hsvv hst P E' Fk' Fi' Fs' Fc' Ak' Ai' A1 dK' hof
      have hdr : dv.toInt = (r : Int) := by omega
      have eK : K' = (own_st n K J j).1 := congrArg Prod.fst hst
      have eJ : J' = (own_st n K J j).2 := congrArg Prod.snd hst
      have hrj : n - 1 - j = r := by omega
      refine Done.stepL (pc' := 21) (st' := [(.ref a), (.int dv), (.ref b6)]) (fun t kk => ?_) ?_
      · show Steps p.tables e below (T.setTop (mkF m 14 _ [])) t
        refine XS.iloadN P.here P.x rfl (hb hby d_ra_14) rfl ?_
        show Steps p.tables e below (T.setTop (mkF m 15 _ [(.int dv)])) t
        refine XS.ifNo P.here P.x rfl (hb hby d_ra_15) rfl (i0W_lt_f (by rw [Int32.lt_iff_toInt_lt, hdr, show (0 : Int32).toInt = 0 from rfl]; omega)) ?_
        show Steps p.tables e below (T.setTop (mkF m 18 _ [])) t
        refine XS.aloadN P.here P.x rfl (hb hby d_ra_18) rfl rfl ?_
        show Steps p.tables e below (T.setTop (mkF m 19 _ [(.ref b6)])) t
        refine XS.iloadN P.here P.x rfl (hb hby d_ra_19) rfl ?_
        show Steps p.tables e below (T.setTop (mkF m 20 _ [(.int dv), (.ref b6)])) t
        refine XS.aloadN P.here P.x rfl (hb hby d_ra_20) rfl rfl ?_
        exact kk
      refine wCallP P (m_rl l Z a0 hw a kb ib svv N (r + 1) kf' K' J' cv (svv - (1 : Int32)) r h E' Fk' Fi' Fs' Fc' Ak' Ai' n1 n2 n3 hN hsvv dK' rfl (own_dec hsvv) rfl (by omega)) (tw57 hw) (tw58 hw) (tw59 hw) (tw4 hw) (tw5 hw) (tw60 hw) (by decide) E' (by rw [hml]; rfl) (lenOf pd_2 rfl) (argsL := []) (rest := [(.int dv), (.ref b6)]) rfl rfl (W := 2) (Nat.le_of_eq rfl) (by decide) (by decide) (by decide) (by decide) (allS (Or.inl (by simp)) (allS (Or.inl (by simp)) (allS (Or.inl (by simp)) all0))) (hb hby d_ra_21) rfl (k' := 1) (n' := 4) rfl rfl ?_
      rintro T21 h31 _ P22 K32 ⟨rfl, kf23, F24, F25, F26, F27, A28, dK30, A29⟩
      have szh31 : h.size ≤ h31.size := K32.1
      show Done _ _ _ _ _ _ _ _ _ _ _ _ _ _ _ T21 (mkF m 24 _ [(.int (J' 0)), (.int dv), (.ref b6)])
      have f33 := (A1.keep K32 (ninS (by first | assumption | exact Ne.symm (by assumption) | exact adr_ne (by omega) | omega) (ninS (by first | assumption | exact Ne.symm (by assumption) | exact adr_ne (by omega) | omega) (ninS (by first | assumption | exact Ne.symm (by assumption) | exact adr_ne (by omega) | omega) nin0))))
      refine wIastore P22 (f := of) f33 (j := dv) (i := r) hdr (by omega) (Or.inr geb) (hb hby d_ra_24) rfl (fun T34 h36 P35 W37 A38 => ?_)
      have szh36 : h36.size = h31.size := W37.size
      show Done _ _ _ _ _ _ _ _ _ _ _ _ _ _ _ T34 (mkF m 25 _ [])
      refine Done.step (T' := T34) (g' := (mkF m 14 #[.val (.ref a), .val (.ref b6), .val (.int (dv + (-1 : Int32)))] [])) (fun t kk => ?_) ?_
      · show Steps p.tables e below (T34.setTop (mkF m 25 _ [])) t
        refine XS.iinc P35.here P35.x rfl (hb hby d_ra_25) rfl (l' := #[.val (.ref a), .val (.ref b6), .val (.int (dv + (-1 : Int32)))]) rfl ?_
        show Steps p.tables e below (T34.setTop (mkF m 28 _ [])) t
        refine XS.goto P35.here P35.x rfl (pc0 := 28) (pc' := 14) rfl (hb hby d_ra_28) (by decide) (by decide) ?_
        exact kk
      have f39 := ((E'.keep K32).wr W37)
      have f40 := (F25.other W37 (Or.inl (by first | assumption | exact Ne.symm (by assumption) | exact adr_ne (by omega) | omega)))
      have f41 := (F26.other W37 (Or.inl (by first | assumption | exact Ne.symm (by assumption) | exact adr_ne (by omega) | omega)))
      have f42 := (F24.other W37 (Or.inl (by first | assumption | exact Ne.symm (by assumption) | exact adr_ne (by omega) | omega)))
      have f43 := (F27.other W37 (Or.inl (by first | assumption | exact Ne.symm (by assumption) | exact adr_ne (by omega) | omega)))
      have f44 := (A28.other W37 (by first | assumption | exact Ne.symm (by assumption) | exact adr_ne (by omega) | omega))
      have f45 := (A29.other W37 (by first | assumption | exact Ne.symm (by assumption) | exact adr_ne (by omega) | omega))
      exact ih (j + 1) _ _ _ _ _ _ _ _ (by omega) (own_dm hdr (by omega)) (own_dec hsvv) (by show _ = own_dn (n - 1 - j) (n - 1 - j) _ _ 0 _ _; rw [hrj, ← eK, ← eJ]) P35 f39 f40 f41 f42 f43 f44 f45 A38 dK30 (fun d h1 h2 => own_upto hof (by rw [eJ, show n - 1 - r = j by omega]) d h1 h2)
  exact loop n 0 _ _ _ _ _ _ _ _ (by omega) (own_dm' hsv) hsv rfl P14 f18 f15 f16 f12 f17 f19 f20 A10 dK (fun d h1 h2 => absurd h1 (by omega))
theorem ef_rlk (m : MethodId) (x0 : Addr) (x1 : UInt64) : entryFrame m #[(.ref x0), (.double x1)] 4 = mkF m 0 #[.val (.ref x0), .val (.double x1), .second, .unset] [] := by first | (simp [entryFrame, mkF, argsToLocals, Value.category]; done) | rfl
theorem d_rlk_0 : decode prog_15_method_6_code 0 = .ok (.aload_n 0, 1) := by decide +kernel
theorem d_rlk_1 : decode prog_15_method_6_code 1 = .ok (.getfield 23, 3) := by decide +kernel
theorem d_rlk_4 : decode prog_15_method_6_code 4 = .ok (.iconst 0, 1) := by decide +kernel
theorem d_rlk_5 : decode prog_15_method_6_code 5 = .ok (.iaload, 1) := by decide +kernel
theorem d_rlk_6 : decode prog_15_method_6_code 6 = .ok (.istore_n 3, 1) := by decide +kernel
theorem d_rlk_7 : decode prog_15_method_6_code 7 = .ok (.aload_n 0, 1) := by decide +kernel
theorem d_rlk_8 : decode prog_15_method_6_code 8 = .ok (.iconst 0, 1) := by decide +kernel
theorem d_rlk_9 : decode prog_15_method_6_code 9 = .ok (.dload_n 1, 1) := by decide +kernel
theorem d_rlk_10 : decode prog_15_method_6_code 10 = .ok (.iload_n 3, 1) := by decide +kernel
theorem d_rlk_11 : decode prog_15_method_6_code 11 = .ok (.invokevirtual 37, 3) := by decide +kernel
theorem d_rlk_14 : decode prog_15_method_6_code 14 = .ok (.iload_n 3, 1) := by decide +kernel
theorem d_rlk_15 : decode prog_15_method_6_code 15 = .ok (.ireturn, 1) := by decide +kernel
set_option maxRecDepth 65536 in
set_option maxHeartbeats 4000000 in
theorem m_rlk (l : Launch) (Z : State) (a0 : Array Value) (hw : ∀ d ∈ tables_1, d.before a0 Z = true) (a kb ib : Addr) (sv : Int32) (N n : Nat) (kf : Nat → UInt64) (K : Nat → Int) (J : Nat → Int32) (cv : Int32) (x : UInt64) (kv : Int) (h0 : Heap) (E0 : Exa Z h0 a "com/example/urnwise/urnwise/sampler/SmallestKeys") (Fk : Fld Z h0 a "com/example/urnwise/urnwise/sampler/SmallestKeys" "keys" "[D" (.ref kb)) (Fi : Fld Z h0 a "com/example/urnwise/urnwise/sampler/SmallestKeys" "indices" "[I" (.ref ib)) (Fs : Fld Z h0 a "com/example/urnwise/urnwise/sampler/SmallestKeys" "size" "I" (.int sv)) (Fc : Fld Z h0 a "com/example/urnwise/urnwise/sampler/SmallestKeys" "capacity" "I" (.int cv)) (Ak : Ar Z h0 kb .double N (fun i => .double (kf i))) (Ai : Ar Z h0 ib .int N (fun i => .int (J i))) (n1 : a ≠ kb) (n2 : a ≠ ib) (n3 : kb ≠ ib) (hN : N ≤ 16) (hsv : sv.toInt = (n : Int)) (dK : ∀ i, i < N → DInt (K i) (kf i)) (dx : DInt kv x) (h0n : 0 < n) (hnN : n ≤ N) :
    OMet l (⟨"com/example/urnwise/urnwise/sampler/SmallestKeys", "replaceLargestKey", "(D)I"⟩ : MethodName) prog_15_method_6_code 4 (Option.some FieldType.int) [] ({ frames := 1, cells := 0, slots := 0, locals := 17 } : Room) Z h0 [kb, ib] #[(.ref a), (.double x)] (fun v h' => v = some (.int (J 0)) ∧ ∃ kf' : Nat → UInt64, Ar Z h' kb .double N (fun i => .double (kf' i)) ∧ (∀ i, i < N → DInt ((own_dn n n K J 0 kv (J 0)).1 i) (kf' i)) ∧ Ar Z h' ib .int N (fun i => .int (((own_dn n n K J 0 kv (J 0)).2) i))) := by
  refine OMet.of (own := "com/example/urnwise/urnwise/sampler/SmallestKeys") (nm := "replaceLargestKey") (plainFor_of_name pn_0) rfl rfl ?_
  intro p e s m below meth c T0 P0 hby hml hret hnm
  refine Done.step (T' := T0) (g' := (mkF m 0 #[.val (.ref a), .val (.double x), .second, .unset] [])) (fun t kk => castTop (ef_rlk m a x) kk) ?_
  have ltk := Ak.ltN
  have lti := Ai.ltN
  have lta := exaN E0
  refine Done.stepL (pc' := 1) (st' := [(.ref a)]) (fun t kk => ?_) ?_
  · show Steps p.tables e below (T0.setTop (mkF m 0 _ [])) t
    refine XS.aloadN P0.here P0.x rfl (hb hby d_rlk_0) rfl rfl ?_
    exact kk
  refine wGet P0 (host := "") (Or.inl (tw20 hw)) Via.refl Fi (hb hby d_rlk_1) rfl (fun T1 P2 => ?_)
  show Done _ _ _ _ _ _ _ _ _ _ _ _ _ _ _ T1 (mkF m 4 _ [(.ref ib)])
  refine Done.stepL (pc' := 5) (st' := [(.int (0 : Int32)), (.ref ib)]) (fun t kk => ?_) ?_
  · show Steps p.tables e below (T1.setTop (mkF m 4 _ [(.ref ib)])) t
    refine XS.iconst P2.here P2.x rfl (hb hby d_rlk_4) ?_
    exact kk
  refine wIaload P2 Ai (j := (0 : Int32)) (i := 0) rfl (by omega) (v := (.int (J 0))) rfl (hb hby d_rlk_5) rfl ?_
  show Done _ _ _ _ _ _ _ _ _ _ _ _ _ _ _ T1 (mkF m 6 _ [(.int (J 0))])
  refine Done.step (T' := T1) (g' := (mkF m 11 #[.val (.ref a), .val (.double x), .second, .val (.int (J 0))] [(.int (J 0)), (.double x), (.int (0 : Int32)), (.ref a)])) (fun t kk => ?_) ?_
  · show Steps p.tables e below (T1.setTop (mkF m 6 _ [(.int (J 0))])) t
    refine XS.istoreN P2.here P2.x rfl (hb hby d_rlk_6) rfl (l' := #[.val (.ref a), .val (.double x), .second, .val (.int (J 0))]) rfl ?_
    show Steps p.tables e below (T1.setTop (mkF m 7 _ [])) t
    refine XS.aloadN P2.here P2.x rfl (hb hby d_rlk_7) rfl rfl ?_
    show Steps p.tables e below (T1.setTop (mkF m 8 _ [(.ref a)])) t
    refine XS.iconst P2.here P2.x rfl (hb hby d_rlk_8) ?_
    show Steps p.tables e below (T1.setTop (mkF m 9 _ [(.int (0 : Int32)), (.ref a)])) t
    refine XS.dloadN P2.here P2.x rfl (hb hby d_rlk_9) rfl ?_
    show Steps p.tables e below (T1.setTop (mkF m 10 _ [(.double x), (.int (0 : Int32)), (.ref a)])) t
    refine XS.iloadN P2.here P2.x rfl (hb hby d_rlk_10) rfl ?_
    exact kk
  refine wCallP P2 (m_dn l Z a0 hw a kb ib sv N n kf K J (0 : Int32) x (J 0) 0 kv h0 E0 Fk Fi Fs Ak Ai n1 n2 n3 hN hsv dK dx rfl (by omega) hnN) (tw38 hw) (tw39 hw) (tw40 hw) (tw4 hw) (tw5 hw) (tw41 hw) (by decide) E0 (by rw [hml]; rfl) (lenOf pd_0 rfl) (argsL := [(.int (0 : Int32)), (.double x), (.int (J 0))]) (rest := []) rfl rfl (W := 0) (Nat.le_of_eq rfl) (by decide) (by decide) (by decide) (by decide) (allS (Or.inl (by simp)) (allS (Or.inl (by simp)) all0)) (hb hby d_rlk_11) rfl (k' := 0) (n' := 0) rfl rfl ?_
  rintro T3 h9 _ P4 K10 ⟨rfl, kf8, A5, dK7, A6⟩
  have szh9 : h0.size ≤ h9.size := K10.1
  show Done _ _ _ _ _ _ _ _ _ _ _ _ _ _ _ T3 (mkF m 14 _ [])
  refine Done.stepL (pc' := 15) (st' := [(.int (J 0))]) (fun t kk => ?_) ?_
  · show Steps p.tables e below (T3.setTop (mkF m 14 _ [])) t
    refine XS.iloadN P4.here P4.x rfl (hb hby d_rlk_14) rfl ?_
    exact kk
  exact wRetI P4 hret (hb hby d_rlk_15) ⟨rfl, _, A5, dK7, A6⟩
theorem ef_lky (m : MethodId) (x0 : Addr) : entryFrame m #[(.ref x0)] 1 = mkF m 0 #[.val (.ref x0)] [] := by first | (simp [entryFrame, mkF, argsToLocals, Value.category]; done) | rfl
theorem d_lky_0 : decode prog_15_method_5_code 0 = .ok (.aload_n 0, 1) := by decide +kernel
theorem d_lky_1 : decode prog_15_method_5_code 1 = .ok (.getfield 19, 3) := by decide +kernel
theorem d_lky_4 : decode prog_15_method_5_code 4 = .ok (.iconst 0, 1) := by decide +kernel
theorem d_lky_5 : decode prog_15_method_5_code 5 = .ok (.daload, 1) := by decide +kernel
theorem d_lky_6 : decode prog_15_method_5_code 6 = .ok (.dreturn, 1) := by decide +kernel
set_option maxRecDepth 65536 in
set_option maxHeartbeats 4000000 in
theorem m_lky (l : Launch) (Z : State) (a0 : Array Value) (hw : ∀ d ∈ tables_1, d.before a0 Z = true) (a kb : Addr) (N : Nat) (kf : Nat → UInt64) (h0 : Heap) (Fk : Fld Z h0 a "com/example/urnwise/urnwise/sampler/SmallestKeys" "keys" "[D" (.ref kb)) (Ak : Ar Z h0 kb .double N (fun i => .double (kf i))) (h0N : 0 < N) :
    OMet l (⟨"com/example/urnwise/urnwise/sampler/SmallestKeys", "largestKey", "()D"⟩ : MethodName) prog_15_method_5_code 1 (Option.some FieldType.double) [] ({ frames := 0, cells := 0, slots := 0, locals := 0 } : Room) Z h0 [] #[(.ref a)] (fun v h' => v = some (.double (kf 0)) ∧ h0 = h') := by
  refine OMet.of (own := "com/example/urnwise/urnwise/sampler/SmallestKeys") (nm := "largestKey") (plainFor_of_name pn_0) rfl rfl ?_
  intro p e s m below meth c T0 P0 hby hml hret hnm
  refine Done.step (T' := T0) (g' := (mkF m 0 #[.val (.ref a)] [])) (fun t kk => castTop (ef_lky m a) kk) ?_
  refine Done.stepL (pc' := 1) (st' := [(.ref a)]) (fun t kk => ?_) ?_
  · show Steps p.tables e below (T0.setTop (mkF m 0 _ [])) t
    refine XS.aloadN P0.here P0.x rfl (hb hby d_lky_0) rfl rfl ?_
    exact kk
  refine wGet P0 (host := "") (Or.inl (tw18 hw)) Via.refl Fk (hb hby d_lky_1) rfl (fun T1 P2 => ?_)
  show Done _ _ _ _ _ _ _ _ _ _ _ _ _ _ _ T1 (mkF m 4 _ [(.ref kb)])
  refine Done.stepL (pc' := 5) (st' := [(.int (0 : Int32)), (.ref kb)]) (fun t kk => ?_) ?_
  · show Steps p.tables e below (T1.setTop (mkF m 4 _ [(.ref kb)])) t
    refine XS.iconst P2.here P2.x rfl (hb hby d_lky_4) ?_
    exact kk
  refine wDaload P2 Ak (j := (0 : Int32)) (i := 0) rfl h0N (v := (.double (kf 0))) rfl (hb hby d_lky_5) rfl ?_
  show Done _ _ _ _ _ _ _ _ _ _ _ _ _ _ _ T1 (mkF m 6 _ [(.double (kf 0))])
  exact wRetD P2 hret (hb hby d_lky_6) ⟨rfl, rfl⟩
theorem ef_ofd1 (m : MethodId) (x0 : Int32) (x1 : Addr) (x2 : Int32) : entryFrame m #[(.int x0), (.ref x1), (.int x2)] 3 = mkF m 0 #[.val (.int x0), .val (.ref x1), .val (.int x2)] [] := by first | (simp [entryFrame, mkF, argsToLocals, Value.category]; done) | rfl
theorem d_ofd1_0 : decode method_2_code 0 = .ok (.iload_n 0, 1) := by decide +kernel
theorem d_ofd1_1 : decode method_2_code 1 = .ok (.bipush 100, 2) := by decide +kernel
theorem d_ofd1_3 : decode method_2_code 3 = .ok (.aload_n 1, 1) := by decide +kernel
theorem d_ofd1_4 : decode method_2_code 4 = .ok (.iconst 0, 1) := by decide +kernel
theorem d_ofd1_5 : decode method_2_code 5 = .ok (.iaload, 1) := by decide +kernel
theorem d_ofd1_6 : decode method_2_code 6 = .ok (.iadd, 1) := by decide +kernel
theorem d_ofd1_7 : decode method_2_code 7 = .ok (.if_icmp .ne 5, 3) := by decide +kernel
theorem d_ofd1_10 : decode method_2_code 10 = .ok (.iconst 1, 1) := by decide +kernel
theorem d_ofd1_11 : decode method_2_code 11 = .ok (.ireturn, 1) := by decide +kernel
set_option maxRecDepth 65536 in
set_option maxHeartbeats 4000000 in
theorem m_ofd1 (l : Launch) (Z : State) (a0 : Array Value) (hw : ∀ d ∈ tables_1, d.before a0 Z = true) (ix x0 x1 x2 : Int32) (ob : Addr) (h0 : Heap) (Ao : Ar Z h0 ob .int 3 (fun i => .int ((oupd (oupd (oupd (fun _ => (0 : Int32)) 0 x0) 1 x1) 2 x2) i))) (hid : ix = ((100 : Int32) + x0)) :
    OMet l (⟨"com/example/urnwise/urnwise/sampler/SmallestKeysReplaceLargestKeyPinLaw", "offered", "(I[II)Z"⟩ : MethodName) method_2_code 3 (Option.some FieldType.boolean) [] ({ frames := 0, cells := 0, slots := 0, locals := 0 } : Room) Z h0 [] #[(.int ix), (.ref ob), (.int (1 : Int32))] (fun v h' => v = some (.int 1) ∧ h0 = h') := by
  refine OMet.of (own := "com/example/urnwise/urnwise/sampler/SmallestKeysReplaceLargestKeyPinLaw") (nm := "offered") (plainFor_of_name pn_1) rfl rfl ?_
  intro p e s m below meth c T0 P0 hby hml hret hnm
  refine Done.step (T' := T0) (g' := (mkF m 0 #[.val (.int ix), .val (.ref ob), .val (.int (1 : Int32))] [])) (fun t kk => castTop (ef_ofd1 m ix ob (1 : Int32)) kk) ?_
  refine Done.stepL (pc' := 5) (st' := [(.int (0 : Int32)), (.ref ob), (.int (100 : Int32)), (.int ix)]) (fun t kk => ?_) ?_
  · show Steps p.tables e below (T0.setTop (mkF m 0 _ [])) t
    refine XS.iloadN P0.here P0.x rfl (hb hby d_ofd1_0) rfl ?_
    show Steps p.tables e below (T0.setTop (mkF m 1 _ [(.int ix)])) t
    refine XS.bipush P0.here P0.x rfl (hb hby d_ofd1_1) ?_
    show Steps p.tables e below (T0.setTop (mkF m 3 _ [(.int (100 : Int32)), (.int ix)])) t
    refine XS.aloadN P0.here P0.x rfl (hb hby d_ofd1_3) rfl rfl ?_
    show Steps p.tables e below (T0.setTop (mkF m 4 _ [(.ref ob), (.int (100 : Int32)), (.int ix)])) t
    refine XS.iconst P0.here P0.x rfl (hb hby d_ofd1_4) ?_
    exact kk
  refine wIaload P0 Ao (j := (0 : Int32)) (i := 0) rfl (by decide) (v := (.int x0)) rfl (hb hby d_ofd1_5) rfl ?_
  show Done _ _ _ _ _ _ _ _ _ _ _ _ _ _ _ T0 (mkF m 6 _ [(.int x0), (.int (100 : Int32)), (.int ix)])
  refine Done.stepL (pc' := 7) (st' := [(.int ((100 : Int32) + x0)), (.int ix)]) (fun t kk => ?_) ?_
  · show Steps p.tables e below (T0.setTop (mkF m 6 _ [(.int x0), (.int (100 : Int32)), (.int ix)])) t
    refine XS.iadd P0.here P0.x rfl (hb hby d_ofd1_6) rfl ?_
    exact kk
  by_cases c0 : ¬ (ix = ((100 : Int32) + x0))
  · refine Done.stepL (pc' := 12) (st' := []) (fun t kk => ?_) ?_
    · show Steps p.tables e below (T0.setTop (mkF m 7 _ [(.int ((100 : Int32) + x0)), (.int ix)])) t
      refine XS.icmpYes P0.here P0.x rfl (pc0 := 7) (pc' := 12) rfl (hb hby d_ofd1_7) rfl (iiW_ne_t c0) (by decide) (by decide) ?_
      exact kk
    exact (c0 hid).elim
  · refine Done.stepL (pc' := 11) (st' := [(.int (1 : Int32))]) (fun t kk => ?_) ?_
    · show Steps p.tables e below (T0.setTop (mkF m 7 _ [(.int ((100 : Int32) + x0)), (.int ix)])) t
      refine XS.icmpNo P0.here P0.x rfl (hb hby d_ofd1_7) rfl (iiW_ne_f (show ¬ (¬ (ix = ((100 : Int32) + x0))) from c0)) ?_
      show Steps p.tables e below (T0.setTop (mkF m 10 _ [])) t
      refine XS.iconst P0.here P0.x rfl (hb hby d_ofd1_10) ?_
      exact kk
    exact wRet P0 (t := .boolean) hret (narrow_01 (Or.inr rfl)) (Or.inl ⟨rfl, Or.inr (Or.inl rfl), _, rfl⟩) (hb hby d_ofd1_11) ⟨rfl, rfl⟩
theorem ef_ofd2 (m : MethodId) (x0 : Int32) (x1 : Addr) (x2 : Int32) : entryFrame m #[(.int x0), (.ref x1), (.int x2)] 3 = mkF m 0 #[.val (.int x0), .val (.ref x1), .val (.int x2)] [] := by first | (simp [entryFrame, mkF, argsToLocals, Value.category]; done) | rfl
theorem d_ofd2_0 : decode method_2_code 0 = .ok (.iload_n 0, 1) := by decide +kernel
theorem d_ofd2_1 : decode method_2_code 1 = .ok (.bipush 100, 2) := by decide +kernel
theorem d_ofd2_3 : decode method_2_code 3 = .ok (.aload_n 1, 1) := by decide +kernel
theorem d_ofd2_4 : decode method_2_code 4 = .ok (.iconst 0, 1) := by decide +kernel
theorem d_ofd2_5 : decode method_2_code 5 = .ok (.iaload, 1) := by decide +kernel
theorem d_ofd2_6 : decode method_2_code 6 = .ok (.iadd, 1) := by decide +kernel
theorem d_ofd2_7 : decode method_2_code 7 = .ok (.if_icmp .ne 5, 3) := by decide +kernel
theorem d_ofd2_12 : decode method_2_code 12 = .ok (.iload_n 2, 1) := by decide +kernel
theorem d_ofd2_13 : decode method_2_code 13 = .ok (.iconst 2, 1) := by decide +kernel
theorem d_ofd2_14 : decode method_2_code 14 = .ok (.if_icmp .lt 15, 3) := by decide +kernel
theorem d_ofd2_17 : decode method_2_code 17 = .ok (.iload_n 0, 1) := by decide +kernel
theorem d_ofd2_18 : decode method_2_code 18 = .ok (.bipush 100, 2) := by decide +kernel
theorem d_ofd2_20 : decode method_2_code 20 = .ok (.aload_n 1, 1) := by decide +kernel
theorem d_ofd2_21 : decode method_2_code 21 = .ok (.iconst 1, 1) := by decide +kernel
theorem d_ofd2_22 : decode method_2_code 22 = .ok (.iaload, 1) := by decide +kernel
theorem d_ofd2_23 : decode method_2_code 23 = .ok (.iadd, 1) := by decide +kernel
theorem d_ofd2_24 : decode method_2_code 24 = .ok (.if_icmp .ne 5, 3) := by decide +kernel
theorem d_ofd2_27 : decode method_2_code 27 = .ok (.iconst 1, 1) := by decide +kernel
theorem d_ofd2_28 : decode method_2_code 28 = .ok (.ireturn, 1) := by decide +kernel
theorem d_ofd2_10 : decode method_2_code 10 = .ok (.iconst 1, 1) := by decide +kernel
theorem d_ofd2_11 : decode method_2_code 11 = .ok (.ireturn, 1) := by decide +kernel
set_option maxRecDepth 65536 in
set_option maxHeartbeats 4000000 in
theorem m_ofd2 (l : Launch) (Z : State) (a0 : Array Value) (hw : ∀ d ∈ tables_1, d.before a0 Z = true) (ix x0 x1 x2 : Int32) (ob : Addr) (h0 : Heap) (Ao : Ar Z h0 ob .int 3 (fun i => .int ((oupd (oupd (oupd (fun _ => (0 : Int32)) 0 x0) 1 x1) 2 x2) i))) (hid : ix = ((100 : Int32) + x0) ∨ ix = ((100 : Int32) + x1)) :
    OMet l (⟨"com/example/urnwise/urnwise/sampler/SmallestKeysReplaceLargestKeyPinLaw", "offered", "(I[II)Z"⟩ : MethodName) method_2_code 3 (Option.some FieldType.boolean) [] ({ frames := 0, cells := 0, slots := 0, locals := 0 } : Room) Z h0 [] #[(.int ix), (.ref ob), (.int (2 : Int32))] (fun v h' => v = some (.int 1) ∧ h0 = h') := by
  refine OMet.of (own := "com/example/urnwise/urnwise/sampler/SmallestKeysReplaceLargestKeyPinLaw") (nm := "offered") (plainFor_of_name pn_1) rfl rfl ?_
  intro p e s m below meth c T0 P0 hby hml hret hnm
  refine Done.step (T' := T0) (g' := (mkF m 0 #[.val (.int ix), .val (.ref ob), .val (.int (2 : Int32))] [])) (fun t kk => castTop (ef_ofd2 m ix ob (2 : Int32)) kk) ?_
  refine Done.stepL (pc' := 5) (st' := [(.int (0 : Int32)), (.ref ob), (.int (100 : Int32)), (.int ix)]) (fun t kk => ?_) ?_
  · show Steps p.tables e below (T0.setTop (mkF m 0 _ [])) t
    refine XS.iloadN P0.here P0.x rfl (hb hby d_ofd2_0) rfl ?_
    show Steps p.tables e below (T0.setTop (mkF m 1 _ [(.int ix)])) t
    refine XS.bipush P0.here P0.x rfl (hb hby d_ofd2_1) ?_
    show Steps p.tables e below (T0.setTop (mkF m 3 _ [(.int (100 : Int32)), (.int ix)])) t
    refine XS.aloadN P0.here P0.x rfl (hb hby d_ofd2_3) rfl rfl ?_
    show Steps p.tables e below (T0.setTop (mkF m 4 _ [(.ref ob), (.int (100 : Int32)), (.int ix)])) t
    refine XS.iconst P0.here P0.x rfl (hb hby d_ofd2_4) ?_
    exact kk
  refine wIaload P0 Ao (j := (0 : Int32)) (i := 0) rfl (by decide) (v := (.int x0)) rfl (hb hby d_ofd2_5) rfl ?_
  show Done _ _ _ _ _ _ _ _ _ _ _ _ _ _ _ T0 (mkF m 6 _ [(.int x0), (.int (100 : Int32)), (.int ix)])
  refine Done.stepL (pc' := 7) (st' := [(.int ((100 : Int32) + x0)), (.int ix)]) (fun t kk => ?_) ?_
  · show Steps p.tables e below (T0.setTop (mkF m 6 _ [(.int x0), (.int (100 : Int32)), (.int ix)])) t
    refine XS.iadd P0.here P0.x rfl (hb hby d_ofd2_6) rfl ?_
    exact kk
  by_cases c0 : ¬ (ix = ((100 : Int32) + x0))
  · refine Done.stepL (pc' := 22) (st' := [(.int (1 : Int32)), (.ref ob), (.int (100 : Int32)), (.int ix)]) (fun t kk => ?_) ?_
    · show Steps p.tables e below (T0.setTop (mkF m 7 _ [(.int ((100 : Int32) + x0)), (.int ix)])) t
      refine XS.icmpYes P0.here P0.x rfl (pc0 := 7) (pc' := 12) rfl (hb hby d_ofd2_7) rfl (iiW_ne_t c0) (by decide) (by decide) ?_
      show Steps p.tables e below (T0.setTop (mkF m 12 _ [])) t
      refine XS.iloadN P0.here P0.x rfl (hb hby d_ofd2_12) rfl ?_
      show Steps p.tables e below (T0.setTop (mkF m 13 _ [(.int (2 : Int32))])) t
      refine XS.iconst P0.here P0.x rfl (hb hby d_ofd2_13) ?_
      show Steps p.tables e below (T0.setTop (mkF m 14 _ [(.int (2 : Int32)), (.int (2 : Int32))])) t
      refine XS.icmpNo P0.here P0.x rfl (hb hby d_ofd2_14) rfl (iiW_lt_f (by decide)) ?_
      show Steps p.tables e below (T0.setTop (mkF m 17 _ [])) t
      refine XS.iloadN P0.here P0.x rfl (hb hby d_ofd2_17) rfl ?_
      show Steps p.tables e below (T0.setTop (mkF m 18 _ [(.int ix)])) t
      refine XS.bipush P0.here P0.x rfl (hb hby d_ofd2_18) ?_
      show Steps p.tables e below (T0.setTop (mkF m 20 _ [(.int (100 : Int32)), (.int ix)])) t
      refine XS.aloadN P0.here P0.x rfl (hb hby d_ofd2_20) rfl rfl ?_
      show Steps p.tables e below (T0.setTop (mkF m 21 _ [(.ref ob), (.int (100 : Int32)), (.int ix)])) t
      refine XS.iconst P0.here P0.x rfl (hb hby d_ofd2_21) ?_
      exact kk
    refine wIaload P0 Ao (j := (1 : Int32)) (i := 1) rfl (by decide) (v := (.int x1)) rfl (hb hby d_ofd2_22) rfl ?_
    show Done _ _ _ _ _ _ _ _ _ _ _ _ _ _ _ T0 (mkF m 23 _ [(.int x1), (.int (100 : Int32)), (.int ix)])
    refine Done.stepL (pc' := 24) (st' := [(.int ((100 : Int32) + x1)), (.int ix)]) (fun t kk => ?_) ?_
    · show Steps p.tables e below (T0.setTop (mkF m 23 _ [(.int x1), (.int (100 : Int32)), (.int ix)])) t
      refine XS.iadd P0.here P0.x rfl (hb hby d_ofd2_23) rfl ?_
      exact kk
    by_cases c1 : ¬ (ix = ((100 : Int32) + x1))
    · refine Done.stepL (pc' := 29) (st' := []) (fun t kk => ?_) ?_
      · show Steps p.tables e below (T0.setTop (mkF m 24 _ [(.int ((100 : Int32) + x1)), (.int ix)])) t
        refine XS.icmpYes P0.here P0.x rfl (pc0 := 24) (pc' := 29) rfl (hb hby d_ofd2_24) rfl (iiW_ne_t c1) (by decide) (by decide) ?_
        exact kk
      exact (hid.elim c0 c1).elim
    · refine Done.stepL (pc' := 28) (st' := [(.int (1 : Int32))]) (fun t kk => ?_) ?_
      · show Steps p.tables e below (T0.setTop (mkF m 24 _ [(.int ((100 : Int32) + x1)), (.int ix)])) t
        refine XS.icmpNo P0.here P0.x rfl (hb hby d_ofd2_24) rfl (iiW_ne_f (show ¬ (¬ (ix = ((100 : Int32) + x1))) from c1)) ?_
        show Steps p.tables e below (T0.setTop (mkF m 27 _ [])) t
        refine XS.iconst P0.here P0.x rfl (hb hby d_ofd2_27) ?_
        exact kk
      exact wRet P0 (t := .boolean) hret (narrow_01 (Or.inr rfl)) (Or.inl ⟨rfl, Or.inr (Or.inl rfl), _, rfl⟩) (hb hby d_ofd2_28) ⟨rfl, rfl⟩
  · refine Done.stepL (pc' := 11) (st' := [(.int (1 : Int32))]) (fun t kk => ?_) ?_
    · show Steps p.tables e below (T0.setTop (mkF m 7 _ [(.int ((100 : Int32) + x0)), (.int ix)])) t
      refine XS.icmpNo P0.here P0.x rfl (hb hby d_ofd2_7) rfl (iiW_ne_f (show ¬ (¬ (ix = ((100 : Int32) + x0))) from c0)) ?_
      show Steps p.tables e below (T0.setTop (mkF m 10 _ [])) t
      refine XS.iconst P0.here P0.x rfl (hb hby d_ofd2_10) ?_
      exact kk
    exact wRet P0 (t := .boolean) hret (narrow_01 (Or.inr rfl)) (Or.inl ⟨rfl, Or.inr (Or.inl rfl), _, rfl⟩) (hb hby d_ofd2_11) ⟨rfl, rfl⟩
theorem ef_ofd3 (m : MethodId) (x0 : Int32) (x1 : Addr) (x2 : Int32) : entryFrame m #[(.int x0), (.ref x1), (.int x2)] 3 = mkF m 0 #[.val (.int x0), .val (.ref x1), .val (.int x2)] [] := by first | (simp [entryFrame, mkF, argsToLocals, Value.category]; done) | rfl
theorem d_ofd3_0 : decode method_2_code 0 = .ok (.iload_n 0, 1) := by decide +kernel
theorem d_ofd3_1 : decode method_2_code 1 = .ok (.bipush 100, 2) := by decide +kernel
theorem d_ofd3_3 : decode method_2_code 3 = .ok (.aload_n 1, 1) := by decide +kernel
theorem d_ofd3_4 : decode method_2_code 4 = .ok (.iconst 0, 1) := by decide +kernel
theorem d_ofd3_5 : decode method_2_code 5 = .ok (.iaload, 1) := by decide +kernel
theorem d_ofd3_6 : decode method_2_code 6 = .ok (.iadd, 1) := by decide +kernel
theorem d_ofd3_7 : decode method_2_code 7 = .ok (.if_icmp .ne 5, 3) := by decide +kernel
theorem d_ofd3_12 : decode method_2_code 12 = .ok (.iload_n 2, 1) := by decide +kernel
theorem d_ofd3_13 : decode method_2_code 13 = .ok (.iconst 2, 1) := by decide +kernel
theorem d_ofd3_14 : decode method_2_code 14 = .ok (.if_icmp .lt 15, 3) := by decide +kernel
theorem d_ofd3_17 : decode method_2_code 17 = .ok (.iload_n 0, 1) := by decide +kernel
theorem d_ofd3_18 : decode method_2_code 18 = .ok (.bipush 100, 2) := by decide +kernel
theorem d_ofd3_20 : decode method_2_code 20 = .ok (.aload_n 1, 1) := by decide +kernel
theorem d_ofd3_21 : decode method_2_code 21 = .ok (.iconst 1, 1) := by decide +kernel
theorem d_ofd3_22 : decode method_2_code 22 = .ok (.iaload, 1) := by decide +kernel
theorem d_ofd3_23 : decode method_2_code 23 = .ok (.iadd, 1) := by decide +kernel
theorem d_ofd3_24 : decode method_2_code 24 = .ok (.if_icmp .ne 5, 3) := by decide +kernel
theorem d_ofd3_29 : decode method_2_code 29 = .ok (.iload_n 2, 1) := by decide +kernel
theorem d_ofd3_30 : decode method_2_code 30 = .ok (.iconst 3, 1) := by decide +kernel
theorem d_ofd3_31 : decode method_2_code 31 = .ok (.if_icmp .lt 15, 3) := by decide +kernel
theorem d_ofd3_34 : decode method_2_code 34 = .ok (.iload_n 0, 1) := by decide +kernel
theorem d_ofd3_35 : decode method_2_code 35 = .ok (.bipush 100, 2) := by decide +kernel
theorem d_ofd3_37 : decode method_2_code 37 = .ok (.aload_n 1, 1) := by decide +kernel
theorem d_ofd3_38 : decode method_2_code 38 = .ok (.iconst 2, 1) := by decide +kernel
theorem d_ofd3_39 : decode method_2_code 39 = .ok (.iaload, 1) := by decide +kernel
theorem d_ofd3_40 : decode method_2_code 40 = .ok (.iadd, 1) := by decide +kernel
theorem d_ofd3_41 : decode method_2_code 41 = .ok (.if_icmp .ne 5, 3) := by decide +kernel
theorem d_ofd3_44 : decode method_2_code 44 = .ok (.iconst 1, 1) := by decide +kernel
theorem d_ofd3_45 : decode method_2_code 45 = .ok (.ireturn, 1) := by decide +kernel
theorem d_ofd3_27 : decode method_2_code 27 = .ok (.iconst 1, 1) := by decide +kernel
theorem d_ofd3_28 : decode method_2_code 28 = .ok (.ireturn, 1) := by decide +kernel
theorem d_ofd3_10 : decode method_2_code 10 = .ok (.iconst 1, 1) := by decide +kernel
theorem d_ofd3_11 : decode method_2_code 11 = .ok (.ireturn, 1) := by decide +kernel
set_option maxRecDepth 65536 in
set_option maxHeartbeats 4000000 in
theorem m_ofd3 (l : Launch) (Z : State) (a0 : Array Value) (hw : ∀ d ∈ tables_1, d.before a0 Z = true) (ix x0 x1 x2 : Int32) (ob : Addr) (h0 : Heap) (Ao : Ar Z h0 ob .int 3 (fun i => .int ((oupd (oupd (oupd (fun _ => (0 : Int32)) 0 x0) 1 x1) 2 x2) i))) (hid : ix = ((100 : Int32) + x0) ∨ ix = ((100 : Int32) + x1) ∨ ix = ((100 : Int32) + x2)) :
    OMet l (⟨"com/example/urnwise/urnwise/sampler/SmallestKeysReplaceLargestKeyPinLaw", "offered", "(I[II)Z"⟩ : MethodName) method_2_code 3 (Option.some FieldType.boolean) [] ({ frames := 0, cells := 0, slots := 0, locals := 0 } : Room) Z h0 [] #[(.int ix), (.ref ob), (.int (3 : Int32))] (fun v h' => v = some (.int 1) ∧ h0 = h') := by
  refine OMet.of (own := "com/example/urnwise/urnwise/sampler/SmallestKeysReplaceLargestKeyPinLaw") (nm := "offered") (plainFor_of_name pn_1) rfl rfl ?_
  intro p e s m below meth c T0 P0 hby hml hret hnm
  refine Done.step (T' := T0) (g' := (mkF m 0 #[.val (.int ix), .val (.ref ob), .val (.int (3 : Int32))] [])) (fun t kk => castTop (ef_ofd3 m ix ob (3 : Int32)) kk) ?_
  refine Done.stepL (pc' := 5) (st' := [(.int (0 : Int32)), (.ref ob), (.int (100 : Int32)), (.int ix)]) (fun t kk => ?_) ?_
  · show Steps p.tables e below (T0.setTop (mkF m 0 _ [])) t
    refine XS.iloadN P0.here P0.x rfl (hb hby d_ofd3_0) rfl ?_
    show Steps p.tables e below (T0.setTop (mkF m 1 _ [(.int ix)])) t
    refine XS.bipush P0.here P0.x rfl (hb hby d_ofd3_1) ?_
    show Steps p.tables e below (T0.setTop (mkF m 3 _ [(.int (100 : Int32)), (.int ix)])) t
    refine XS.aloadN P0.here P0.x rfl (hb hby d_ofd3_3) rfl rfl ?_
    show Steps p.tables e below (T0.setTop (mkF m 4 _ [(.ref ob), (.int (100 : Int32)), (.int ix)])) t
    refine XS.iconst P0.here P0.x rfl (hb hby d_ofd3_4) ?_
    exact kk
  refine wIaload P0 Ao (j := (0 : Int32)) (i := 0) rfl (by decide) (v := (.int x0)) rfl (hb hby d_ofd3_5) rfl ?_
  show Done _ _ _ _ _ _ _ _ _ _ _ _ _ _ _ T0 (mkF m 6 _ [(.int x0), (.int (100 : Int32)), (.int ix)])
  refine Done.stepL (pc' := 7) (st' := [(.int ((100 : Int32) + x0)), (.int ix)]) (fun t kk => ?_) ?_
  · show Steps p.tables e below (T0.setTop (mkF m 6 _ [(.int x0), (.int (100 : Int32)), (.int ix)])) t
    refine XS.iadd P0.here P0.x rfl (hb hby d_ofd3_6) rfl ?_
    exact kk
  by_cases c0 : ¬ (ix = ((100 : Int32) + x0))
  · refine Done.stepL (pc' := 22) (st' := [(.int (1 : Int32)), (.ref ob), (.int (100 : Int32)), (.int ix)]) (fun t kk => ?_) ?_
    · show Steps p.tables e below (T0.setTop (mkF m 7 _ [(.int ((100 : Int32) + x0)), (.int ix)])) t
      refine XS.icmpYes P0.here P0.x rfl (pc0 := 7) (pc' := 12) rfl (hb hby d_ofd3_7) rfl (iiW_ne_t c0) (by decide) (by decide) ?_
      show Steps p.tables e below (T0.setTop (mkF m 12 _ [])) t
      refine XS.iloadN P0.here P0.x rfl (hb hby d_ofd3_12) rfl ?_
      show Steps p.tables e below (T0.setTop (mkF m 13 _ [(.int (3 : Int32))])) t
      refine XS.iconst P0.here P0.x rfl (hb hby d_ofd3_13) ?_
      show Steps p.tables e below (T0.setTop (mkF m 14 _ [(.int (2 : Int32)), (.int (3 : Int32))])) t
      refine XS.icmpNo P0.here P0.x rfl (hb hby d_ofd3_14) rfl (iiW_lt_f (by decide)) ?_
      show Steps p.tables e below (T0.setTop (mkF m 17 _ [])) t
      refine XS.iloadN P0.here P0.x rfl (hb hby d_ofd3_17) rfl ?_
      show Steps p.tables e below (T0.setTop (mkF m 18 _ [(.int ix)])) t
      refine XS.bipush P0.here P0.x rfl (hb hby d_ofd3_18) ?_
      show Steps p.tables e below (T0.setTop (mkF m 20 _ [(.int (100 : Int32)), (.int ix)])) t
      refine XS.aloadN P0.here P0.x rfl (hb hby d_ofd3_20) rfl rfl ?_
      show Steps p.tables e below (T0.setTop (mkF m 21 _ [(.ref ob), (.int (100 : Int32)), (.int ix)])) t
      refine XS.iconst P0.here P0.x rfl (hb hby d_ofd3_21) ?_
      exact kk
    refine wIaload P0 Ao (j := (1 : Int32)) (i := 1) rfl (by decide) (v := (.int x1)) rfl (hb hby d_ofd3_22) rfl ?_
    show Done _ _ _ _ _ _ _ _ _ _ _ _ _ _ _ T0 (mkF m 23 _ [(.int x1), (.int (100 : Int32)), (.int ix)])
    refine Done.stepL (pc' := 24) (st' := [(.int ((100 : Int32) + x1)), (.int ix)]) (fun t kk => ?_) ?_
    · show Steps p.tables e below (T0.setTop (mkF m 23 _ [(.int x1), (.int (100 : Int32)), (.int ix)])) t
      refine XS.iadd P0.here P0.x rfl (hb hby d_ofd3_23) rfl ?_
      exact kk
    by_cases c1 : ¬ (ix = ((100 : Int32) + x1))
    · refine Done.stepL (pc' := 39) (st' := [(.int (2 : Int32)), (.ref ob), (.int (100 : Int32)), (.int ix)]) (fun t kk => ?_) ?_
      · show Steps p.tables e below (T0.setTop (mkF m 24 _ [(.int ((100 : Int32) + x1)), (.int ix)])) t
        refine XS.icmpYes P0.here P0.x rfl (pc0 := 24) (pc' := 29) rfl (hb hby d_ofd3_24) rfl (iiW_ne_t c1) (by decide) (by decide) ?_
        show Steps p.tables e below (T0.setTop (mkF m 29 _ [])) t
        refine XS.iloadN P0.here P0.x rfl (hb hby d_ofd3_29) rfl ?_
        show Steps p.tables e below (T0.setTop (mkF m 30 _ [(.int (3 : Int32))])) t
        refine XS.iconst P0.here P0.x rfl (hb hby d_ofd3_30) ?_
        show Steps p.tables e below (T0.setTop (mkF m 31 _ [(.int (3 : Int32)), (.int (3 : Int32))])) t
        refine XS.icmpNo P0.here P0.x rfl (hb hby d_ofd3_31) rfl (iiW_lt_f (by decide)) ?_
        show Steps p.tables e below (T0.setTop (mkF m 34 _ [])) t
        refine XS.iloadN P0.here P0.x rfl (hb hby d_ofd3_34) rfl ?_
        show Steps p.tables e below (T0.setTop (mkF m 35 _ [(.int ix)])) t
        refine XS.bipush P0.here P0.x rfl (hb hby d_ofd3_35) ?_
        show Steps p.tables e below (T0.setTop (mkF m 37 _ [(.int (100 : Int32)), (.int ix)])) t
        refine XS.aloadN P0.here P0.x rfl (hb hby d_ofd3_37) rfl rfl ?_
        show Steps p.tables e below (T0.setTop (mkF m 38 _ [(.ref ob), (.int (100 : Int32)), (.int ix)])) t
        refine XS.iconst P0.here P0.x rfl (hb hby d_ofd3_38) ?_
        exact kk
      refine wIaload P0 Ao (j := (2 : Int32)) (i := 2) rfl (by decide) (v := (.int x2)) rfl (hb hby d_ofd3_39) rfl ?_
      show Done _ _ _ _ _ _ _ _ _ _ _ _ _ _ _ T0 (mkF m 40 _ [(.int x2), (.int (100 : Int32)), (.int ix)])
      refine Done.stepL (pc' := 41) (st' := [(.int ((100 : Int32) + x2)), (.int ix)]) (fun t kk => ?_) ?_
      · show Steps p.tables e below (T0.setTop (mkF m 40 _ [(.int x2), (.int (100 : Int32)), (.int ix)])) t
        refine XS.iadd P0.here P0.x rfl (hb hby d_ofd3_40) rfl ?_
        exact kk
      by_cases c2 : ¬ (ix = ((100 : Int32) + x2))
      · refine Done.stepL (pc' := 46) (st' := []) (fun t kk => ?_) ?_
        · show Steps p.tables e below (T0.setTop (mkF m 41 _ [(.int ((100 : Int32) + x2)), (.int ix)])) t
          refine XS.icmpYes P0.here P0.x rfl (pc0 := 41) (pc' := 46) rfl (hb hby d_ofd3_41) rfl (iiW_ne_t c2) (by decide) (by decide) ?_
          exact kk
        exact (hid.elim c0 (fun z_ => z_.elim c1 c2)).elim
      · refine Done.stepL (pc' := 45) (st' := [(.int (1 : Int32))]) (fun t kk => ?_) ?_
        · show Steps p.tables e below (T0.setTop (mkF m 41 _ [(.int ((100 : Int32) + x2)), (.int ix)])) t
          refine XS.icmpNo P0.here P0.x rfl (hb hby d_ofd3_41) rfl (iiW_ne_f (show ¬ (¬ (ix = ((100 : Int32) + x2))) from c2)) ?_
          show Steps p.tables e below (T0.setTop (mkF m 44 _ [])) t
          refine XS.iconst P0.here P0.x rfl (hb hby d_ofd3_44) ?_
          exact kk
        exact wRet P0 (t := .boolean) hret (narrow_01 (Or.inr rfl)) (Or.inl ⟨rfl, Or.inr (Or.inl rfl), _, rfl⟩) (hb hby d_ofd3_45) ⟨rfl, rfl⟩
    · refine Done.stepL (pc' := 28) (st' := [(.int (1 : Int32))]) (fun t kk => ?_) ?_
      · show Steps p.tables e below (T0.setTop (mkF m 24 _ [(.int ((100 : Int32) + x1)), (.int ix)])) t
        refine XS.icmpNo P0.here P0.x rfl (hb hby d_ofd3_24) rfl (iiW_ne_f (show ¬ (¬ (ix = ((100 : Int32) + x1))) from c1)) ?_
        show Steps p.tables e below (T0.setTop (mkF m 27 _ [])) t
        refine XS.iconst P0.here P0.x rfl (hb hby d_ofd3_27) ?_
        exact kk
      exact wRet P0 (t := .boolean) hret (narrow_01 (Or.inr rfl)) (Or.inl ⟨rfl, Or.inr (Or.inl rfl), _, rfl⟩) (hb hby d_ofd3_28) ⟨rfl, rfl⟩
  · refine Done.stepL (pc' := 11) (st' := [(.int (1 : Int32))]) (fun t kk => ?_) ?_
    · show Steps p.tables e below (T0.setTop (mkF m 7 _ [(.int ((100 : Int32) + x0)), (.int ix)])) t
      refine XS.icmpNo P0.here P0.x rfl (hb hby d_ofd3_7) rfl (iiW_ne_f (show ¬ (¬ (ix = ((100 : Int32) + x0))) from c0)) ?_
      show Steps p.tables e below (T0.setTop (mkF m 10 _ [])) t
      refine XS.iconst P0.here P0.x rfl (hb hby d_ofd3_10) ?_
      exact kk
    exact wRet P0 (t := .boolean) hret (narrow_01 (Or.inr rfl)) (Or.inl ⟨rfl, Or.inr (Or.inl rfl), _, rfl⟩) (hb hby d_ofd3_11) ⟨rfl, rfl⟩
theorem ef_kyo (m : MethodId) (x0 : Int32) (x1 : Int32) (x2 : UInt64) (x3 : Addr) : entryFrame m #[(.int x0), (.int x1), (.double x2), (.ref x3)] 6 = mkF m 0 #[.val (.int x0), .val (.int x1), .val (.double x2), .second, .val (.ref x3), .unset] [] := by first | (simp [entryFrame, mkF, argsToLocals, Value.category]; done) | rfl
theorem d_kyo_0 : decode method_3_code 0 = .ok (.iload_n 0, 1) := by decide +kernel
theorem d_kyo_1 : decode method_3_code 1 = .ok (.bipush 100, 2) := by decide +kernel
theorem d_kyo_3 : decode method_3_code 3 = .ok (.isub, 1) := by decide +kernel
theorem d_kyo_4 : decode method_3_code 4 = .ok (.istore 5, 2) := by decide +kernel
theorem d_kyo_6 : decode method_3_code 6 = .ok (.iload 5, 2) := by decide +kernel
theorem d_kyo_8 : decode method_3_code 8 = .ok (.iload_n 1, 1) := by decide +kernel
theorem d_kyo_9 : decode method_3_code 9 = .ok (.if_icmp .ne 5, 3) := by decide +kernel
theorem d_kyo_14 : decode method_3_code 14 = .ok (.aload 4, 2) := by decide +kernel
theorem d_kyo_16 : decode method_3_code 16 = .ok (.iload 5, 2) := by decide +kernel
theorem d_kyo_18 : decode method_3_code 18 = .ok (.daload, 1) := by decide +kernel
theorem d_kyo_19 : decode method_3_code 19 = .ok (.dreturn, 1) := by decide +kernel
theorem d_kyo_12 : decode method_3_code 12 = .ok (.dload_n 2, 1) := by decide +kernel
theorem d_kyo_13 : decode method_3_code 13 = .ok (.dreturn, 1) := by decide +kernel
set_option maxRecDepth 65536 in
set_option maxHeartbeats 4000000 in
theorem m_kyo (l : Launch) (Z : State) (a0 : Array Value) (hw : ∀ d ∈ tables_1, d.before a0 Z = true) (ix mo : Int32) (wk : UInt64) (vb : Addr) (x : Int32) (i : Nat) (F : Nat → UInt64) (h0 : Heap) (Av : Ar Z h0 vb .double 3 (fun i => .double (F i))) (hx : ix - (100 : Int32) = x) (hxi : x.toInt = (i : Int)) (hi : i < 3) :
    OMet l (⟨"com/example/urnwise/urnwise/sampler/SmallestKeysReplaceLargestKeyPinLaw", "keyOf", "(IID[D)D"⟩ : MethodName) method_3_code 6 (Option.some FieldType.double) [] ({ frames := 0, cells := 0, slots := 0, locals := 0 } : Room) Z h0 [] #[(.int ix), (.int mo), (.double wk), (.ref vb)] (fun v h' => v = some (.double (if x = mo then wk else F i)) ∧ h0 = h') := by
  refine OMet.of (own := "com/example/urnwise/urnwise/sampler/SmallestKeysReplaceLargestKeyPinLaw") (nm := "keyOf") (plainFor_of_name pn_1) rfl rfl ?_
  intro p e s m below meth c T0 P0 hby hml hret hnm
  refine Done.step (T' := T0) (g' := (mkF m 0 #[.val (.int ix), .val (.int mo), .val (.double wk), .second, .val (.ref vb), .unset] [])) (fun t kk => castTop (ef_kyo m ix mo wk vb) kk) ?_
  refine Done.step (T' := T0) (g' := (mkF m 9 #[.val (.int ix), .val (.int mo), .val (.double wk), .second, .val (.ref vb), .val (.int (ix - (100 : Int32)))] [(.int mo), (.int (ix - (100 : Int32)))])) (fun t kk => ?_) ?_
  · show Steps p.tables e below (T0.setTop (mkF m 0 _ [])) t
    refine XS.iloadN P0.here P0.x rfl (hb hby d_kyo_0) rfl ?_
    show Steps p.tables e below (T0.setTop (mkF m 1 _ [(.int ix)])) t
    refine XS.bipush P0.here P0.x rfl (hb hby d_kyo_1) ?_
    show Steps p.tables e below (T0.setTop (mkF m 3 _ [(.int (100 : Int32)), (.int ix)])) t
    refine XS.isub P0.here P0.x rfl (hb hby d_kyo_3) rfl ?_
    show Steps p.tables e below (T0.setTop (mkF m 4 _ [(.int (ix - (100 : Int32)))])) t
    refine XS.istore P0.here P0.x rfl (hb hby d_kyo_4) rfl (l' := #[.val (.int ix), .val (.int mo), .val (.double wk), .second, .val (.ref vb), .val (.int (ix - (100 : Int32)))]) rfl ?_
    show Steps p.tables e below (T0.setTop (mkF m 6 _ [])) t
    refine XS.iload P0.here P0.x rfl (hb hby d_kyo_6) rfl ?_
    show Steps p.tables e below (T0.setTop (mkF m 8 _ [(.int (ix - (100 : Int32)))])) t
    refine XS.iloadN P0.here P0.x rfl (hb hby d_kyo_8) rfl ?_
    exact kk
  by_cases c : ¬ ((ix - (100 : Int32)) = mo)
  · refine Done.stepL (pc' := 18) (st' := [(.int (ix - (100 : Int32))), (.ref vb)]) (fun t kk => ?_) ?_
    · show Steps p.tables e below (T0.setTop (mkF m 9 _ [(.int mo), (.int (ix - (100 : Int32)))])) t
      refine XS.icmpYes P0.here P0.x rfl (pc0 := 9) (pc' := 14) rfl (hb hby d_kyo_9) rfl (iiW_ne_t c) (by decide) (by decide) ?_
      show Steps p.tables e below (T0.setTop (mkF m 14 _ [])) t
      refine XS.aload P0.here P0.x rfl (hb hby d_kyo_14) rfl rfl ?_
      show Steps p.tables e below (T0.setTop (mkF m 16 _ [(.ref vb)])) t
      refine XS.iload P0.here P0.x rfl (hb hby d_kyo_16) rfl ?_
      exact kk
    refine wDaload P0 Av (j := (ix - (100 : Int32))) (i := i) (by rw [hx]; exact hxi) hi (v := (.double (F i))) rfl (hb hby d_kyo_18) rfl ?_
    show Done _ _ _ _ _ _ _ _ _ _ _ _ _ _ _ T0 (mkF m 19 _ [(.double (F i))])
    exact wRetD P0 hret (hb hby d_kyo_19) ⟨by rw [if_neg (show ¬ (x = mo) from hx ▸ c)], rfl⟩
  · refine Done.stepL (pc' := 13) (st' := [(.double wk)]) (fun t kk => ?_) ?_
    · show Steps p.tables e below (T0.setTop (mkF m 9 _ [(.int mo), (.int (ix - (100 : Int32)))])) t
      refine XS.icmpNo P0.here P0.x rfl (hb hby d_kyo_9) rfl (iiW_ne_f (show ¬ (¬ ((ix - (100 : Int32)) = mo)) from c)) ?_
      show Steps p.tables e below (T0.setTop (mkF m 12 _ [])) t
      refine XS.dloadN P0.here P0.x rfl (hb hby d_kyo_12) rfl ?_
      exact kk
    exact wRetD P0 hret (hb hby d_kyo_13) ⟨by rw [if_pos (show x = mo from hx ▸ Decidable.not_not.mp c)], rfl⟩
theorem ef_law (m : MethodId) (x0 : Int32) (x1 : Int32) (x2 : Int32) (x3 : Int32) (x4 : Int32) (x5 : Int32) : entryFrame m #[(.int x0), (.int x1), (.int x2), (.int x3), (.int x4), (.int x5)] maxLocals = mkF m 0 #[.val (.int x0), .val (.int x1), .val (.int x2), .val (.int x3), .val (.int x4), .val (.int x5), .unset, .unset, .unset, .unset, .unset, .unset, .unset, .unset, .unset, .unset, .unset, .unset, .unset, .unset, .unset, .unset, .unset, .unset, .unset, .unset, .unset, .unset, .unset, .unset, .unset, .unset, .unset] [] := by first | (simp [entryFrame, mkF, argsToLocals, Value.category, maxLocals]; done) | rfl
set_option maxRecDepth 65536 in
set_option maxHeartbeats 4000000 in
theorem m_law (l : Launch) (Z : State) (a0 : Array Value) (hw : ∀ d ∈ tables_1, d.before a0 Z = true) (p0 p1 p2 p3 p4 p5 : Int32) (h0 : Heap)  :
    OMet l x code maxLocals ret tables_1 room_1 Z h0 [] #[(.int p0), (.int p1), (.int p2), (.int p3), (.int p4), (.int p5)] (fun v h' => v = some (.int 1)) := by
  refine OMet.of (own := "com/example/urnwise/urnwise/sampler/SmallestKeysReplaceLargestKeyPinLaw") (nm := "law") (plainFor_of_name pn_1) rfl rfl ?_
  intro p e s m below meth c T0 P0 hby hml hret hnm
  refine Done.step (T' := T0) (g' := (mkF m 0 #[.val (.int p0), .val (.int p1), .val (.int p2), .val (.int p3), .val (.int p4), .val (.int p5), .unset, .unset, .unset, .unset, .unset, .unset, .unset, .unset, .unset, .unset, .unset, .unset, .unset, .unset, .unset, .unset, .unset, .unset, .unset, .unset, .unset, .unset, .unset, .unset, .unset, .unset, .unset] [])) (fun t kk => castTop (ef_law m p0 p1 p2 p3 p4 p5) kk) ?_
  obtain ⟨V0, V1, V2, nn1, nn2, nn3, nn4, D0, D1, D2, hv01, hv12⟩ := own_vals p0 p1 p2
  refine Done.step (T' := T0) (g' := (mkF m 30 #[.val (.int p0), .val (.int p1), .val (.int p2), .val (.int p3), .val (.int p4), .val (.int p5), .val (.double (FP.i2d p0)), .second, .val (.double (FP.dadd (FP.dadd (FP.i2d p0) FP.dconst1) (FP.i2d (p1 &&& (255 : Int32))))), .second, .val (.double (FP.dadd (FP.dadd (FP.dadd (FP.dadd (FP.i2d p0) FP.dconst1) (FP.i2d (p1 &&& (255 : Int32)))) FP.dconst1) (FP.i2d (p2 &&& (255 : Int32))))), .second, .unset, .unset, .unset, .unset, .unset, .unset, .unset, .unset, .unset, .unset, .unset, .unset, .unset, .unset, .unset, .unset, .unset, .unset, .unset, .unset, .unset] [])) (fun t kk => ?_) ?_
  · show Steps p.tables e below (T0.setTop (mkF m 0 _ [])) t
    refine XS.iloadN P0.here P0.x rfl (hb hby at_0) rfl ?_
    show Steps p.tables e below (T0.setTop (mkF m 1 _ [(.int p0)])) t
    refine XS.i2dS P0.here P0.x rfl (hb hby at_1) rfl rfl ?_
    show Steps p.tables e below (T0.setTop (mkF m 2 _ [(.double (FP.i2d p0))])) t
    refine XS.dstore P0.here P0.x rfl (hb hby at_2) rfl (l' := #[.val (.int p0), .val (.int p1), .val (.int p2), .val (.int p3), .val (.int p4), .val (.int p5), .val (.double (FP.i2d p0)), .second, .unset, .unset, .unset, .unset, .unset, .unset, .unset, .unset, .unset, .unset, .unset, .unset, .unset, .unset, .unset, .unset, .unset, .unset, .unset, .unset, .unset, .unset, .unset, .unset, .unset]) rfl ?_
    show Steps p.tables e below (T0.setTop (mkF m 4 _ [])) t
    refine XS.dload P0.here P0.x rfl (hb hby at_4) rfl ?_
    show Steps p.tables e below (T0.setTop (mkF m 6 _ [(.double (FP.i2d p0))])) t
    refine XS.dconst1 P0.here P0.x rfl (hb hby at_6) rfl ?_
    show Steps p.tables e below (T0.setTop (mkF m 7 _ [(.double FP.dconst1), (.double (FP.i2d p0))])) t
    refine XS.daddS P0.here P0.x rfl (hb hby at_7) rfl nn1 rfl ?_
    show Steps p.tables e below (T0.setTop (mkF m 8 _ [(.double (FP.dadd (FP.i2d p0) FP.dconst1))])) t
    refine XS.iloadN P0.here P0.x rfl (hb hby at_8) rfl ?_
    show Steps p.tables e below (T0.setTop (mkF m 9 _ [(.int p1), (.double (FP.dadd (FP.i2d p0) FP.dconst1))])) t
    refine XS.sipush P0.here P0.x rfl (hb hby at_9) ?_
    show Steps p.tables e below (T0.setTop (mkF m 12 _ [(.int (255 : Int32)), (.int p1), (.double (FP.dadd (FP.i2d p0) FP.dconst1))])) t
    refine XS.iand P0.here P0.x rfl (hb hby at_12) rfl ?_
    show Steps p.tables e below (T0.setTop (mkF m 13 _ [(.int (p1 &&& (255 : Int32))), (.double (FP.dadd (FP.i2d p0) FP.dconst1))])) t
    refine XS.i2dS P0.here P0.x rfl (hb hby at_13) rfl rfl ?_
    show Steps p.tables e below (T0.setTop (mkF m 14 _ [(.double (FP.i2d (p1 &&& (255 : Int32)))), (.double (FP.dadd (FP.i2d p0) FP.dconst1))])) t
    refine XS.daddS P0.here P0.x rfl (hb hby at_14) rfl nn2 rfl ?_
    show Steps p.tables e below (T0.setTop (mkF m 15 _ [(.double (FP.dadd (FP.dadd (FP.i2d p0) FP.dconst1) (FP.i2d (p1 &&& (255 : Int32)))))])) t
    refine XS.dstore P0.here P0.x rfl (hb hby at_15) rfl (l' := #[.val (.int p0), .val (.int p1), .val (.int p2), .val (.int p3), .val (.int p4), .val (.int p5), .val (.double (FP.i2d p0)), .second, .val (.double (FP.dadd (FP.dadd (FP.i2d p0) FP.dconst1) (FP.i2d (p1 &&& (255 : Int32))))), .second, .unset, .unset, .unset, .unset, .unset, .unset, .unset, .unset, .unset, .unset, .unset, .unset, .unset, .unset, .unset, .unset, .unset, .unset, .unset, .unset, .unset, .unset, .unset]) rfl ?_
    show Steps p.tables e below (T0.setTop (mkF m 17 _ [])) t
    refine XS.dload P0.here P0.x rfl (hb hby at_17) rfl ?_
    show Steps p.tables e below (T0.setTop (mkF m 19 _ [(.double (FP.dadd (FP.dadd (FP.i2d p0) FP.dconst1) (FP.i2d (p1 &&& (255 : Int32)))))])) t
    refine XS.dconst1 P0.here P0.x rfl (hb hby at_19) rfl ?_
    show Steps p.tables e below (T0.setTop (mkF m 20 _ [(.double FP.dconst1), (.double (FP.dadd (FP.dadd (FP.i2d p0) FP.dconst1) (FP.i2d (p1 &&& (255 : Int32)))))])) t
    refine XS.daddS P0.here P0.x rfl (hb hby at_20) rfl nn3 rfl ?_
    show Steps p.tables e below (T0.setTop (mkF m 21 _ [(.double (FP.dadd (FP.dadd (FP.dadd (FP.i2d p0) FP.dconst1) (FP.i2d (p1 &&& (255 : Int32)))) FP.dconst1))])) t
    refine XS.iloadN P0.here P0.x rfl (hb hby at_21) rfl ?_
    show Steps p.tables e below (T0.setTop (mkF m 22 _ [(.int p2), (.double (FP.dadd (FP.dadd (FP.dadd (FP.i2d p0) FP.dconst1) (FP.i2d (p1 &&& (255 : Int32)))) FP.dconst1))])) t
    refine XS.sipush P0.here P0.x rfl (hb hby at_22) ?_
    show Steps p.tables e below (T0.setTop (mkF m 25 _ [(.int (255 : Int32)), (.int p2), (.double (FP.dadd (FP.dadd (FP.dadd (FP.i2d p0) FP.dconst1) (FP.i2d (p1 &&& (255 : Int32)))) FP.dconst1))])) t
    refine XS.iand P0.here P0.x rfl (hb hby at_25) rfl ?_
    show Steps p.tables e below (T0.setTop (mkF m 26 _ [(.int (p2 &&& (255 : Int32))), (.double (FP.dadd (FP.dadd (FP.dadd (FP.i2d p0) FP.dconst1) (FP.i2d (p1 &&& (255 : Int32)))) FP.dconst1))])) t
    refine XS.i2dS P0.here P0.x rfl (hb hby at_26) rfl rfl ?_
    show Steps p.tables e below (T0.setTop (mkF m 27 _ [(.double (FP.i2d (p2 &&& (255 : Int32)))), (.double (FP.dadd (FP.dadd (FP.dadd (FP.i2d p0) FP.dconst1) (FP.i2d (p1 &&& (255 : Int32)))) FP.dconst1))])) t
    refine XS.daddS P0.here P0.x rfl (hb hby at_27) rfl nn4 rfl ?_
    show Steps p.tables e below (T0.setTop (mkF m 28 _ [(.double (FP.dadd (FP.dadd (FP.dadd (FP.dadd (FP.i2d p0) FP.dconst1) (FP.i2d (p1 &&& (255 : Int32)))) FP.dconst1) (FP.i2d (p2 &&& (255 : Int32)))))])) t
    refine XS.dstore P0.here P0.x rfl (hb hby at_28) rfl (l' := #[.val (.int p0), .val (.int p1), .val (.int p2), .val (.int p3), .val (.int p4), .val (.int p5), .val (.double (FP.i2d p0)), .second, .val (.double (FP.dadd (FP.dadd (FP.i2d p0) FP.dconst1) (FP.i2d (p1 &&& (255 : Int32))))), .second, .val (.double (FP.dadd (FP.dadd (FP.dadd (FP.dadd (FP.i2d p0) FP.dconst1) (FP.i2d (p1 &&& (255 : Int32)))) FP.dconst1) (FP.i2d (p2 &&& (255 : Int32))))), .second, .unset, .unset, .unset, .unset, .unset, .unset, .unset, .unset, .unset, .unset, .unset, .unset, .unset, .unset, .unset, .unset, .unset, .unset, .unset, .unset, .unset]) rfl ?_
    exact kk
  generalize g_w2 : (FP.dadd (FP.dadd (FP.dadd (FP.dadd (FP.i2d p0) FP.dconst1) (FP.i2d (p1 &&& (255 : Int32)))) FP.dconst1) (FP.i2d (p2 &&& (255 : Int32)))) = w2
  have E2 : DInt V2 w2 := by rw [← g_w2]; exact D2
  show Done _ _ _ _ _ _ _ _ _ _ _ _ _ _ _ T0 (mkF m 30 _ [])
  generalize g_w1 : (FP.dadd (FP.dadd (FP.i2d p0) FP.dconst1) (FP.i2d (p1 &&& (255 : Int32)))) = w1
  have E1 : DInt V1 w1 := by rw [← g_w1]; exact D1
  show Done _ _ _ _ _ _ _ _ _ _ _ _ _ _ _ T0 (mkF m 30 _ [])
  generalize g_w0 : (FP.i2d p0) = w0
  have E0 : DInt V0 w0 := by rw [← g_w0]; exact D0
  show Done _ _ _ _ _ _ _ _ _ _ _ _ _ _ _ T0 (mkF m 30 _ [])
  clear nn1 nn2 nn3 nn4 D0 D1 D2 g_w0 g_w1 g_w2
  refine Done.stepL (pc' := 31) (st' := [(.int (3 : Int32))]) (fun t kk => ?_) ?_
  · show Steps p.tables e below (T0.setTop (mkF m 30 _ [])) t
    refine XS.iconst P0.here P0.x rfl (hb hby at_30) ?_
    exact kk
  refine wNewA (aty := .double) P0 (tw0 hw) (hb hby at_31) rfl (N := 3) rfl (cap := 3) (Nat.le_refl _) (by decide) (by decide) (by decide) (ad := "[D") (by decide) (ty := .double) (dv := (.double (0 : UInt64))) rfl rfl (k' := 1) (n' := 3) rfl rfl (fun T1 h3 b4 g5 lt6 P2 E7 A8 X9 => ?_)
  have ge_b4 : h0.size ≤ b4 := by have := P0.ge; omega
  show Done _ _ _ _ _ _ _ _ _ _ _ _ _ _ _ T1 (mkF m 33 _ [(.ref b4)])
  refine Done.stepL (pc' := 37) (st' := [(.double w0), (.int (0 : Int32)), (.ref b4), (.ref b4)]) (fun t kk => ?_) ?_
  · show Steps p.tables e below (T1.setTop (mkF m 33 _ [(.ref b4)])) t
    refine XS.dup P2.here P2.x rfl (hb hby at_33) rfl rfl ?_
    show Steps p.tables e below (T1.setTop (mkF m 34 _ [(.ref b4), (.ref b4)])) t
    refine XS.iconst P2.here P2.x rfl (hb hby at_34) ?_
    show Steps p.tables e below (T1.setTop (mkF m 35 _ [(.int (0 : Int32)), (.ref b4), (.ref b4)])) t
    refine XS.dload P2.here P2.x rfl (hb hby at_35) rfl ?_
    exact kk
  refine wDastore P2 (f := (fun _ => (0 : UInt64))) A8 (j := (0 : Int32)) (i := 0) rfl (by decide) (Or.inr ge_b4) (hb hby at_37) rfl (fun T10 h12 P11 W13 A14 => ?_)
  have szh12 : h12.size = h3.size := W13.size
  show Done _ _ _ _ _ _ _ _ _ _ _ _ _ _ _ T10 (mkF m 38 _ [(.ref b4)])
  refine Done.stepL (pc' := 42) (st' := [(.double w1), (.int (1 : Int32)), (.ref b4), (.ref b4)]) (fun t kk => ?_) ?_
  · show Steps p.tables e below (T10.setTop (mkF m 38 _ [(.ref b4)])) t
    refine XS.dup P11.here P11.x rfl (hb hby at_38) rfl rfl ?_
    show Steps p.tables e below (T10.setTop (mkF m 39 _ [(.ref b4), (.ref b4)])) t
    refine XS.iconst P11.here P11.x rfl (hb hby at_39) ?_
    show Steps p.tables e below (T10.setTop (mkF m 40 _ [(.int (1 : Int32)), (.ref b4), (.ref b4)])) t
    refine XS.dload P11.here P11.x rfl (hb hby at_40) rfl ?_
    exact kk
  refine wDastore P11 (f := (oupd (fun _ => (0 : UInt64)) 0 w0)) A14 (j := (1 : Int32)) (i := 1) rfl (by decide) (Or.inr ge_b4) (hb hby at_42) rfl (fun T15 h17 P16 W18 A19 => ?_)
  have szh17 : h17.size = h12.size := W18.size
  show Done _ _ _ _ _ _ _ _ _ _ _ _ _ _ _ T15 (mkF m 43 _ [(.ref b4)])
  refine Done.stepL (pc' := 47) (st' := [(.double w2), (.int (2 : Int32)), (.ref b4), (.ref b4)]) (fun t kk => ?_) ?_
  · show Steps p.tables e below (T15.setTop (mkF m 43 _ [(.ref b4)])) t
    refine XS.dup P16.here P16.x rfl (hb hby at_43) rfl rfl ?_
    show Steps p.tables e below (T15.setTop (mkF m 44 _ [(.ref b4), (.ref b4)])) t
    refine XS.iconst P16.here P16.x rfl (hb hby at_44) ?_
    show Steps p.tables e below (T15.setTop (mkF m 45 _ [(.int (2 : Int32)), (.ref b4), (.ref b4)])) t
    refine XS.dload P16.here P16.x rfl (hb hby at_45) rfl ?_
    exact kk
  refine wDastore P16 (f := (oupd (oupd (fun _ => (0 : UInt64)) 0 w0) 1 w1)) A19 (j := (2 : Int32)) (i := 2) rfl (by decide) (Or.inr ge_b4) (hb hby at_47) rfl (fun T20 h22 P21 W23 A24 => ?_)
  have szh22 : h22.size = h17.size := W23.size
  show Done _ _ _ _ _ _ _ _ _ _ _ _ _ _ _ T20 (mkF m 48 _ [(.ref b4)])
  refine Done.step (T' := T20) (g' := (mkF m 59 #[.val (.int p0), .val (.int p1), .val (.int p2), .val (.int p3), .val (.int p4), .val (.int p5), .val (.double w0), .second, .val (.double w1), .second, .val (.double w2), .second, .val (.ref b4), .val (.int ((p3 &&& (2147483647 : Int32)) - ((p3 &&& (2147483647 : Int32)) / (6 : Int32)) * (6 : Int32))), .unset, .unset, .unset, .unset, .unset, .unset, .unset, .unset, .unset, .unset, .unset, .unset, .unset, .unset, .unset, .unset, .unset, .unset, .unset] [])) (fun t kk => ?_) ?_
  · show Steps p.tables e below (T20.setTop (mkF m 48 _ [(.ref b4)])) t
    refine XS.astore P21.here P21.x rfl (hb hby at_48) rfl rfl (l' := #[.val (.int p0), .val (.int p1), .val (.int p2), .val (.int p3), .val (.int p4), .val (.int p5), .val (.double w0), .second, .val (.double w1), .second, .val (.double w2), .second, .val (.ref b4), .unset, .unset, .unset, .unset, .unset, .unset, .unset, .unset, .unset, .unset, .unset, .unset, .unset, .unset, .unset, .unset, .unset, .unset, .unset, .unset]) rfl ?_
    show Steps p.tables e below (T20.setTop (mkF m 50 _ [])) t
    refine XS.iloadN P21.here P21.x rfl (hb hby at_50) rfl ?_
    show Steps p.tables e below (T20.setTop (mkF m 51 _ [(.int p3)])) t
    refine pLdcI P21 (tw1 hw) (hb hby at_51) rfl ?_
    show Steps p.tables e below (T20.setTop (mkF m 53 _ [(.int (2147483647 : Int32)), (.int p3)])) t
    refine XS.iand P21.here P21.x rfl (hb hby at_53) rfl ?_
    show Steps p.tables e below (T20.setTop (mkF m 54 _ [(.int (p3 &&& (2147483647 : Int32)))])) t
    refine XS.bipush P21.here P21.x rfl (hb hby at_54) ?_
    show Steps p.tables e below (T20.setTop (mkF m 56 _ [(.int (6 : Int32)), (.int (p3 &&& (2147483647 : Int32)))])) t
    refine XS.irem P21.here P21.x rfl (hb hby at_56) rfl (by decide) ?_
    show Steps p.tables e below (T20.setTop (mkF m 57 _ [(.int ((p3 &&& (2147483647 : Int32)) - ((p3 &&& (2147483647 : Int32)) / (6 : Int32)) * (6 : Int32)))])) t
    refine XS.istore P21.here P21.x rfl (hb hby at_57) rfl (l' := #[.val (.int p0), .val (.int p1), .val (.int p2), .val (.int p3), .val (.int p4), .val (.int p5), .val (.double w0), .second, .val (.double w1), .second, .val (.double w2), .second, .val (.ref b4), .val (.int ((p3 &&& (2147483647 : Int32)) - ((p3 &&& (2147483647 : Int32)) / (6 : Int32)) * (6 : Int32))), .unset, .unset, .unset, .unset, .unset, .unset, .unset, .unset, .unset, .unset, .unset, .unset, .unset, .unset, .unset, .unset, .unset, .unset, .unset]) rfl ?_
    exact kk
  have tail1 : ∀ (T : State) (h : Heap) (vb ob : Addr) (z13 z14 z15 z16 z17 x0 x1 x2 : Int32) (i0 i1 i2 : Nat), Pos p l e room_1 s m #[(.int p0), (.int p1), (.int p2), (.int p3), (.int p4), (.int p5)] below meth c Z "com/example/urnwise/urnwise/sampler/SmallestKeysReplaceLargestKeyPinLaw" [] h0.size T h 2 6 → Ar Z h vb .double 3 (fun i => .double ((oupd (oupd (oupd (fun _ => (0 : UInt64)) 0 w0) 1 w1) 2 w2) i)) → Ar Z h ob .int 3 (fun i => .int ((oupd (oupd (oupd (fun _ => (0 : Int32)) 0 x0) 1 x1) 2 x2) i)) → x0.toInt = (i0 : Int) → x1.toInt = (i1 : Int) → x2.toInt = (i2 : Int) → i0 < 3 → i1 < 3 → i2 < 3 → i0 ≠ i1 → i0 ≠ i2 → i1 ≠ i2 → Done p l e room_1 s m #[(.int p0), (.int p1), (.int p2), (.int p3), (.int p4), (.int p5)] below meth c Z "com/example/urnwise/urnwise/sampler/SmallestKeysReplaceLargestKeyPinLaw" [] h0.size (fun v h' => v = some (.int 1)) T (mkF m 136 #[.val (.int p0), .val (.int p1), .val (.int p2), .val (.int p3), .val (.int p4), .val (.int p5), .val (.double w0), .second, .val (.double w1), .second, .val (.double w2), .second, .val (.ref vb), .val (.int z13), .val (.int z14), .val (.int z15), .val (.int z16), .val (.int z17), .val (.ref ob), .unset, .unset, .unset, .unset, .unset, .unset, .unset, .unset, .unset, .unset, .unset, .unset, .unset, .unset] []) := by
    intro T h vb ob z13 z14 z15 z16 z17 x0 x1 x2 i0 i1 i2 P Av Ao hx0 hx1 hx2 hi0 hi1 hi2 pm01 pm02 pm12
    have ltv := Av.ltN
    have lto := Ao.ltN
    obtain ⟨hn0, N, hc0, hN4, hnN0⟩ := own_nc p4
    refine Done.step (T' := T) (g' := (mkF m 167 #[.val (.int p0), .val (.int p1), .val (.int p2), .val (.int p3), .val (.int p4), .val (.int p5), .val (.double w0), .second, .val (.double w1), .second, .val (.double w2), .second, .val (.ref vb), .val (.int z13), .val (.int z14), .val (.int z15), .val (.int z16), .val (.int z17), .val (.ref ob), .val (.int (p4 &&& (2147483647 : Int32))), .val (.int ((1 : Int32) + ((p4 &&& (2147483647 : Int32)) - ((p4 &&& (2147483647 : Int32)) / (3 : Int32)) * (3 : Int32)))), .val (.int (((1 : Int32) + ((p4 &&& (2147483647 : Int32)) - ((p4 &&& (2147483647 : Int32)) / (3 : Int32)) * (3 : Int32))) + (((p4 &&& (2147483647 : Int32)) / (3 : Int32)) &&& (1 : Int32)))), .val (.double (FP.i2d p5)), .second, .unset, .unset, .unset, .unset, .unset, .unset, .unset, .unset, .unset] [])) (fun t kk => ?_) ?_
    · show Steps p.tables e below (T.setTop (mkF m 136 _ [])) t
      refine XS.iload P.here P.x rfl (hb hby at_136) rfl ?_
      show Steps p.tables e below (T.setTop (mkF m 138 _ [(.int p4)])) t
      refine pLdcI P (tw1 hw) (hb hby at_138) rfl ?_
      show Steps p.tables e below (T.setTop (mkF m 140 _ [(.int (2147483647 : Int32)), (.int p4)])) t
      refine XS.iand P.here P.x rfl (hb hby at_140) rfl ?_
      show Steps p.tables e below (T.setTop (mkF m 141 _ [(.int (p4 &&& (2147483647 : Int32)))])) t
      refine XS.istore P.here P.x rfl (hb hby at_141) rfl (l' := #[.val (.int p0), .val (.int p1), .val (.int p2), .val (.int p3), .val (.int p4), .val (.int p5), .val (.double w0), .second, .val (.double w1), .second, .val (.double w2), .second, .val (.ref vb), .val (.int z13), .val (.int z14), .val (.int z15), .val (.int z16), .val (.int z17), .val (.ref ob), .val (.int (p4 &&& (2147483647 : Int32))), .unset, .unset, .unset, .unset, .unset, .unset, .unset, .unset, .unset, .unset, .unset, .unset, .unset]) rfl ?_
      show Steps p.tables e below (T.setTop (mkF m 143 _ [])) t
      refine XS.iconst P.here P.x rfl (hb hby at_143) ?_
      show Steps p.tables e below (T.setTop (mkF m 144 _ [(.int (1 : Int32))])) t
      refine XS.iload P.here P.x rfl (hb hby at_144) rfl ?_
      show Steps p.tables e below (T.setTop (mkF m 146 _ [(.int (p4 &&& (2147483647 : Int32))), (.int (1 : Int32))])) t
      refine XS.iconst P.here P.x rfl (hb hby at_146) ?_
      show Steps p.tables e below (T.setTop (mkF m 147 _ [(.int (3 : Int32)), (.int (p4 &&& (2147483647 : Int32))), (.int (1 : Int32))])) t
      refine XS.irem P.here P.x rfl (hb hby at_147) rfl (by decide) ?_
      show Steps p.tables e below (T.setTop (mkF m 148 _ [(.int ((p4 &&& (2147483647 : Int32)) - ((p4 &&& (2147483647 : Int32)) / (3 : Int32)) * (3 : Int32))), (.int (1 : Int32))])) t
      refine XS.iadd P.here P.x rfl (hb hby at_148) rfl ?_
      show Steps p.tables e below (T.setTop (mkF m 149 _ [(.int ((1 : Int32) + ((p4 &&& (2147483647 : Int32)) - ((p4 &&& (2147483647 : Int32)) / (3 : Int32)) * (3 : Int32))))])) t
      refine XS.istore P.here P.x rfl (hb hby at_149) rfl (l' := #[.val (.int p0), .val (.int p1), .val (.int p2), .val (.int p3), .val (.int p4), .val (.int p5), .val (.double w0), .second, .val (.double w1), .second, .val (.double w2), .second, .val (.ref vb), .val (.int z13), .val (.int z14), .val (.int z15), .val (.int z16), .val (.int z17), .val (.ref ob), .val (.int (p4 &&& (2147483647 : Int32))), .val (.int ((1 : Int32) + ((p4 &&& (2147483647 : Int32)) - ((p4 &&& (2147483647 : Int32)) / (3 : Int32)) * (3 : Int32)))), .unset, .unset, .unset, .unset, .unset, .unset, .unset, .unset, .unset, .unset, .unset, .unset]) rfl ?_
      show Steps p.tables e below (T.setTop (mkF m 151 _ [])) t
      refine XS.iload P.here P.x rfl (hb hby at_151) rfl ?_
      show Steps p.tables e below (T.setTop (mkF m 153 _ [(.int ((1 : Int32) + ((p4 &&& (2147483647 : Int32)) - ((p4 &&& (2147483647 : Int32)) / (3 : Int32)) * (3 : Int32))))])) t
      refine XS.iload P.here P.x rfl (hb hby at_153) rfl ?_
      show Steps p.tables e below (T.setTop (mkF m 155 _ [(.int (p4 &&& (2147483647 : Int32))), (.int ((1 : Int32) + ((p4 &&& (2147483647 : Int32)) - ((p4 &&& (2147483647 : Int32)) / (3 : Int32)) * (3 : Int32))))])) t
      refine XS.iconst P.here P.x rfl (hb hby at_155) ?_
      show Steps p.tables e below (T.setTop (mkF m 156 _ [(.int (3 : Int32)), (.int (p4 &&& (2147483647 : Int32))), (.int ((1 : Int32) + ((p4 &&& (2147483647 : Int32)) - ((p4 &&& (2147483647 : Int32)) / (3 : Int32)) * (3 : Int32))))])) t
      refine XS.idiv P.here P.x rfl (hb hby at_156) rfl (by decide) ?_
      show Steps p.tables e below (T.setTop (mkF m 157 _ [(.int ((p4 &&& (2147483647 : Int32)) / (3 : Int32))), (.int ((1 : Int32) + ((p4 &&& (2147483647 : Int32)) - ((p4 &&& (2147483647 : Int32)) / (3 : Int32)) * (3 : Int32))))])) t
      refine XS.iconst P.here P.x rfl (hb hby at_157) ?_
      show Steps p.tables e below (T.setTop (mkF m 158 _ [(.int (1 : Int32)), (.int ((p4 &&& (2147483647 : Int32)) / (3 : Int32))), (.int ((1 : Int32) + ((p4 &&& (2147483647 : Int32)) - ((p4 &&& (2147483647 : Int32)) / (3 : Int32)) * (3 : Int32))))])) t
      refine XS.iand P.here P.x rfl (hb hby at_158) rfl ?_
      show Steps p.tables e below (T.setTop (mkF m 159 _ [(.int (((p4 &&& (2147483647 : Int32)) / (3 : Int32)) &&& (1 : Int32))), (.int ((1 : Int32) + ((p4 &&& (2147483647 : Int32)) - ((p4 &&& (2147483647 : Int32)) / (3 : Int32)) * (3 : Int32))))])) t
      refine XS.iadd P.here P.x rfl (hb hby at_159) rfl ?_
      show Steps p.tables e below (T.setTop (mkF m 160 _ [(.int (((1 : Int32) + ((p4 &&& (2147483647 : Int32)) - ((p4 &&& (2147483647 : Int32)) / (3 : Int32)) * (3 : Int32))) + (((p4 &&& (2147483647 : Int32)) / (3 : Int32)) &&& (1 : Int32))))])) t
      refine XS.istore P.here P.x rfl (hb hby at_160) rfl (l' := #[.val (.int p0), .val (.int p1), .val (.int p2), .val (.int p3), .val (.int p4), .val (.int p5), .val (.double w0), .second, .val (.double w1), .second, .val (.double w2), .second, .val (.ref vb), .val (.int z13), .val (.int z14), .val (.int z15), .val (.int z16), .val (.int z17), .val (.ref ob), .val (.int (p4 &&& (2147483647 : Int32))), .val (.int ((1 : Int32) + ((p4 &&& (2147483647 : Int32)) - ((p4 &&& (2147483647 : Int32)) / (3 : Int32)) * (3 : Int32)))), .val (.int (((1 : Int32) + ((p4 &&& (2147483647 : Int32)) - ((p4 &&& (2147483647 : Int32)) / (3 : Int32)) * (3 : Int32))) + (((p4 &&& (2147483647 : Int32)) / (3 : Int32)) &&& (1 : Int32)))), .unset, .unset, .unset, .unset, .unset, .unset, .unset, .unset, .unset, .unset, .unset]) rfl ?_
      show Steps p.tables e below (T.setTop (mkF m 162 _ [])) t
      refine XS.iload P.here P.x rfl (hb hby at_162) rfl ?_
      show Steps p.tables e below (T.setTop (mkF m 164 _ [(.int p5)])) t
      refine XS.i2dS P.here P.x rfl (hb hby at_164) rfl rfl ?_
      show Steps p.tables e below (T.setTop (mkF m 165 _ [(.double (FP.i2d p5))])) t
      refine XS.dstore P.here P.x rfl (hb hby at_165) rfl (l' := #[.val (.int p0), .val (.int p1), .val (.int p2), .val (.int p3), .val (.int p4), .val (.int p5), .val (.double w0), .second, .val (.double w1), .second, .val (.double w2), .second, .val (.ref vb), .val (.int z13), .val (.int z14), .val (.int z15), .val (.int z16), .val (.int z17), .val (.ref ob), .val (.int (p4 &&& (2147483647 : Int32))), .val (.int ((1 : Int32) + ((p4 &&& (2147483647 : Int32)) - ((p4 &&& (2147483647 : Int32)) / (3 : Int32)) * (3 : Int32)))), .val (.int (((1 : Int32) + ((p4 &&& (2147483647 : Int32)) - ((p4 &&& (2147483647 : Int32)) / (3 : Int32)) * (3 : Int32))) + (((p4 &&& (2147483647 : Int32)) / (3 : Int32)) &&& (1 : Int32)))), .val (.double (FP.i2d p5)), .second, .unset, .unset, .unset, .unset, .unset, .unset, .unset, .unset, .unset]) rfl ?_
      exact kk
    generalize g_cv : (((1 : Int32) + ((p4 &&& (2147483647 : Int32)) - ((p4 &&& (2147483647 : Int32)) / (3 : Int32)) * (3 : Int32))) + (((p4 &&& (2147483647 : Int32)) / (3 : Int32)) &&& (1 : Int32))) = cv
    have hcv : cv.toInt = (N : Int) := by rw [← g_cv]; exact hc0
    show Done _ _ _ _ _ _ _ _ _ _ _ _ _ _ _ T (mkF m 167 _ [])
    generalize g_nv : ((1 : Int32) + ((p4 &&& (2147483647 : Int32)) - ((p4 &&& (2147483647 : Int32)) / (3 : Int32)) * (3 : Int32))) = nv
    have hnv : nv = 1 ∨ nv = 2 ∨ nv = 3 := by rw [← g_nv]; exact hn0
    have hnN : nv.toInt ≤ (N : Int) := by rw [← g_nv]; exact hnN0
    show Done _ _ _ _ _ _ _ _ _ _ _ _ _ _ _ T (mkF m 167 _ [])
    generalize g_wk : (FP.i2d p5) = wk
    have Dk : DInt p5.toInt wk := by rw [← g_wk]; exact i2d_int p5
    show Done _ _ _ _ _ _ _ _ _ _ _ _ _ _ _ T (mkF m 167 _ [])
    clear hn0 hc0 hnN0 g_cv g_nv g_wk
    rcases hnv with rfl | rfl | rfl
    · have hnN' : 1 ≤ N := by have e_ : (1 : Int32).toInt = 1 := (by decide); omega
      show Done _ _ _ _ _ _ _ _ _ _ _ _ _ _ _ T (mkF m 167 _ [])
      refine wNew P (tw3 hw) (tw4 hw) (tw5 hw) (hb hby at_167) rfl (by decide) (by decide) (k' := 3) (n' := 10) rfl rfl (fun T25 h27 b28 g29 lt30 P26 E31 X32 D33 => ?_)
      have ge_b28 : h0.size ≤ b28 := by have := P.ge; omega
      have F34 : Fld Z h27 b28 "com/example/urnwise/urnwise/sampler/SmallestKeys" "capacity" "I" (.int (0 : Int32)) := D33 (Or.inr (tw13 hw)) (ty := .int) (by decide)
      have F35 : Fld Z h27 b28 "com/example/urnwise/urnwise/sampler/SmallestKeys" "keys" "[D" .null := D33 (Or.inl (tw19 hw)) (ty := (.array .double)) (by decide)
      have F36 : Fld Z h27 b28 "com/example/urnwise/urnwise/sampler/SmallestKeys" "indices" "[I" .null := D33 (Or.inl (tw21 hw)) (ty := (.array .int)) (by decide)
      have F37 : Fld Z h27 b28 "com/example/urnwise/urnwise/sampler/SmallestKeys" "size" "I" (.int (0 : Int32)) := D33 (Or.inl (tw28 hw)) (ty := .int) (by decide)
      show Done _ _ _ _ _ _ _ _ _ _ _ _ _ _ _ T25 (mkF m 170 _ [(.ref b28)])
      refine Done.stepL (pc' := 173) (st' := [(.int cv), (.ref b28), (.ref b28)]) (fun t kk => ?_) ?_
      · show Steps p.tables e below (T25.setTop (mkF m 170 _ [(.ref b28)])) t
        refine XS.dup P26.here P26.x rfl (hb hby at_170) rfl rfl ?_
        show Steps p.tables e below (T25.setTop (mkF m 171 _ [(.ref b28), (.ref b28)])) t
        refine XS.iload P26.here P26.x rfl (hb hby at_171) rfl ?_
        exact kk
      refine wCallI P26 (m_hpInit l Z a0 hw b28 cv N h27 X32 F34 F35 F36 (own_min16 hcv (by omega)) (by omega) F37) rfl (tw6 hw) (tw7 hw) (tw5 hw) (tw8 hw) (by decide) (a := b28) (by rw [hml]; rfl) (lenOf pd_3 rfl) (argsL := [(.int cv)]) (rest := [(.ref b28)]) rfl rfl (W := 1) (Nat.le_of_eq rfl) (by decide) (by decide) (by decide) (by decide) (allS (Or.inr ge_b28) all0) (hb hby at_173) rfl (k' := 5) (n' := 42) rfl rfl ?_
      rintro T38 h53 _ P39 K54 ⟨rfl, b40, b41, q42, q43, q44, q45, q46, F47, F48, F49, F50, A51, A52⟩
      have szh53 : h27.size ≤ h53.size := K54.1
      have ge_b40 : h0.size ≤ b40 := by have := q42; have := P26.ge; omega
      have ge_b41 : h0.size ≤ b41 := by have := q43; have := P26.ge; omega
      have dK0 : ∀ i, i < N → DInt ((fun _ => (0 : Int)) i) ((fun _ => (0 : UInt64)) i) := fun i _ => dint_c0
      show Done _ _ _ _ _ _ _ _ _ _ _ _ _ _ _ T38 (mkF m 176 _ [(.ref b28)])
      refine Done.step (T' := T38) (g' := (mkF m 185 #[.val (.int p0), .val (.int p1), .val (.int p2), .val (.int p3), .val (.int p4), .val (.int p5), .val (.double w0), .second, .val (.double w1), .second, .val (.double w2), .second, .val (.ref vb), .val (.int z13), .val (.int z14), .val (.int z15), .val (.int z16), .val (.int z17), .val (.ref ob), .val (.int (p4 &&& (2147483647 : Int32))), .val (.int (1 : Int32)), .val (.int cv), .val (.double wk), .second, .val (.ref b28), .unset, .unset, .unset, .unset, .unset, .unset, .unset, .unset] [(.int (0 : Int32)), (.ref ob), (.ref vb), (.ref b28)])) (fun t kk => ?_) ?_
      · show Steps p.tables e below (T38.setTop (mkF m 176 _ [(.ref b28)])) t
        refine XS.astore P39.here P39.x rfl (hb hby at_176) rfl rfl (l' := #[.val (.int p0), .val (.int p1), .val (.int p2), .val (.int p3), .val (.int p4), .val (.int p5), .val (.double w0), .second, .val (.double w1), .second, .val (.double w2), .second, .val (.ref vb), .val (.int z13), .val (.int z14), .val (.int z15), .val (.int z16), .val (.int z17), .val (.ref ob), .val (.int (p4 &&& (2147483647 : Int32))), .val (.int (1 : Int32)), .val (.int cv), .val (.double wk), .second, .val (.ref b28), .unset, .unset, .unset, .unset, .unset, .unset, .unset, .unset]) rfl ?_
        show Steps p.tables e below (T38.setTop (mkF m 178 _ [])) t
        refine XS.aload P39.here P39.x rfl (hb hby at_178) rfl rfl ?_
        show Steps p.tables e below (T38.setTop (mkF m 180 _ [(.ref b28)])) t
        refine XS.aload P39.here P39.x rfl (hb hby at_180) rfl rfl ?_
        show Steps p.tables e below (T38.setTop (mkF m 182 _ [(.ref vb), (.ref b28)])) t
        refine XS.aload P39.here P39.x rfl (hb hby at_182) rfl rfl ?_
        show Steps p.tables e below (T38.setTop (mkF m 184 _ [(.ref ob), (.ref vb), (.ref b28)])) t
        refine XS.iconst P39.here P39.x rfl (hb hby at_184) ?_
        exact kk
      have f55 := ((Ao.ext E31).keep K54 (ninS (by first | assumption | exact Ne.symm (by assumption) | exact adr_ne (by omega) | omega) nin0))
      refine wIaload P39 f55 (j := (0 : Int32)) (i := 0) rfl (by decide) (v := (.int x0)) rfl (hb hby at_185) rfl ?_
      show Done _ _ _ _ _ _ _ _ _ _ _ _ _ _ _ T38 (mkF m 186 _ [(.int x0), (.ref vb), (.ref b28)])
      have f56 := ((Av.ext E31).keep K54 (ninS (by first | assumption | exact Ne.symm (by assumption) | exact adr_ne (by omega) | omega) nin0))
      refine wDaload P39 f56 (j := x0) (i := i0) hx0 hi0 (v := (.double ((oupd (oupd (oupd (fun _ => (0 : UInt64)) 0 w0) 1 w1) 2 w2) i0))) rfl (hb hby at_186) rfl ?_
      show Done _ _ _ _ _ _ _ _ _ _ _ _ _ _ _ T38 (mkF m 187 _ [(.double ((oupd (oupd (oupd (fun _ => (0 : UInt64)) 0 w0) 1 w1) 2 w2) i0)), (.ref b28)])
      refine Done.stepL (pc' := 192) (st' := [(.int (0 : Int32)), (.ref ob), (.int (100 : Int32)), (.double ((oupd (oupd (oupd (fun _ => (0 : UInt64)) 0 w0) 1 w1) 2 w2) i0)), (.ref b28)]) (fun t kk => ?_) ?_
      · show Steps p.tables e below (T38.setTop (mkF m 187 _ [(.double ((oupd (oupd (oupd (fun _ => (0 : UInt64)) 0 w0) 1 w1) 2 w2) i0)), (.ref b28)])) t
        refine XS.bipush P39.here P39.x rfl (hb hby at_187) ?_
        show Steps p.tables e below (T38.setTop (mkF m 189 _ [(.int (100 : Int32)), (.double ((oupd (oupd (oupd (fun _ => (0 : UInt64)) 0 w0) 1 w1) 2 w2) i0)), (.ref b28)])) t
        refine XS.aload P39.here P39.x rfl (hb hby at_189) rfl rfl ?_
        show Steps p.tables e below (T38.setTop (mkF m 191 _ [(.ref ob), (.int (100 : Int32)), (.double ((oupd (oupd (oupd (fun _ => (0 : UInt64)) 0 w0) 1 w1) 2 w2) i0)), (.ref b28)])) t
        refine XS.iconst P39.here P39.x rfl (hb hby at_191) ?_
        exact kk
      refine wIaload P39 f55 (j := (0 : Int32)) (i := 0) rfl (by decide) (v := (.int x0)) rfl (hb hby at_192) rfl ?_
      show Done _ _ _ _ _ _ _ _ _ _ _ _ _ _ _ T38 (mkF m 193 _ [(.int x0), (.int (100 : Int32)), (.double ((oupd (oupd (oupd (fun _ => (0 : UInt64)) 0 w0) 1 w1) 2 w2) i0)), (.ref b28)])
      refine Done.stepL (pc' := 194) (st' := [(.int ((100 : Int32) + x0)), (.double ((oupd (oupd (oupd (fun _ => (0 : UInt64)) 0 w0) 1 w1) 2 w2) i0)), (.ref b28)]) (fun t kk => ?_) ?_
      · show Steps p.tables e below (T38.setTop (mkF m 193 _ [(.int x0), (.int (100 : Int32)), (.double ((oupd (oupd (oupd (fun _ => (0 : UInt64)) 0 w0) 1 w1) 2 w2) i0)), (.ref b28)])) t
        refine XS.iadd P39.here P39.x rfl (hb hby at_193) rfl ?_
        exact kk
      have f67 := (X32.keep K54)
      refine wCallV P39 (m_offA l Z a0 hw b28 b40 b41 (0 : Int32) N 0 (fun _ => (0 : UInt64)) (fun _ => (0 : Int)) (fun _ => (0 : Int32)) cv ((oupd (oupd (oupd (fun _ => (0 : UInt64)) 0 w0) 1 w1) 2 w2) i0) ((100 : Int32) + x0) (own_sel V0 V1 V2 i0) (1 : Int32) h53 f67 F48 F49 F47 F50 A51 A52 (by first | assumption | exact Ne.symm (by assumption) | exact adr_ne (by omega)) (by first | assumption | exact Ne.symm (by assumption) | exact adr_ne (by omega)) q44 (by omega) rfl dK0 (own_ds E0 E1 E2 i0 hi0) ((own_lt' (i := 0) (by decide) hcv).mpr (by omega)) (by omega) (by decide)) (tw22 hw) (tw23 hw) (tw25 hw) (tw25 hw) (tw24 hw) (tw5 hw) (tw26 hw) (by decide) f67 (by rw [hml]; rfl) (lenOf pd_4 rfl) (argsL := [(.double ((oupd (oupd (oupd (fun _ => (0 : UInt64)) 0 w0) 1 w1) 2 w2) i0)), (.int ((100 : Int32) + x0))]) (rest := []) rfl rfl (W := 0) (Nat.le_of_eq rfl) (by decide) (by decide) (by decide) (by decide) (allS (Or.inr ge_b28) (allS (Or.inr ge_b40) (allS (Or.inr ge_b41) all0))) (hb hby at_194) rfl (k' := 5) (n' := 42) rfl rfl ?_
      rintro T57 h68 _ P58 K69 ⟨rfl, kf66, F59, F60, F61, F62, A63, dK65, A64⟩
      have szh68 : h53.size ≤ h68.size := K69.1
      generalize gK1 : (own_of 0 true (fun _ => (0 : Int)) (fun _ => (0 : Int32)) (own_sel V0 V1 V2 i0) ((100 : Int32) + x0)).1 = K1 at dK65
      generalize gJ1 : (own_of 0 true (fun _ => (0 : Int)) (fun _ => (0 : Int32)) (own_sel V0 V1 V2 i0) ((100 : Int32) + x0)).2 = J1 at A64
      show Done _ _ _ _ _ _ _ _ _ _ _ _ _ _ _ T57 (mkF m 197 _ [])
      refine Done.stepL (pc' := 247) (st' := []) (fun t kk => ?_) ?_
      · show Steps p.tables e below (T57.setTop (mkF m 197 _ [])) t
        refine XS.iload P58.here P58.x rfl (hb hby at_197) rfl ?_
        show Steps p.tables e below (T57.setTop (mkF m 199 _ [(.int (1 : Int32))])) t
        refine XS.iconst P58.here P58.x rfl (hb hby at_199) ?_
        show Steps p.tables e below (T57.setTop (mkF m 200 _ [(.int (2 : Int32)), (.int (1 : Int32))])) t
        refine XS.icmpYes P58.here P58.x rfl (pc0 := 200) (pc' := 222) rfl (hb hby at_200) rfl (iiW_lt_t (by decide)) (by decide) (by decide) ?_
        show Steps p.tables e below (T57.setTop (mkF m 222 _ [])) t
        refine XS.iload P58.here P58.x rfl (hb hby at_222) rfl ?_
        show Steps p.tables e below (T57.setTop (mkF m 224 _ [(.int (1 : Int32))])) t
        refine XS.iconst P58.here P58.x rfl (hb hby at_224) ?_
        show Steps p.tables e below (T57.setTop (mkF m 225 _ [(.int (3 : Int32)), (.int (1 : Int32))])) t
        refine XS.icmpYes P58.here P58.x rfl (pc0 := 225) (pc' := 247) rfl (hb hby at_225) rfl (iiW_lt_t (by decide)) (by decide) (by decide) ?_
        exact kk
      have tail2 : ∀ (mo : Int32), mo = x0 → Done p l e room_1 s m #[(.int p0), (.int p1), (.int p2), (.int p3), (.int p4), (.int p5)] below meth c Z "com/example/urnwise/urnwise/sampler/SmallestKeysReplaceLargestKeyPinLaw" [] h0.size (fun v h' => v = some (.int 1)) T57 (mkF m 295 #[.val (.int p0), .val (.int p1), .val (.int p2), .val (.int p3), .val (.int p4), .val (.int p5), .val (.double w0), .second, .val (.double w1), .second, .val (.double w2), .second, .val (.ref vb), .val (.int z13), .val (.int z14), .val (.int z15), .val (.int z16), .val (.int z17), .val (.ref ob), .val (.int (p4 &&& (2147483647 : Int32))), .val (.int (1 : Int32)), .val (.int cv), .val (.double wk), .second, .val (.ref b28), .val (.int mo), .unset, .unset, .unset, .unset, .unset, .unset, .unset] []) := by
        intro mo hmo
        refine Done.step (T' := T57) (g' := (mkF m 299 #[.val (.int p0), .val (.int p1), .val (.int p2), .val (.int p3), .val (.int p4), .val (.int p5), .val (.double w0), .second, .val (.double w1), .second, .val (.double w2), .second, .val (.ref vb), .val (.int z13), .val (.int z14), .val (.int z15), .val (.int z16), .val (.int z17), .val (.ref ob), .val (.int (p4 &&& (2147483647 : Int32))), .val (.int (1 : Int32)), .val (.int cv), .val (.double wk), .second, .val (.ref b28), .val (.int mo), .val (.double wk), .second, .unset, .unset, .unset, .unset, .unset] [])) (fun t kk => ?_) ?_
        · show Steps p.tables e below (T57.setTop (mkF m 295 _ [])) t
          refine XS.dload P58.here P58.x rfl (hb hby at_295) rfl ?_
          show Steps p.tables e below (T57.setTop (mkF m 297 _ [(.double wk)])) t
          refine XS.dstore P58.here P58.x rfl (hb hby at_297) rfl (l' := #[.val (.int p0), .val (.int p1), .val (.int p2), .val (.int p3), .val (.int p4), .val (.int p5), .val (.double w0), .second, .val (.double w1), .second, .val (.double w2), .second, .val (.ref vb), .val (.int z13), .val (.int z14), .val (.int z15), .val (.int z16), .val (.int z17), .val (.ref ob), .val (.int (p4 &&& (2147483647 : Int32))), .val (.int (1 : Int32)), .val (.int cv), .val (.double wk), .second, .val (.ref b28), .val (.int mo), .val (.double wk), .second, .unset, .unset, .unset, .unset, .unset]) rfl ?_
          exact kk
        have t330 : ∀ (M1 : Int) (m1 : UInt64), DInt M1 m1 → M1 = (if x0 = mo then p5.toInt else (if p5.toInt < (own_sel V0 V1 V2 i0) then (own_sel V0 V1 V2 i0) else p5.toInt)) → Done p l e room_1 s m #[(.int p0), (.int p1), (.int p2), (.int p3), (.int p4), (.int p5)] below meth c Z "com/example/urnwise/urnwise/sampler/SmallestKeysReplaceLargestKeyPinLaw" [] h0.size (fun v h' => v = some (.int 1)) T57 (mkF m 330 #[.val (.int p0), .val (.int p1), .val (.int p2), .val (.int p3), .val (.int p4), .val (.int p5), .val (.double w0), .second, .val (.double w1), .second, .val (.double w2), .second, .val (.ref vb), .val (.int z13), .val (.int z14), .val (.int z15), .val (.int z16), .val (.int z17), .val (.ref ob), .val (.int (p4 &&& (2147483647 : Int32))), .val (.int (1 : Int32)), .val (.int cv), .val (.double wk), .second, .val (.ref b28), .val (.int mo), .val (.double m1), .second, .unset, .unset, .unset, .unset, .unset] []) := by
          intro M1 m1 D1 hM1
          obtain ⟨hrt, hmx, hord⟩ := own_fin_1 x0 mo (own_sel V0 V1 V2 i0) p5.toInt  hmo M1 hM1 K1 J1 gK1 gJ1
          refine Done.stepL (pc' := 408) (st' := [(.double wk), (.ref b28)]) (fun t kk => ?_) ?_
          · show Steps p.tables e below (T57.setTop (mkF m 330 _ [])) t
            refine XS.iload P58.here P58.x rfl (hb hby at_330) rfl ?_
            show Steps p.tables e below (T57.setTop (mkF m 332 _ [(.int (1 : Int32))])) t
            refine XS.iconst P58.here P58.x rfl (hb hby at_332) ?_
            show Steps p.tables e below (T57.setTop (mkF m 333 _ [(.int (2 : Int32)), (.int (1 : Int32))])) t
            refine XS.icmpYes P58.here P58.x rfl (pc0 := 333) (pc' := 367) rfl (hb hby at_333) rfl (iiW_lt_t (by decide)) (by decide) (by decide) ?_
            show Steps p.tables e below (T57.setTop (mkF m 367 _ [])) t
            refine XS.iload P58.here P58.x rfl (hb hby at_367) rfl ?_
            show Steps p.tables e below (T57.setTop (mkF m 369 _ [(.int (1 : Int32))])) t
            refine XS.iconst P58.here P58.x rfl (hb hby at_369) ?_
            show Steps p.tables e below (T57.setTop (mkF m 370 _ [(.int (3 : Int32)), (.int (1 : Int32))])) t
            refine XS.icmpYes P58.here P58.x rfl (pc0 := 370) (pc' := 404) rfl (hb hby at_370) rfl (iiW_lt_t (by decide)) (by decide) (by decide) ?_
            show Steps p.tables e below (T57.setTop (mkF m 404 _ [])) t
            refine XS.aload P58.here P58.x rfl (hb hby at_404) rfl rfl ?_
            show Steps p.tables e below (T57.setTop (mkF m 406 _ [(.ref b28)])) t
            refine XS.dload P58.here P58.x rfl (hb hby at_406) rfl ?_
            exact kk
          have f76 := (f67.keep K69)
          refine wCallV P58 (m_rlk l Z a0 hw b28 b40 b41 (1 : Int32) N 1 kf66 K1 J1 cv wk p5.toInt h68 f76 F60 F61 F59 F62 A63 A64 (by first | assumption | exact Ne.symm (by assumption) | exact adr_ne (by omega)) (by first | assumption | exact Ne.symm (by assumption) | exact adr_ne (by omega)) q44 (by omega) rfl dK65 Dk (by decide) (by omega)) (tw33 hw) (tw34 hw) (tw36 hw) (tw36 hw) (tw35 hw) (tw5 hw) (tw37 hw) (by decide) f76 (by rw [hml]; rfl) (lenOf pd_5 rfl) (argsL := [(.double wk)]) (rest := []) rfl rfl (W := 0) (Nat.le_of_eq rfl) (by decide) (by decide) (by decide) (by decide) (allS (Or.inr ge_b40) (allS (Or.inr ge_b41) all0)) (hb hby at_408) rfl (k' := 5) (n' := 42) rfl rfl ?_
          rintro T70 h77 _ P71 K78 ⟨rfl, kf75, A72, dK74, A73⟩
          have szh77 : h68.size ≤ h77.size := K78.1
          generalize gKr : (own_dn 1 1 K1 J1 0 p5.toInt (J1 0)).1 = Kr at dK74
          generalize gJr : (own_dn 1 1 K1 J1 0 p5.toInt (J1 0)).2 = Jr at A73
          show Done _ _ _ _ _ _ _ _ _ _ _ _ _ _ _ T70 (mkF m 411 _ [(.int (J1 0))])
          refine Done.step (T' := T70) (g' := (mkF m 427 #[.val (.int p0), .val (.int p1), .val (.int p2), .val (.int p3), .val (.int p4), .val (.int p5), .val (.double w0), .second, .val (.double w1), .second, .val (.double w2), .second, .val (.ref vb), .val (.int z13), .val (.int z14), .val (.int z15), .val (.int z16), .val (.int z17), .val (.ref ob), .val (.int (p4 &&& (2147483647 : Int32))), .val (.int (1 : Int32)), .val (.int cv), .val (.double wk), .second, .val (.ref b28), .val (.int mo), .val (.double m1), .second, .val (.int (J1 0)), .unset, .unset, .unset, .unset] [(.ref b28)])) (fun t kk => ?_) ?_
          · show Steps p.tables e below (T70.setTop (mkF m 411 _ [(.int (J1 0))])) t
            refine XS.istore P71.here P71.x rfl (hb hby at_411) rfl (l' := #[.val (.int p0), .val (.int p1), .val (.int p2), .val (.int p3), .val (.int p4), .val (.int p5), .val (.double w0), .second, .val (.double w1), .second, .val (.double w2), .second, .val (.ref vb), .val (.int z13), .val (.int z14), .val (.int z15), .val (.int z16), .val (.int z17), .val (.ref ob), .val (.int (p4 &&& (2147483647 : Int32))), .val (.int (1 : Int32)), .val (.int cv), .val (.double wk), .second, .val (.ref b28), .val (.int mo), .val (.double m1), .second, .val (.int (J1 0)), .unset, .unset, .unset, .unset]) rfl ?_
            show Steps p.tables e below (T70.setTop (mkF m 413 _ [])) t
            refine XS.iload P71.here P71.x rfl (hb hby at_413) rfl ?_
            show Steps p.tables e below (T70.setTop (mkF m 415 _ [(.int (J1 0))])) t
            refine XS.bipush P71.here P71.x rfl (hb hby at_415) ?_
            show Steps p.tables e below (T70.setTop (mkF m 417 _ [(.int (100 : Int32)), (.int (J1 0))])) t
            refine XS.iload P71.here P71.x rfl (hb hby at_417) rfl ?_
            show Steps p.tables e below (T70.setTop (mkF m 419 _ [(.int mo), (.int (100 : Int32)), (.int (J1 0))])) t
            refine XS.iadd P71.here P71.x rfl (hb hby at_419) rfl ?_
            show Steps p.tables e below (T70.setTop (mkF m 420 _ [(.int ((100 : Int32) + mo)), (.int (J1 0))])) t
            refine XS.icmpYes P71.here P71.x rfl (pc0 := 420) (pc' := 425) rfl (hb hby at_420) rfl (iiW_eq_t hrt) (by decide) (by decide) ?_
            show Steps p.tables e below (T70.setTop (mkF m 425 _ [])) t
            refine XS.aload P71.here P71.x rfl (hb hby at_425) rfl rfl ?_
            exact kk
          have f81 := (F59.keep K78 (ninS (by first | assumption | exact Ne.symm (by assumption) | exact adr_ne (by omega) | omega) (ninS (by first | assumption | exact Ne.symm (by assumption) | exact adr_ne (by omega) | omega) nin0)))
          have f82 := (f76.keep K78)
          refine wCallV P71 (m_size l Z a0 hw b28 (1 : Int32) h77 f81) (tw42 hw) (tw43 hw) (tw45 hw) (tw45 hw) (tw44 hw) (tw5 hw) (tw46 hw) (by decide) f82 (by rw [hml]; rfl) (lenOf pd_2 rfl) (argsL := []) (rest := []) rfl rfl (W := 0) (Nat.le_of_eq rfl) (by decide) (by decide) (by decide) (by decide) (by simp) (hb hby at_427) rfl (k' := 5) (n' := 42) rfl rfl ?_
          rintro T79 _ _ P80 - ⟨rfl, rfl⟩
          show Done _ _ _ _ _ _ _ _ _ _ _ _ _ _ _ T79 (mkF m 430 _ [(.int (1 : Int32))])
          refine Done.stepL (pc' := 439) (st' := [(.ref b28)]) (fun t kk => ?_) ?_
          · show Steps p.tables e below (T79.setTop (mkF m 430 _ [(.int (1 : Int32))])) t
            refine XS.iload P80.here P80.x rfl (hb hby at_430) rfl ?_
            show Steps p.tables e below (T79.setTop (mkF m 432 _ [(.int (1 : Int32)), (.int (1 : Int32))])) t
            refine XS.icmpYes P80.here P80.x rfl (pc0 := 432) (pc' := 437) rfl (hb hby at_432) rfl (iiW_eq_t (by decide)) (by decide) (by decide) ?_
            show Steps p.tables e below (T79.setTop (mkF m 437 _ [])) t
            refine XS.aload P80.here P80.x rfl (hb hby at_437) rfl rfl ?_
            exact kk
          have f85 := (F60.keep K78 (ninS (by first | assumption | exact Ne.symm (by assumption) | exact adr_ne (by omega) | omega) (ninS (by first | assumption | exact Ne.symm (by assumption) | exact adr_ne (by omega) | omega) nin0)))
          refine wCallV P80 (m_lky l Z a0 hw b28 b40 N kf75 h77 f85 A72 (by omega)) (tw47 hw) (tw48 hw) (tw50 hw) (tw50 hw) (tw49 hw) (tw5 hw) (tw51 hw) (by decide) f82 (by rw [hml]; rfl) (lenOf pd_6 rfl) (argsL := []) (rest := []) rfl rfl (W := 0) (Nat.le_of_eq rfl) (by decide) (by decide) (by decide) (by decide) (by simp) (hb hby at_439) rfl (k' := 5) (n' := 42) rfl rfl ?_
          rintro T83 _ _ P84 - ⟨rfl, rfl⟩
          show Done _ _ _ _ _ _ _ _ _ _ _ _ _ _ _ T83 (mkF m 442 _ [(.double (kf75 0))])
          refine Done.stepL (pc' := 452) (st' := [(.ref b28)]) (fun t kk => ?_) ?_
          · show Steps p.tables e below (T83.setTop (mkF m 442 _ [(.double (kf75 0))])) t
            refine XS.dload P84.here P84.x rfl (hb hby at_442) rfl ?_
            show Steps p.tables e below (T83.setTop (mkF m 444 _ [(.double m1), (.double (kf75 0))])) t
            refine XS.dcmpS P84.here P84.x rfl (hb hby at_444) rfl (dcmpZ (dK74 0 (by omega)) D1) ?_
            show Steps p.tables e below (T83.setTop (mkF m 445 _ [(.int (cmpZ (Kr 0) M1))])) t
            refine XS.ifYes P84.here P84.x rfl (pc0 := 445) (pc' := 450) rfl (hb hby at_445) rfl (ciW_eq_t (show Kr 0 = M1 from by rw [← gKr]; exact hmx)) (by decide) (by decide) ?_
            show Steps p.tables e below (T83.setTop (mkF m 450 _ [])) t
            refine XS.aload P84.here P84.x rfl (hb hby at_450) rfl rfl ?_
            exact kk
          have f90 := (F61.keep K78 (ninS (by first | assumption | exact Ne.symm (by assumption) | exact adr_ne (by omega) | omega) (ninS (by first | assumption | exact Ne.symm (by assumption) | exact adr_ne (by omega) | omega) nin0)))
          have f91 := (F62.keep K78 (ninS (by first | assumption | exact Ne.symm (by assumption) | exact adr_ne (by omega) | omega) (ninS (by first | assumption | exact Ne.symm (by assumption) | exact adr_ne (by omega) | omega) nin0)))
          refine wCallV P84 (m_ra l Z a0 hw b28 b40 b41 (1 : Int32) N 1 kf75 Kr Jr cv h77 f82 f85 f90 f81 f91 A72 A73 (by first | assumption | exact Ne.symm (by assumption) | exact adr_ne (by omega)) (by first | assumption | exact Ne.symm (by assumption) | exact adr_ne (by omega)) q44 (by omega) rfl dK74 (by omega) (by decide)) (tw52 hw) (tw53 hw) (tw55 hw) (tw55 hw) (tw54 hw) (tw5 hw) (tw56 hw) (by decide) f82 (by rw [hml]; rfl) (lenOf pd_7 rfl) (argsL := []) (rest := []) rfl rfl (W := 0) (Nat.le_of_eq rfl) (by decide) (by decide) (by decide) (by decide) (allS (Or.inr ge_b28) (allS (Or.inr ge_b40) (allS (Or.inr ge_b41) all0))) (hb hby at_452) rfl (k' := 6) (n' := 46) rfl rfl ?_
          rintro T86 h92 _ P87 K93 ⟨rr, of, rfl, ltr, F89, A88, hof⟩
          have szh92 : h77.size ≤ h92.size := K93.1
          show Done _ _ _ _ _ _ _ _ _ _ _ _ _ _ _ T86 (mkF m 455 _ [(.ref rr)])
          refine Done.step (T' := T86) (g' := (mkF m 459 #[.val (.int p0), .val (.int p1), .val (.int p2), .val (.int p3), .val (.int p4), .val (.int p5), .val (.double w0), .second, .val (.double w1), .second, .val (.double w2), .second, .val (.ref vb), .val (.int z13), .val (.int z14), .val (.int z15), .val (.int z16), .val (.int z17), .val (.ref ob), .val (.int (p4 &&& (2147483647 : Int32))), .val (.int (1 : Int32)), .val (.int cv), .val (.double wk), .second, .val (.ref b28), .val (.int mo), .val (.double m1), .second, .val (.int (J1 0)), .val (.ref rr), .unset, .unset, .unset] [(.ref rr)])) (fun t kk => ?_) ?_
          · show Steps p.tables e below (T86.setTop (mkF m 455 _ [(.ref rr)])) t
            refine XS.astore P87.here P87.x rfl (hb hby at_455) rfl rfl (l' := #[.val (.int p0), .val (.int p1), .val (.int p2), .val (.int p3), .val (.int p4), .val (.int p5), .val (.double w0), .second, .val (.double w1), .second, .val (.double w2), .second, .val (.ref vb), .val (.int z13), .val (.int z14), .val (.int z15), .val (.int z16), .val (.int z17), .val (.ref ob), .val (.int (p4 &&& (2147483647 : Int32))), .val (.int (1 : Int32)), .val (.int cv), .val (.double wk), .second, .val (.ref b28), .val (.int mo), .val (.double m1), .second, .val (.int (J1 0)), .val (.ref rr), .unset, .unset, .unset]) rfl ?_
            show Steps p.tables e below (T86.setTop (mkF m 457 _ [])) t
            refine XS.aload P87.here P87.x rfl (hb hby at_457) rfl rfl ?_
            exact kk
          refine wLen P87 A88 (z := (1 : Int32)) rfl (hb hby at_459) rfl ?_
          show Done _ _ _ _ _ _ _ _ _ _ _ _ _ _ _ T86 (mkF m 460 _ [(.int (1 : Int32))])
          refine Done.stepL (pc' := 470) (st' := [(.int (0 : Int32)), (.ref rr)]) (fun t kk => ?_) ?_
          · show Steps p.tables e below (T86.setTop (mkF m 460 _ [(.int (1 : Int32))])) t
            refine XS.iload P87.here P87.x rfl (hb hby at_460) rfl ?_
            show Steps p.tables e below (T86.setTop (mkF m 462 _ [(.int (1 : Int32)), (.int (1 : Int32))])) t
            refine XS.icmpYes P87.here P87.x rfl (pc0 := 462) (pc' := 467) rfl (hb hby at_462) rfl (iiW_eq_t (by decide)) (by decide) (by decide) ?_
            show Steps p.tables e below (T86.setTop (mkF m 467 _ [])) t
            refine XS.aload P87.here P87.x rfl (hb hby at_467) rfl rfl ?_
            show Steps p.tables e below (T86.setTop (mkF m 469 _ [(.ref rr)])) t
            refine XS.iconst P87.here P87.x rfl (hb hby at_469) ?_
            exact kk
          refine wIaload P87 A88 (j := (0 : Int32)) (i := 0) rfl (by decide) (v := (.int (of 0))) rfl (hb hby at_470) rfl ?_
          show Done _ _ _ _ _ _ _ _ _ _ _ _ _ _ _ T86 (mkF m 471 _ [(.int (of 0))])
          have e0 := hord of (by rw [gKr, gJr]; exact hof)
          refine Done.step (T' := T86) (g' := (mkF m 511 #[.val (.int p0), .val (.int p1), .val (.int p2), .val (.int p3), .val (.int p4), .val (.int p5), .val (.double w0), .second, .val (.double w1), .second, .val (.double w2), .second, .val (.ref vb), .val (.int z13), .val (.int z14), .val (.int z15), .val (.int z16), .val (.int z17), .val (.ref ob), .val (.int (p4 &&& (2147483647 : Int32))), .val (.int (1 : Int32)), .val (.int cv), .val (.double wk), .second, .val (.ref b28), .val (.int mo), .val (.double m1), .second, .val (.int (J1 0)), .val (.ref rr), .val (.int (of 0)), .val (.int (-1 : Int32)), .val (.int (-1 : Int32))] [(.int (1 : Int32)), (.ref ob), (.int (of 0))])) (fun t kk => ?_) ?_
          · show Steps p.tables e below (T86.setTop (mkF m 471 _ [(.int (of 0))])) t
            refine XS.istore P87.here P87.x rfl (hb hby at_471) rfl (l' := #[.val (.int p0), .val (.int p1), .val (.int p2), .val (.int p3), .val (.int p4), .val (.int p5), .val (.double w0), .second, .val (.double w1), .second, .val (.double w2), .second, .val (.ref vb), .val (.int z13), .val (.int z14), .val (.int z15), .val (.int z16), .val (.int z17), .val (.ref ob), .val (.int (p4 &&& (2147483647 : Int32))), .val (.int (1 : Int32)), .val (.int cv), .val (.double wk), .second, .val (.ref b28), .val (.int mo), .val (.double m1), .second, .val (.int (J1 0)), .val (.ref rr), .val (.int (of 0)), .unset, .unset]) rfl ?_
            show Steps p.tables e below (T86.setTop (mkF m 473 _ [])) t
            refine XS.iload P87.here P87.x rfl (hb hby at_473) rfl ?_
            show Steps p.tables e below (T86.setTop (mkF m 475 _ [(.int (1 : Int32))])) t
            refine XS.iconst P87.here P87.x rfl (hb hby at_475) ?_
            show Steps p.tables e below (T86.setTop (mkF m 476 _ [(.int (2 : Int32)), (.int (1 : Int32))])) t
            refine XS.icmpYes P87.here P87.x rfl (pc0 := 476) (pc' := 486) rfl (hb hby at_476) rfl (iiW_lt_t (by decide)) (by decide) (by decide) ?_
            show Steps p.tables e below (T86.setTop (mkF m 486 _ [])) t
            refine XS.iconst P87.here P87.x rfl (hb hby at_486) ?_
            show Steps p.tables e below (T86.setTop (mkF m 487 _ [(.int (-1 : Int32))])) t
            refine XS.istore P87.here P87.x rfl (hb hby at_487) rfl (l' := #[.val (.int p0), .val (.int p1), .val (.int p2), .val (.int p3), .val (.int p4), .val (.int p5), .val (.double w0), .second, .val (.double w1), .second, .val (.double w2), .second, .val (.ref vb), .val (.int z13), .val (.int z14), .val (.int z15), .val (.int z16), .val (.int z17), .val (.ref ob), .val (.int (p4 &&& (2147483647 : Int32))), .val (.int (1 : Int32)), .val (.int cv), .val (.double wk), .second, .val (.ref b28), .val (.int mo), .val (.double m1), .second, .val (.int (J1 0)), .val (.ref rr), .val (.int (of 0)), .val (.int (-1 : Int32)), .unset]) rfl ?_
            show Steps p.tables e below (T86.setTop (mkF m 489 _ [])) t
            refine XS.iload P87.here P87.x rfl (hb hby at_489) rfl ?_
            show Steps p.tables e below (T86.setTop (mkF m 491 _ [(.int (1 : Int32))])) t
            refine XS.iconst P87.here P87.x rfl (hb hby at_491) ?_
            show Steps p.tables e below (T86.setTop (mkF m 492 _ [(.int (3 : Int32)), (.int (1 : Int32))])) t
            refine XS.icmpYes P87.here P87.x rfl (pc0 := 492) (pc' := 502) rfl (hb hby at_492) rfl (iiW_lt_t (by decide)) (by decide) (by decide) ?_
            show Steps p.tables e below (T86.setTop (mkF m 502 _ [])) t
            refine XS.iconst P87.here P87.x rfl (hb hby at_502) ?_
            show Steps p.tables e below (T86.setTop (mkF m 503 _ [(.int (-1 : Int32))])) t
            refine XS.istore P87.here P87.x rfl (hb hby at_503) rfl (l' := #[.val (.int p0), .val (.int p1), .val (.int p2), .val (.int p3), .val (.int p4), .val (.int p5), .val (.double w0), .second, .val (.double w1), .second, .val (.double w2), .second, .val (.ref vb), .val (.int z13), .val (.int z14), .val (.int z15), .val (.int z16), .val (.int z17), .val (.ref ob), .val (.int (p4 &&& (2147483647 : Int32))), .val (.int (1 : Int32)), .val (.int cv), .val (.double wk), .second, .val (.ref b28), .val (.int mo), .val (.double m1), .second, .val (.int (J1 0)), .val (.ref rr), .val (.int (of 0)), .val (.int (-1 : Int32)), .val (.int (-1 : Int32))]) rfl ?_
            show Steps p.tables e below (T86.setTop (mkF m 505 _ [])) t
            refine XS.iload P87.here P87.x rfl (hb hby at_505) rfl ?_
            show Steps p.tables e below (T86.setTop (mkF m 507 _ [(.int (of 0))])) t
            refine XS.aload P87.here P87.x rfl (hb hby at_507) rfl rfl ?_
            show Steps p.tables e below (T86.setTop (mkF m 509 _ [(.ref ob), (.int (of 0))])) t
            refine XS.iload P87.here P87.x rfl (hb hby at_509) rfl ?_
            exact kk
          have f96 := (((f55.keep K69 (ninS (by first | assumption | exact Ne.symm (by assumption) | exact adr_ne (by omega) | omega) (ninS (by first | assumption | exact Ne.symm (by assumption) | exact adr_ne (by omega) | omega) (ninS (by first | assumption | exact Ne.symm (by assumption) | exact adr_ne (by omega) | omega) nin0)))).keep K78 (ninS (by first | assumption | exact Ne.symm (by assumption) | exact adr_ne (by omega) | omega) (ninS (by first | assumption | exact Ne.symm (by assumption) | exact adr_ne (by omega) | omega) nin0))).keep K93 (ninS (by first | assumption | exact Ne.symm (by assumption) | exact adr_ne (by omega) | omega) (ninS (by first | assumption | exact Ne.symm (by assumption) | exact adr_ne (by omega) | omega) (ninS (by first | assumption | exact Ne.symm (by assumption) | exact adr_ne (by omega) | omega) nin0))))
          refine wCallS P87 (m_ofd1 l Z a0 hw (of 0) x0 x1 x2 ob h92 f96 e0) (tw61 hw) (tw62 hw) (tw63 hw) (tw64 hw) (by decide) (by rw [hml]; rfl) (lenOf pd_8 rfl) (argsL := [(.int (of 0)), (.ref ob), (.int (1 : Int32))]) (rest := []) rfl rfl (W := 0) (Nat.le_of_eq rfl) (by decide) (by decide) (by decide) (by decide) (by simp) (hb hby at_511) rfl (k' := 6) (n' := 46) rfl rfl ?_
          rintro T94 _ _ P95 - ⟨rfl, rfl⟩
          show Done _ _ _ _ _ _ _ _ _ _ _ _ _ _ _ T94 (mkF m 514 _ [(.int (1 : Int32))])
          refine Done.stepL (pc' := 665) (st' := [(.int (1 : Int32))]) (fun t kk => ?_) ?_
          · show Steps p.tables e below (T94.setTop (mkF m 514 _ [(.int (1 : Int32))])) t
            refine XS.ifYes P95.here P95.x rfl (pc0 := 514) (pc' := 519) rfl (hb hby at_514) rfl (i0W_ne_t (by decide)) (by decide) (by decide) ?_
            show Steps p.tables e below (T94.setTop (mkF m 519 _ [])) t
            refine XS.iload P95.here P95.x rfl (hb hby at_519) rfl ?_
            show Steps p.tables e below (T94.setTop (mkF m 521 _ [(.int (1 : Int32))])) t
            refine XS.iconst P95.here P95.x rfl (hb hby at_521) ?_
            show Steps p.tables e below (T94.setTop (mkF m 522 _ [(.int (2 : Int32)), (.int (1 : Int32))])) t
            refine XS.icmpYes P95.here P95.x rfl (pc0 := 522) (pc' := 539) rfl (hb hby at_522) rfl (iiW_lt_t (by decide)) (by decide) (by decide) ?_
            show Steps p.tables e below (T94.setTop (mkF m 539 _ [])) t
            refine XS.iload P95.here P95.x rfl (hb hby at_539) rfl ?_
            show Steps p.tables e below (T94.setTop (mkF m 541 _ [(.int (1 : Int32))])) t
            refine XS.iconst P95.here P95.x rfl (hb hby at_541) ?_
            show Steps p.tables e below (T94.setTop (mkF m 542 _ [(.int (3 : Int32)), (.int (1 : Int32))])) t
            refine XS.icmpYes P95.here P95.x rfl (pc0 := 542) (pc' := 559) rfl (hb hby at_542) rfl (iiW_lt_t (by decide)) (by decide) (by decide) ?_
            show Steps p.tables e below (T94.setTop (mkF m 559 _ [])) t
            refine XS.iload P95.here P95.x rfl (hb hby at_559) rfl ?_
            show Steps p.tables e below (T94.setTop (mkF m 561 _ [(.int (1 : Int32))])) t
            refine XS.iconst P95.here P95.x rfl (hb hby at_561) ?_
            show Steps p.tables e below (T94.setTop (mkF m 562 _ [(.int (2 : Int32)), (.int (1 : Int32))])) t
            refine XS.icmpYes P95.here P95.x rfl (pc0 := 562) (pc' := 574) rfl (hb hby at_562) rfl (iiW_lt_t (by decide)) (by decide) (by decide) ?_
            show Steps p.tables e below (T94.setTop (mkF m 574 _ [])) t
            refine XS.iload P95.here P95.x rfl (hb hby at_574) rfl ?_
            show Steps p.tables e below (T94.setTop (mkF m 576 _ [(.int (1 : Int32))])) t
            refine XS.iconst P95.here P95.x rfl (hb hby at_576) ?_
            show Steps p.tables e below (T94.setTop (mkF m 577 _ [(.int (3 : Int32)), (.int (1 : Int32))])) t
            refine XS.icmpYes P95.here P95.x rfl (pc0 := 577) (pc' := 596) rfl (hb hby at_577) rfl (iiW_lt_t (by decide)) (by decide) (by decide) ?_
            show Steps p.tables e below (T94.setTop (mkF m 596 _ [])) t
            refine XS.iload P95.here P95.x rfl (hb hby at_596) rfl ?_
            show Steps p.tables e below (T94.setTop (mkF m 598 _ [(.int (1 : Int32))])) t
            refine XS.iconst P95.here P95.x rfl (hb hby at_598) ?_
            show Steps p.tables e below (T94.setTop (mkF m 599 _ [(.int (2 : Int32)), (.int (1 : Int32))])) t
            refine XS.icmpYes P95.here P95.x rfl (pc0 := 599) (pc' := 630) rfl (hb hby at_599) rfl (iiW_lt_t (by decide)) (by decide) (by decide) ?_
            show Steps p.tables e below (T94.setTop (mkF m 630 _ [])) t
            refine XS.iload P95.here P95.x rfl (hb hby at_630) rfl ?_
            show Steps p.tables e below (T94.setTop (mkF m 632 _ [(.int (1 : Int32))])) t
            refine XS.iconst P95.here P95.x rfl (hb hby at_632) ?_
            show Steps p.tables e below (T94.setTop (mkF m 633 _ [(.int (3 : Int32)), (.int (1 : Int32))])) t
            refine XS.icmpYes P95.here P95.x rfl (pc0 := 633) (pc' := 664) rfl (hb hby at_633) rfl (iiW_lt_t (by decide)) (by decide) (by decide) ?_
            show Steps p.tables e below (T94.setTop (mkF m 664 _ [])) t
            refine XS.iconst P95.here P95.x rfl (hb hby at_664) ?_
            exact kk
          exact wRet P95 (t := .boolean) hret (narrow_01 (Or.inr rfl)) (Or.inl ⟨rfl, Or.inr (Or.inl rfl), _, rfl⟩) (hb hby at_665) rfl
        refine Done.stepL (pc' := 302) (st' := [(.int (0 : Int32)), (.ref ob)]) (fun t kk => ?_) ?_
        · show Steps p.tables e below (T57.setTop (mkF m 299 _ [])) t
          refine XS.aload P58.here P58.x rfl (hb hby at_299) rfl rfl ?_
          show Steps p.tables e below (T57.setTop (mkF m 301 _ [(.ref ob)])) t
          refine XS.iconst P58.here P58.x rfl (hb hby at_301) ?_
          exact kk
        have f97 := (f55.keep K69 (ninS (by first | assumption | exact Ne.symm (by assumption) | exact adr_ne (by omega) | omega) (ninS (by first | assumption | exact Ne.symm (by assumption) | exact adr_ne (by omega) | omega) (ninS (by first | assumption | exact Ne.symm (by assumption) | exact adr_ne (by omega) | omega) nin0))))
        refine wIaload P58 f97 (j := (0 : Int32)) (i := 0) rfl (by decide) (v := (.int x0)) rfl (hb hby at_302) rfl ?_
        show Done _ _ _ _ _ _ _ _ _ _ _ _ _ _ _ T57 (mkF m 303 _ [(.int x0)])
        refine Done.stepL (pc' := 305) (st' := [(.int mo), (.int x0)]) (fun t kk => ?_) ?_
        · show Steps p.tables e below (T57.setTop (mkF m 303 _ [(.int x0)])) t
          refine XS.iload P58.here P58.x rfl (hb hby at_303) rfl ?_
          exact kk
        by_cases q0 : x0 = mo
        · refine Done.stepL (pc' := 330) (st' := []) (fun t kk => ?_) ?_
          · show Steps p.tables e below (T57.setTop (mkF m 305 _ [(.int mo), (.int x0)])) t
            refine XS.icmpYes P58.here P58.x rfl (pc0 := 305) (pc' := 330) rfl (hb hby at_305) rfl (iiW_eq_t q0) (by decide) (by decide) ?_
            exact kk
          exact t330 p5.toInt wk Dk (by rw [if_pos q0])
        · refine Done.stepL (pc' := 313) (st' := [(.int (0 : Int32)), (.ref ob), (.ref vb)]) (fun t kk => ?_) ?_
          · show Steps p.tables e below (T57.setTop (mkF m 305 _ [(.int mo), (.int x0)])) t
            refine XS.icmpNo P58.here P58.x rfl (hb hby at_305) rfl (iiW_eq_f (show ¬ (x0 = mo) from q0)) ?_
            show Steps p.tables e below (T57.setTop (mkF m 308 _ [])) t
            refine XS.aload P58.here P58.x rfl (hb hby at_308) rfl rfl ?_
            show Steps p.tables e below (T57.setTop (mkF m 310 _ [(.ref vb)])) t
            refine XS.aload P58.here P58.x rfl (hb hby at_310) rfl rfl ?_
            show Steps p.tables e below (T57.setTop (mkF m 312 _ [(.ref ob), (.ref vb)])) t
            refine XS.iconst P58.here P58.x rfl (hb hby at_312) ?_
            exact kk
          refine wIaload P58 f97 (j := (0 : Int32)) (i := 0) rfl (by decide) (v := (.int x0)) rfl (hb hby at_313) rfl ?_
          show Done _ _ _ _ _ _ _ _ _ _ _ _ _ _ _ T57 (mkF m 314 _ [(.int x0), (.ref vb)])
          have f98 := (f56.keep K69 (ninS (by first | assumption | exact Ne.symm (by assumption) | exact adr_ne (by omega) | omega) (ninS (by first | assumption | exact Ne.symm (by assumption) | exact adr_ne (by omega) | omega) (ninS (by first | assumption | exact Ne.symm (by assumption) | exact adr_ne (by omega) | omega) nin0))))
          refine wDaload P58 f98 (j := x0) (i := i0) hx0 hi0 (v := (.double ((oupd (oupd (oupd (fun _ => (0 : UInt64)) 0 w0) 1 w1) 2 w2) i0))) rfl (hb hby at_314) rfl ?_
          show Done _ _ _ _ _ _ _ _ _ _ _ _ _ _ _ T57 (mkF m 315 _ [(.double ((oupd (oupd (oupd (fun _ => (0 : UInt64)) 0 w0) 1 w1) 2 w2) i0))])
          refine Done.stepL (pc' := 318) (st' := [(.int (cmpZ (own_sel V0 V1 V2 i0) p5.toInt))]) (fun t kk => ?_) ?_
          · show Steps p.tables e below (T57.setTop (mkF m 315 _ [(.double ((oupd (oupd (oupd (fun _ => (0 : UInt64)) 0 w0) 1 w1) 2 w2) i0))])) t
            refine XS.dload P58.here P58.x rfl (hb hby at_315) rfl ?_
            show Steps p.tables e below (T57.setTop (mkF m 317 _ [(.double wk), (.double ((oupd (oupd (oupd (fun _ => (0 : UInt64)) 0 w0) 1 w1) 2 w2) i0))])) t
            refine XS.dcmpS P58.here P58.x rfl (hb hby at_317) rfl (dcmpZ (own_ds E0 E1 E2 i0 hi0) Dk) ?_
            exact kk
          by_cases r0 : ¬ (p5.toInt < (own_sel V0 V1 V2 i0))
          · refine Done.stepL (pc' := 330) (st' := []) (fun t kk => ?_) ?_
            · show Steps p.tables e below (T57.setTop (mkF m 318 _ [(.int (cmpZ (own_sel V0 V1 V2 i0) p5.toInt))])) t
              refine XS.ifYes P58.here P58.x rfl (pc0 := 318) (pc' := 330) rfl (hb hby at_318) rfl (ciW_le_t r0) (by decide) (by decide) ?_
              exact kk
            exact t330 p5.toInt wk Dk (by rw [if_neg q0, if_neg r0])
          · refine Done.stepL (pc' := 326) (st' := [(.int (0 : Int32)), (.ref ob), (.ref vb)]) (fun t kk => ?_) ?_
            · show Steps p.tables e below (T57.setTop (mkF m 318 _ [(.int (cmpZ (own_sel V0 V1 V2 i0) p5.toInt))])) t
              refine XS.ifNo P58.here P58.x rfl (hb hby at_318) rfl (ciW_le_f (show ¬ (¬ (p5.toInt < (own_sel V0 V1 V2 i0))) from r0)) ?_
              show Steps p.tables e below (T57.setTop (mkF m 321 _ [])) t
              refine XS.aload P58.here P58.x rfl (hb hby at_321) rfl rfl ?_
              show Steps p.tables e below (T57.setTop (mkF m 323 _ [(.ref vb)])) t
              refine XS.aload P58.here P58.x rfl (hb hby at_323) rfl rfl ?_
              show Steps p.tables e below (T57.setTop (mkF m 325 _ [(.ref ob), (.ref vb)])) t
              refine XS.iconst P58.here P58.x rfl (hb hby at_325) ?_
              exact kk
            refine wIaload P58 f97 (j := (0 : Int32)) (i := 0) rfl (by decide) (v := (.int x0)) rfl (hb hby at_326) rfl ?_
            show Done _ _ _ _ _ _ _ _ _ _ _ _ _ _ _ T57 (mkF m 327 _ [(.int x0), (.ref vb)])
            refine wDaload P58 f98 (j := x0) (i := i0) hx0 hi0 (v := (.double ((oupd (oupd (oupd (fun _ => (0 : UInt64)) 0 w0) 1 w1) 2 w2) i0))) rfl (hb hby at_327) rfl ?_
            show Done _ _ _ _ _ _ _ _ _ _ _ _ _ _ _ T57 (mkF m 328 _ [(.double ((oupd (oupd (oupd (fun _ => (0 : UInt64)) 0 w0) 1 w1) 2 w2) i0))])
            refine Done.step (T' := T57) (g' := (mkF m 330 #[.val (.int p0), .val (.int p1), .val (.int p2), .val (.int p3), .val (.int p4), .val (.int p5), .val (.double w0), .second, .val (.double w1), .second, .val (.double w2), .second, .val (.ref vb), .val (.int z13), .val (.int z14), .val (.int z15), .val (.int z16), .val (.int z17), .val (.ref ob), .val (.int (p4 &&& (2147483647 : Int32))), .val (.int (1 : Int32)), .val (.int cv), .val (.double wk), .second, .val (.ref b28), .val (.int mo), .val (.double ((oupd (oupd (oupd (fun _ => (0 : UInt64)) 0 w0) 1 w1) 2 w2) i0)), .second, .unset, .unset, .unset, .unset, .unset] [])) (fun t kk => ?_) ?_
            · show Steps p.tables e below (T57.setTop (mkF m 328 _ [(.double ((oupd (oupd (oupd (fun _ => (0 : UInt64)) 0 w0) 1 w1) 2 w2) i0))])) t
              refine XS.dstore P58.here P58.x rfl (hb hby at_328) rfl (l' := #[.val (.int p0), .val (.int p1), .val (.int p2), .val (.int p3), .val (.int p4), .val (.int p5), .val (.double w0), .second, .val (.double w1), .second, .val (.double w2), .second, .val (.ref vb), .val (.int z13), .val (.int z14), .val (.int z15), .val (.int z16), .val (.int z17), .val (.ref ob), .val (.int (p4 &&& (2147483647 : Int32))), .val (.int (1 : Int32)), .val (.int cv), .val (.double wk), .second, .val (.ref b28), .val (.int mo), .val (.double ((oupd (oupd (oupd (fun _ => (0 : UInt64)) 0 w0) 1 w1) 2 w2) i0)), .second, .unset, .unset, .unset, .unset, .unset]) rfl ?_
              exact kk
            exact t330 (own_sel V0 V1 V2 i0) ((oupd (oupd (oupd (fun _ => (0 : UInt64)) 0 w0) 1 w1) 2 w2) i0) (own_ds E0 E1 E2 i0 hi0) (by rw [if_neg q0, if_pos (Decidable.not_not.mp r0)])
      refine Done.stepL (pc' := 250) (st' := [(.int (0 : Int32)), (.ref ob)]) (fun t kk => ?_) ?_
      · show Steps p.tables e below (T57.setTop (mkF m 247 _ [])) t
        refine XS.aload P58.here P58.x rfl (hb hby at_247) rfl rfl ?_
        show Steps p.tables e below (T57.setTop (mkF m 249 _ [(.ref ob)])) t
        refine XS.iconst P58.here P58.x rfl (hb hby at_249) ?_
        exact kk
      have f99 := (f55.keep K69 (ninS (by first | assumption | exact Ne.symm (by assumption) | exact adr_ne (by omega) | omega) (ninS (by first | assumption | exact Ne.symm (by assumption) | exact adr_ne (by omega) | omega) (ninS (by first | assumption | exact Ne.symm (by assumption) | exact adr_ne (by omega) | omega) nin0))))
      refine wIaload P58 f99 (j := (0 : Int32)) (i := 0) rfl (by decide) (v := (.int x0)) rfl (hb hby at_250) rfl ?_
      show Done _ _ _ _ _ _ _ _ _ _ _ _ _ _ _ T57 (mkF m 251 _ [(.int x0)])
      refine Done.step (T' := T57) (g' := (mkF m 295 #[.val (.int p0), .val (.int p1), .val (.int p2), .val (.int p3), .val (.int p4), .val (.int p5), .val (.double w0), .second, .val (.double w1), .second, .val (.double w2), .second, .val (.ref vb), .val (.int z13), .val (.int z14), .val (.int z15), .val (.int z16), .val (.int z17), .val (.ref ob), .val (.int (p4 &&& (2147483647 : Int32))), .val (.int (1 : Int32)), .val (.int cv), .val (.double wk), .second, .val (.ref b28), .val (.int x0), .unset, .unset, .unset, .unset, .unset, .unset, .unset] [])) (fun t kk => ?_) ?_
      · show Steps p.tables e below (T57.setTop (mkF m 251 _ [(.int x0)])) t
        refine XS.istore P58.here P58.x rfl (hb hby at_251) rfl (l' := #[.val (.int p0), .val (.int p1), .val (.int p2), .val (.int p3), .val (.int p4), .val (.int p5), .val (.double w0), .second, .val (.double w1), .second, .val (.double w2), .second, .val (.ref vb), .val (.int z13), .val (.int z14), .val (.int z15), .val (.int z16), .val (.int z17), .val (.ref ob), .val (.int (p4 &&& (2147483647 : Int32))), .val (.int (1 : Int32)), .val (.int cv), .val (.double wk), .second, .val (.ref b28), .val (.int x0), .unset, .unset, .unset, .unset, .unset, .unset, .unset]) rfl ?_
        show Steps p.tables e below (T57.setTop (mkF m 253 _ [])) t
        refine XS.iload P58.here P58.x rfl (hb hby at_253) rfl ?_
        show Steps p.tables e below (T57.setTop (mkF m 255 _ [(.int (1 : Int32))])) t
        refine XS.iconst P58.here P58.x rfl (hb hby at_255) ?_
        show Steps p.tables e below (T57.setTop (mkF m 256 _ [(.int (2 : Int32)), (.int (1 : Int32))])) t
        refine XS.icmpYes P58.here P58.x rfl (pc0 := 256) (pc' := 274) rfl (hb hby at_256) rfl (iiW_lt_t (by decide)) (by decide) (by decide) ?_
        show Steps p.tables e below (T57.setTop (mkF m 274 _ [])) t
        refine XS.iload P58.here P58.x rfl (hb hby at_274) rfl ?_
        show Steps p.tables e below (T57.setTop (mkF m 276 _ [(.int (1 : Int32))])) t
        refine XS.iconst P58.here P58.x rfl (hb hby at_276) ?_
        show Steps p.tables e below (T57.setTop (mkF m 277 _ [(.int (3 : Int32)), (.int (1 : Int32))])) t
        refine XS.icmpYes P58.here P58.x rfl (pc0 := 277) (pc' := 295) rfl (hb hby at_277) rfl (iiW_lt_t (by decide)) (by decide) (by decide) ?_
        exact kk
      exact tail2 _ rfl
    · have hnN' : 2 ≤ N := by have e_ : (2 : Int32).toInt = 2 := (by decide); omega
      show Done _ _ _ _ _ _ _ _ _ _ _ _ _ _ _ T (mkF m 167 _ [])
      refine wNew P (tw3 hw) (tw4 hw) (tw5 hw) (hb hby at_167) rfl (by decide) (by decide) (k' := 3) (n' := 10) rfl rfl (fun T100 h102 b103 g104 lt105 P101 E106 X107 D108 => ?_)
      have ge_b103 : h0.size ≤ b103 := by have := P.ge; omega
      have F109 : Fld Z h102 b103 "com/example/urnwise/urnwise/sampler/SmallestKeys" "capacity" "I" (.int (0 : Int32)) := D108 (Or.inr (tw13 hw)) (ty := .int) (by decide)
      have F110 : Fld Z h102 b103 "com/example/urnwise/urnwise/sampler/SmallestKeys" "keys" "[D" .null := D108 (Or.inl (tw19 hw)) (ty := (.array .double)) (by decide)
      have F111 : Fld Z h102 b103 "com/example/urnwise/urnwise/sampler/SmallestKeys" "indices" "[I" .null := D108 (Or.inl (tw21 hw)) (ty := (.array .int)) (by decide)
      have F112 : Fld Z h102 b103 "com/example/urnwise/urnwise/sampler/SmallestKeys" "size" "I" (.int (0 : Int32)) := D108 (Or.inl (tw28 hw)) (ty := .int) (by decide)
      show Done _ _ _ _ _ _ _ _ _ _ _ _ _ _ _ T100 (mkF m 170 _ [(.ref b103)])
      refine Done.stepL (pc' := 173) (st' := [(.int cv), (.ref b103), (.ref b103)]) (fun t kk => ?_) ?_
      · show Steps p.tables e below (T100.setTop (mkF m 170 _ [(.ref b103)])) t
        refine XS.dup P101.here P101.x rfl (hb hby at_170) rfl rfl ?_
        show Steps p.tables e below (T100.setTop (mkF m 171 _ [(.ref b103), (.ref b103)])) t
        refine XS.iload P101.here P101.x rfl (hb hby at_171) rfl ?_
        exact kk
      refine wCallI P101 (m_hpInit l Z a0 hw b103 cv N h102 X107 F109 F110 F111 (own_min16 hcv (by omega)) (by omega) F112) rfl (tw6 hw) (tw7 hw) (tw5 hw) (tw8 hw) (by decide) (a := b103) (by rw [hml]; rfl) (lenOf pd_3 rfl) (argsL := [(.int cv)]) (rest := [(.ref b103)]) rfl rfl (W := 1) (Nat.le_of_eq rfl) (by decide) (by decide) (by decide) (by decide) (allS (Or.inr ge_b103) all0) (hb hby at_173) rfl (k' := 5) (n' := 42) rfl rfl ?_
      rintro T113 h128 _ P114 K129 ⟨rfl, b115, b116, q117, q118, q119, q120, q121, F122, F123, F124, F125, A126, A127⟩
      have szh128 : h102.size ≤ h128.size := K129.1
      have ge_b115 : h0.size ≤ b115 := by have := q117; have := P101.ge; omega
      have ge_b116 : h0.size ≤ b116 := by have := q118; have := P101.ge; omega
      have dK0 : ∀ i, i < N → DInt ((fun _ => (0 : Int)) i) ((fun _ => (0 : UInt64)) i) := fun i _ => dint_c0
      show Done _ _ _ _ _ _ _ _ _ _ _ _ _ _ _ T113 (mkF m 176 _ [(.ref b103)])
      refine Done.step (T' := T113) (g' := (mkF m 185 #[.val (.int p0), .val (.int p1), .val (.int p2), .val (.int p3), .val (.int p4), .val (.int p5), .val (.double w0), .second, .val (.double w1), .second, .val (.double w2), .second, .val (.ref vb), .val (.int z13), .val (.int z14), .val (.int z15), .val (.int z16), .val (.int z17), .val (.ref ob), .val (.int (p4 &&& (2147483647 : Int32))), .val (.int (2 : Int32)), .val (.int cv), .val (.double wk), .second, .val (.ref b103), .unset, .unset, .unset, .unset, .unset, .unset, .unset, .unset] [(.int (0 : Int32)), (.ref ob), (.ref vb), (.ref b103)])) (fun t kk => ?_) ?_
      · show Steps p.tables e below (T113.setTop (mkF m 176 _ [(.ref b103)])) t
        refine XS.astore P114.here P114.x rfl (hb hby at_176) rfl rfl (l' := #[.val (.int p0), .val (.int p1), .val (.int p2), .val (.int p3), .val (.int p4), .val (.int p5), .val (.double w0), .second, .val (.double w1), .second, .val (.double w2), .second, .val (.ref vb), .val (.int z13), .val (.int z14), .val (.int z15), .val (.int z16), .val (.int z17), .val (.ref ob), .val (.int (p4 &&& (2147483647 : Int32))), .val (.int (2 : Int32)), .val (.int cv), .val (.double wk), .second, .val (.ref b103), .unset, .unset, .unset, .unset, .unset, .unset, .unset, .unset]) rfl ?_
        show Steps p.tables e below (T113.setTop (mkF m 178 _ [])) t
        refine XS.aload P114.here P114.x rfl (hb hby at_178) rfl rfl ?_
        show Steps p.tables e below (T113.setTop (mkF m 180 _ [(.ref b103)])) t
        refine XS.aload P114.here P114.x rfl (hb hby at_180) rfl rfl ?_
        show Steps p.tables e below (T113.setTop (mkF m 182 _ [(.ref vb), (.ref b103)])) t
        refine XS.aload P114.here P114.x rfl (hb hby at_182) rfl rfl ?_
        show Steps p.tables e below (T113.setTop (mkF m 184 _ [(.ref ob), (.ref vb), (.ref b103)])) t
        refine XS.iconst P114.here P114.x rfl (hb hby at_184) ?_
        exact kk
      have f130 := ((Ao.ext E106).keep K129 (ninS (by first | assumption | exact Ne.symm (by assumption) | exact adr_ne (by omega) | omega) nin0))
      refine wIaload P114 f130 (j := (0 : Int32)) (i := 0) rfl (by decide) (v := (.int x0)) rfl (hb hby at_185) rfl ?_
      show Done _ _ _ _ _ _ _ _ _ _ _ _ _ _ _ T113 (mkF m 186 _ [(.int x0), (.ref vb), (.ref b103)])
      have f131 := ((Av.ext E106).keep K129 (ninS (by first | assumption | exact Ne.symm (by assumption) | exact adr_ne (by omega) | omega) nin0))
      refine wDaload P114 f131 (j := x0) (i := i0) hx0 hi0 (v := (.double ((oupd (oupd (oupd (fun _ => (0 : UInt64)) 0 w0) 1 w1) 2 w2) i0))) rfl (hb hby at_186) rfl ?_
      show Done _ _ _ _ _ _ _ _ _ _ _ _ _ _ _ T113 (mkF m 187 _ [(.double ((oupd (oupd (oupd (fun _ => (0 : UInt64)) 0 w0) 1 w1) 2 w2) i0)), (.ref b103)])
      refine Done.stepL (pc' := 192) (st' := [(.int (0 : Int32)), (.ref ob), (.int (100 : Int32)), (.double ((oupd (oupd (oupd (fun _ => (0 : UInt64)) 0 w0) 1 w1) 2 w2) i0)), (.ref b103)]) (fun t kk => ?_) ?_
      · show Steps p.tables e below (T113.setTop (mkF m 187 _ [(.double ((oupd (oupd (oupd (fun _ => (0 : UInt64)) 0 w0) 1 w1) 2 w2) i0)), (.ref b103)])) t
        refine XS.bipush P114.here P114.x rfl (hb hby at_187) ?_
        show Steps p.tables e below (T113.setTop (mkF m 189 _ [(.int (100 : Int32)), (.double ((oupd (oupd (oupd (fun _ => (0 : UInt64)) 0 w0) 1 w1) 2 w2) i0)), (.ref b103)])) t
        refine XS.aload P114.here P114.x rfl (hb hby at_189) rfl rfl ?_
        show Steps p.tables e below (T113.setTop (mkF m 191 _ [(.ref ob), (.int (100 : Int32)), (.double ((oupd (oupd (oupd (fun _ => (0 : UInt64)) 0 w0) 1 w1) 2 w2) i0)), (.ref b103)])) t
        refine XS.iconst P114.here P114.x rfl (hb hby at_191) ?_
        exact kk
      refine wIaload P114 f130 (j := (0 : Int32)) (i := 0) rfl (by decide) (v := (.int x0)) rfl (hb hby at_192) rfl ?_
      show Done _ _ _ _ _ _ _ _ _ _ _ _ _ _ _ T113 (mkF m 193 _ [(.int x0), (.int (100 : Int32)), (.double ((oupd (oupd (oupd (fun _ => (0 : UInt64)) 0 w0) 1 w1) 2 w2) i0)), (.ref b103)])
      refine Done.stepL (pc' := 194) (st' := [(.int ((100 : Int32) + x0)), (.double ((oupd (oupd (oupd (fun _ => (0 : UInt64)) 0 w0) 1 w1) 2 w2) i0)), (.ref b103)]) (fun t kk => ?_) ?_
      · show Steps p.tables e below (T113.setTop (mkF m 193 _ [(.int x0), (.int (100 : Int32)), (.double ((oupd (oupd (oupd (fun _ => (0 : UInt64)) 0 w0) 1 w1) 2 w2) i0)), (.ref b103)])) t
        refine XS.iadd P114.here P114.x rfl (hb hby at_193) rfl ?_
        exact kk
      have f142 := (X107.keep K129)
      refine wCallV P114 (m_offA l Z a0 hw b103 b115 b116 (0 : Int32) N 0 (fun _ => (0 : UInt64)) (fun _ => (0 : Int)) (fun _ => (0 : Int32)) cv ((oupd (oupd (oupd (fun _ => (0 : UInt64)) 0 w0) 1 w1) 2 w2) i0) ((100 : Int32) + x0) (own_sel V0 V1 V2 i0) (1 : Int32) h128 f142 F123 F124 F122 F125 A126 A127 (by first | assumption | exact Ne.symm (by assumption) | exact adr_ne (by omega)) (by first | assumption | exact Ne.symm (by assumption) | exact adr_ne (by omega)) q119 (by omega) rfl dK0 (own_ds E0 E1 E2 i0 hi0) ((own_lt' (i := 0) (by decide) hcv).mpr (by omega)) (by omega) (by decide)) (tw22 hw) (tw23 hw) (tw25 hw) (tw25 hw) (tw24 hw) (tw5 hw) (tw26 hw) (by decide) f142 (by rw [hml]; rfl) (lenOf pd_4 rfl) (argsL := [(.double ((oupd (oupd (oupd (fun _ => (0 : UInt64)) 0 w0) 1 w1) 2 w2) i0)), (.int ((100 : Int32) + x0))]) (rest := []) rfl rfl (W := 0) (Nat.le_of_eq rfl) (by decide) (by decide) (by decide) (by decide) (allS (Or.inr ge_b103) (allS (Or.inr ge_b115) (allS (Or.inr ge_b116) all0))) (hb hby at_194) rfl (k' := 5) (n' := 42) rfl rfl ?_
      rintro T132 h143 _ P133 K144 ⟨rfl, kf141, F134, F135, F136, F137, A138, dK140, A139⟩
      have szh143 : h128.size ≤ h143.size := K144.1
      generalize gK1 : (own_of 0 true (fun _ => (0 : Int)) (fun _ => (0 : Int32)) (own_sel V0 V1 V2 i0) ((100 : Int32) + x0)).1 = K1 at dK140
      generalize gJ1 : (own_of 0 true (fun _ => (0 : Int)) (fun _ => (0 : Int32)) (own_sel V0 V1 V2 i0) ((100 : Int32) + x0)).2 = J1 at A139
      show Done _ _ _ _ _ _ _ _ _ _ _ _ _ _ _ T132 (mkF m 197 _ [])
      refine Done.stepL (pc' := 210) (st' := [(.int (1 : Int32)), (.ref ob), (.ref vb), (.ref b103)]) (fun t kk => ?_) ?_
      · show Steps p.tables e below (T132.setTop (mkF m 197 _ [])) t
        refine XS.iload P133.here P133.x rfl (hb hby at_197) rfl ?_
        show Steps p.tables e below (T132.setTop (mkF m 199 _ [(.int (2 : Int32))])) t
        refine XS.iconst P133.here P133.x rfl (hb hby at_199) ?_
        show Steps p.tables e below (T132.setTop (mkF m 200 _ [(.int (2 : Int32)), (.int (2 : Int32))])) t
        refine XS.icmpNo P133.here P133.x rfl (hb hby at_200) rfl (iiW_lt_f (by decide)) ?_
        show Steps p.tables e below (T132.setTop (mkF m 203 _ [])) t
        refine XS.aload P133.here P133.x rfl (hb hby at_203) rfl rfl ?_
        show Steps p.tables e below (T132.setTop (mkF m 205 _ [(.ref b103)])) t
        refine XS.aload P133.here P133.x rfl (hb hby at_205) rfl rfl ?_
        show Steps p.tables e below (T132.setTop (mkF m 207 _ [(.ref vb), (.ref b103)])) t
        refine XS.aload P133.here P133.x rfl (hb hby at_207) rfl rfl ?_
        show Steps p.tables e below (T132.setTop (mkF m 209 _ [(.ref ob), (.ref vb), (.ref b103)])) t
        refine XS.iconst P133.here P133.x rfl (hb hby at_209) ?_
        exact kk
      have f145 := (f130.keep K144 (ninS (by first | assumption | exact Ne.symm (by assumption) | exact adr_ne (by omega) | omega) (ninS (by first | assumption | exact Ne.symm (by assumption) | exact adr_ne (by omega) | omega) (ninS (by first | assumption | exact Ne.symm (by assumption) | exact adr_ne (by omega) | omega) nin0))))
      refine wIaload P133 f145 (j := (1 : Int32)) (i := 1) rfl (by decide) (v := (.int x1)) rfl (hb hby at_210) rfl ?_
      show Done _ _ _ _ _ _ _ _ _ _ _ _ _ _ _ T132 (mkF m 211 _ [(.int x1), (.ref vb), (.ref b103)])
      have f146 := (f131.keep K144 (ninS (by first | assumption | exact Ne.symm (by assumption) | exact adr_ne (by omega) | omega) (ninS (by first | assumption | exact Ne.symm (by assumption) | exact adr_ne (by omega) | omega) (ninS (by first | assumption | exact Ne.symm (by assumption) | exact adr_ne (by omega) | omega) nin0))))
      refine wDaload P133 f146 (j := x1) (i := i1) hx1 hi1 (v := (.double ((oupd (oupd (oupd (fun _ => (0 : UInt64)) 0 w0) 1 w1) 2 w2) i1))) rfl (hb hby at_211) rfl ?_
      show Done _ _ _ _ _ _ _ _ _ _ _ _ _ _ _ T132 (mkF m 212 _ [(.double ((oupd (oupd (oupd (fun _ => (0 : UInt64)) 0 w0) 1 w1) 2 w2) i1)), (.ref b103)])
      refine Done.stepL (pc' := 217) (st' := [(.int (1 : Int32)), (.ref ob), (.int (100 : Int32)), (.double ((oupd (oupd (oupd (fun _ => (0 : UInt64)) 0 w0) 1 w1) 2 w2) i1)), (.ref b103)]) (fun t kk => ?_) ?_
      · show Steps p.tables e below (T132.setTop (mkF m 212 _ [(.double ((oupd (oupd (oupd (fun _ => (0 : UInt64)) 0 w0) 1 w1) 2 w2) i1)), (.ref b103)])) t
        refine XS.bipush P133.here P133.x rfl (hb hby at_212) ?_
        show Steps p.tables e below (T132.setTop (mkF m 214 _ [(.int (100 : Int32)), (.double ((oupd (oupd (oupd (fun _ => (0 : UInt64)) 0 w0) 1 w1) 2 w2) i1)), (.ref b103)])) t
        refine XS.aload P133.here P133.x rfl (hb hby at_214) rfl rfl ?_
        show Steps p.tables e below (T132.setTop (mkF m 216 _ [(.ref ob), (.int (100 : Int32)), (.double ((oupd (oupd (oupd (fun _ => (0 : UInt64)) 0 w0) 1 w1) 2 w2) i1)), (.ref b103)])) t
        refine XS.iconst P133.here P133.x rfl (hb hby at_216) ?_
        exact kk
      refine wIaload P133 f145 (j := (1 : Int32)) (i := 1) rfl (by decide) (v := (.int x1)) rfl (hb hby at_217) rfl ?_
      show Done _ _ _ _ _ _ _ _ _ _ _ _ _ _ _ T132 (mkF m 218 _ [(.int x1), (.int (100 : Int32)), (.double ((oupd (oupd (oupd (fun _ => (0 : UInt64)) 0 w0) 1 w1) 2 w2) i1)), (.ref b103)])
      refine Done.stepL (pc' := 219) (st' := [(.int ((100 : Int32) + x1)), (.double ((oupd (oupd (oupd (fun _ => (0 : UInt64)) 0 w0) 1 w1) 2 w2) i1)), (.ref b103)]) (fun t kk => ?_) ?_
      · show Steps p.tables e below (T132.setTop (mkF m 218 _ [(.int x1), (.int (100 : Int32)), (.double ((oupd (oupd (oupd (fun _ => (0 : UInt64)) 0 w0) 1 w1) 2 w2) i1)), (.ref b103)])) t
        refine XS.iadd P133.here P133.x rfl (hb hby at_218) rfl ?_
        exact kk
      have f157 := (f142.keep K144)
      refine wCallV P133 (m_offA l Z a0 hw b103 b115 b116 (1 : Int32) N 1 kf141 K1 J1 cv ((oupd (oupd (oupd (fun _ => (0 : UInt64)) 0 w0) 1 w1) 2 w2) i1) ((100 : Int32) + x1) (own_sel V0 V1 V2 i1) (2 : Int32) h143 f157 F135 F136 F134 F137 A138 A139 (by first | assumption | exact Ne.symm (by assumption) | exact adr_ne (by omega)) (by first | assumption | exact Ne.symm (by assumption) | exact adr_ne (by omega)) q119 (by omega) rfl dK140 (own_ds E0 E1 E2 i1 hi1) ((own_lt' (i := 1) (by decide) hcv).mpr (by omega)) (by omega) (by decide)) (tw22 hw) (tw23 hw) (tw25 hw) (tw25 hw) (tw24 hw) (tw5 hw) (tw26 hw) (by decide) f157 (by rw [hml]; rfl) (lenOf pd_4 rfl) (argsL := [(.double ((oupd (oupd (oupd (fun _ => (0 : UInt64)) 0 w0) 1 w1) 2 w2) i1)), (.int ((100 : Int32) + x1))]) (rest := []) rfl rfl (W := 0) (Nat.le_of_eq rfl) (by decide) (by decide) (by decide) (by decide) (allS (Or.inr ge_b103) (allS (Or.inr ge_b115) (allS (Or.inr ge_b116) all0))) (hb hby at_219) rfl (k' := 5) (n' := 42) rfl rfl ?_
      rintro T147 h158 _ P148 K159 ⟨rfl, kf156, F149, F150, F151, F152, A153, dK155, A154⟩
      have szh158 : h143.size ≤ h158.size := K159.1
      generalize gK2 : (own_of 1 true K1 J1 (own_sel V0 V1 V2 i1) ((100 : Int32) + x1)).1 = K2 at dK155
      generalize gJ2 : (own_of 1 true K1 J1 (own_sel V0 V1 V2 i1) ((100 : Int32) + x1)).2 = J2 at A154
      show Done _ _ _ _ _ _ _ _ _ _ _ _ _ _ _ T147 (mkF m 222 _ [])
      refine Done.stepL (pc' := 247) (st' := []) (fun t kk => ?_) ?_
      · show Steps p.tables e below (T147.setTop (mkF m 222 _ [])) t
        refine XS.iload P148.here P148.x rfl (hb hby at_222) rfl ?_
        show Steps p.tables e below (T147.setTop (mkF m 224 _ [(.int (2 : Int32))])) t
        refine XS.iconst P148.here P148.x rfl (hb hby at_224) ?_
        show Steps p.tables e below (T147.setTop (mkF m 225 _ [(.int (3 : Int32)), (.int (2 : Int32))])) t
        refine XS.icmpYes P148.here P148.x rfl (pc0 := 225) (pc' := 247) rfl (hb hby at_225) rfl (iiW_lt_t (by decide)) (by decide) (by decide) ?_
        exact kk
      have tail2 : ∀ (mo : Int32), mo = (if x0 < x1 then x1 else x0) → Done p l e room_1 s m #[(.int p0), (.int p1), (.int p2), (.int p3), (.int p4), (.int p5)] below meth c Z "com/example/urnwise/urnwise/sampler/SmallestKeysReplaceLargestKeyPinLaw" [] h0.size (fun v h' => v = some (.int 1)) T147 (mkF m 295 #[.val (.int p0), .val (.int p1), .val (.int p2), .val (.int p3), .val (.int p4), .val (.int p5), .val (.double w0), .second, .val (.double w1), .second, .val (.double w2), .second, .val (.ref vb), .val (.int z13), .val (.int z14), .val (.int z15), .val (.int z16), .val (.int z17), .val (.ref ob), .val (.int (p4 &&& (2147483647 : Int32))), .val (.int (2 : Int32)), .val (.int cv), .val (.double wk), .second, .val (.ref b103), .val (.int mo), .unset, .unset, .unset, .unset, .unset, .unset, .unset] []) := by
        intro mo hmo
        refine Done.step (T' := T147) (g' := (mkF m 299 #[.val (.int p0), .val (.int p1), .val (.int p2), .val (.int p3), .val (.int p4), .val (.int p5), .val (.double w0), .second, .val (.double w1), .second, .val (.double w2), .second, .val (.ref vb), .val (.int z13), .val (.int z14), .val (.int z15), .val (.int z16), .val (.int z17), .val (.ref ob), .val (.int (p4 &&& (2147483647 : Int32))), .val (.int (2 : Int32)), .val (.int cv), .val (.double wk), .second, .val (.ref b103), .val (.int mo), .val (.double wk), .second, .unset, .unset, .unset, .unset, .unset] [])) (fun t kk => ?_) ?_
        · show Steps p.tables e below (T147.setTop (mkF m 295 _ [])) t
          refine XS.dload P148.here P148.x rfl (hb hby at_295) rfl ?_
          show Steps p.tables e below (T147.setTop (mkF m 297 _ [(.double wk)])) t
          refine XS.dstore P148.here P148.x rfl (hb hby at_297) rfl (l' := #[.val (.int p0), .val (.int p1), .val (.int p2), .val (.int p3), .val (.int p4), .val (.int p5), .val (.double w0), .second, .val (.double w1), .second, .val (.double w2), .second, .val (.ref vb), .val (.int z13), .val (.int z14), .val (.int z15), .val (.int z16), .val (.int z17), .val (.ref ob), .val (.int (p4 &&& (2147483647 : Int32))), .val (.int (2 : Int32)), .val (.int cv), .val (.double wk), .second, .val (.ref b103), .val (.int mo), .val (.double wk), .second, .unset, .unset, .unset, .unset, .unset]) rfl ?_
          exact kk
        have t330 : ∀ (M1 : Int) (m1 : UInt64), DInt M1 m1 → M1 = (if x0 = mo then p5.toInt else (if p5.toInt < (own_sel V0 V1 V2 i0) then (own_sel V0 V1 V2 i0) else p5.toInt)) → Done p l e room_1 s m #[(.int p0), (.int p1), (.int p2), (.int p3), (.int p4), (.int p5)] below meth c Z "com/example/urnwise/urnwise/sampler/SmallestKeysReplaceLargestKeyPinLaw" [] h0.size (fun v h' => v = some (.int 1)) T147 (mkF m 330 #[.val (.int p0), .val (.int p1), .val (.int p2), .val (.int p3), .val (.int p4), .val (.int p5), .val (.double w0), .second, .val (.double w1), .second, .val (.double w2), .second, .val (.ref vb), .val (.int z13), .val (.int z14), .val (.int z15), .val (.int z16), .val (.int z17), .val (.ref ob), .val (.int (p4 &&& (2147483647 : Int32))), .val (.int (2 : Int32)), .val (.int cv), .val (.double wk), .second, .val (.ref b103), .val (.int mo), .val (.double m1), .second, .unset, .unset, .unset, .unset, .unset] []) := by
          intro M1 m1 D1 hM1
          refine Done.stepL (pc' := 336) (st' := []) (fun t kk => ?_) ?_
          · show Steps p.tables e below (T147.setTop (mkF m 330 _ [])) t
            refine XS.iload P148.here P148.x rfl (hb hby at_330) rfl ?_
            show Steps p.tables e below (T147.setTop (mkF m 332 _ [(.int (2 : Int32))])) t
            refine XS.iconst P148.here P148.x rfl (hb hby at_332) ?_
            show Steps p.tables e below (T147.setTop (mkF m 333 _ [(.int (2 : Int32)), (.int (2 : Int32))])) t
            refine XS.icmpNo P148.here P148.x rfl (hb hby at_333) rfl (iiW_lt_f (by decide)) ?_
            exact kk
          have t367 : ∀ (M2 : Int) (m2 : UInt64), DInt M2 m2 → M2 = (if x1 = mo then M1 else (if M1 < (own_sel V0 V1 V2 i1) then (own_sel V0 V1 V2 i1) else M1)) → Done p l e room_1 s m #[(.int p0), (.int p1), (.int p2), (.int p3), (.int p4), (.int p5)] below meth c Z "com/example/urnwise/urnwise/sampler/SmallestKeysReplaceLargestKeyPinLaw" [] h0.size (fun v h' => v = some (.int 1)) T147 (mkF m 367 #[.val (.int p0), .val (.int p1), .val (.int p2), .val (.int p3), .val (.int p4), .val (.int p5), .val (.double w0), .second, .val (.double w1), .second, .val (.double w2), .second, .val (.ref vb), .val (.int z13), .val (.int z14), .val (.int z15), .val (.int z16), .val (.int z17), .val (.ref ob), .val (.int (p4 &&& (2147483647 : Int32))), .val (.int (2 : Int32)), .val (.int cv), .val (.double wk), .second, .val (.ref b103), .val (.int mo), .val (.double m2), .second, .unset, .unset, .unset, .unset, .unset] []) := by
            intro M2 m2 D2 hM2
            obtain ⟨hrt, hmx, hord⟩ := own_fin_2 x0 x1 mo (own_sel V0 V1 V2 i0) (own_sel V0 V1 V2 i1) p5.toInt (own_oiff hv01 hv12 hx0 hx1 hi0 hi1) (own_yne hv01 hv12 hi0 hi1 pm01) (own_xne hx0 hx1 pm01) hmo M1 M2 hM1 hM2 K1 J1 gK1 gJ1 K2 J2 gK2 gJ2
            refine Done.stepL (pc' := 408) (st' := [(.double wk), (.ref b103)]) (fun t kk => ?_) ?_
            · show Steps p.tables e below (T147.setTop (mkF m 367 _ [])) t
              refine XS.iload P148.here P148.x rfl (hb hby at_367) rfl ?_
              show Steps p.tables e below (T147.setTop (mkF m 369 _ [(.int (2 : Int32))])) t
              refine XS.iconst P148.here P148.x rfl (hb hby at_369) ?_
              show Steps p.tables e below (T147.setTop (mkF m 370 _ [(.int (3 : Int32)), (.int (2 : Int32))])) t
              refine XS.icmpYes P148.here P148.x rfl (pc0 := 370) (pc' := 404) rfl (hb hby at_370) rfl (iiW_lt_t (by decide)) (by decide) (by decide) ?_
              show Steps p.tables e below (T147.setTop (mkF m 404 _ [])) t
              refine XS.aload P148.here P148.x rfl (hb hby at_404) rfl rfl ?_
              show Steps p.tables e below (T147.setTop (mkF m 406 _ [(.ref b103)])) t
              refine XS.dload P148.here P148.x rfl (hb hby at_406) rfl ?_
              exact kk
            have f166 := (f157.keep K159)
            refine wCallV P148 (m_rlk l Z a0 hw b103 b115 b116 (2 : Int32) N 2 kf156 K2 J2 cv wk p5.toInt h158 f166 F150 F151 F149 F152 A153 A154 (by first | assumption | exact Ne.symm (by assumption) | exact adr_ne (by omega)) (by first | assumption | exact Ne.symm (by assumption) | exact adr_ne (by omega)) q119 (by omega) rfl dK155 Dk (by decide) (by omega)) (tw33 hw) (tw34 hw) (tw36 hw) (tw36 hw) (tw35 hw) (tw5 hw) (tw37 hw) (by decide) f166 (by rw [hml]; rfl) (lenOf pd_5 rfl) (argsL := [(.double wk)]) (rest := []) rfl rfl (W := 0) (Nat.le_of_eq rfl) (by decide) (by decide) (by decide) (by decide) (allS (Or.inr ge_b115) (allS (Or.inr ge_b116) all0)) (hb hby at_408) rfl (k' := 5) (n' := 42) rfl rfl ?_
            rintro T160 h167 _ P161 K168 ⟨rfl, kf165, A162, dK164, A163⟩
            have szh167 : h158.size ≤ h167.size := K168.1
            generalize gKr : (own_dn 2 2 K2 J2 0 p5.toInt (J2 0)).1 = Kr at dK164
            generalize gJr : (own_dn 2 2 K2 J2 0 p5.toInt (J2 0)).2 = Jr at A163
            show Done _ _ _ _ _ _ _ _ _ _ _ _ _ _ _ T160 (mkF m 411 _ [(.int (J2 0))])
            refine Done.step (T' := T160) (g' := (mkF m 427 #[.val (.int p0), .val (.int p1), .val (.int p2), .val (.int p3), .val (.int p4), .val (.int p5), .val (.double w0), .second, .val (.double w1), .second, .val (.double w2), .second, .val (.ref vb), .val (.int z13), .val (.int z14), .val (.int z15), .val (.int z16), .val (.int z17), .val (.ref ob), .val (.int (p4 &&& (2147483647 : Int32))), .val (.int (2 : Int32)), .val (.int cv), .val (.double wk), .second, .val (.ref b103), .val (.int mo), .val (.double m2), .second, .val (.int (J2 0)), .unset, .unset, .unset, .unset] [(.ref b103)])) (fun t kk => ?_) ?_
            · show Steps p.tables e below (T160.setTop (mkF m 411 _ [(.int (J2 0))])) t
              refine XS.istore P161.here P161.x rfl (hb hby at_411) rfl (l' := #[.val (.int p0), .val (.int p1), .val (.int p2), .val (.int p3), .val (.int p4), .val (.int p5), .val (.double w0), .second, .val (.double w1), .second, .val (.double w2), .second, .val (.ref vb), .val (.int z13), .val (.int z14), .val (.int z15), .val (.int z16), .val (.int z17), .val (.ref ob), .val (.int (p4 &&& (2147483647 : Int32))), .val (.int (2 : Int32)), .val (.int cv), .val (.double wk), .second, .val (.ref b103), .val (.int mo), .val (.double m2), .second, .val (.int (J2 0)), .unset, .unset, .unset, .unset]) rfl ?_
              show Steps p.tables e below (T160.setTop (mkF m 413 _ [])) t
              refine XS.iload P161.here P161.x rfl (hb hby at_413) rfl ?_
              show Steps p.tables e below (T160.setTop (mkF m 415 _ [(.int (J2 0))])) t
              refine XS.bipush P161.here P161.x rfl (hb hby at_415) ?_
              show Steps p.tables e below (T160.setTop (mkF m 417 _ [(.int (100 : Int32)), (.int (J2 0))])) t
              refine XS.iload P161.here P161.x rfl (hb hby at_417) rfl ?_
              show Steps p.tables e below (T160.setTop (mkF m 419 _ [(.int mo), (.int (100 : Int32)), (.int (J2 0))])) t
              refine XS.iadd P161.here P161.x rfl (hb hby at_419) rfl ?_
              show Steps p.tables e below (T160.setTop (mkF m 420 _ [(.int ((100 : Int32) + mo)), (.int (J2 0))])) t
              refine XS.icmpYes P161.here P161.x rfl (pc0 := 420) (pc' := 425) rfl (hb hby at_420) rfl (iiW_eq_t hrt) (by decide) (by decide) ?_
              show Steps p.tables e below (T160.setTop (mkF m 425 _ [])) t
              refine XS.aload P161.here P161.x rfl (hb hby at_425) rfl rfl ?_
              exact kk
            have f171 := (F149.keep K168 (ninS (by first | assumption | exact Ne.symm (by assumption) | exact adr_ne (by omega) | omega) (ninS (by first | assumption | exact Ne.symm (by assumption) | exact adr_ne (by omega) | omega) nin0)))
            have f172 := (f166.keep K168)
            refine wCallV P161 (m_size l Z a0 hw b103 (2 : Int32) h167 f171) (tw42 hw) (tw43 hw) (tw45 hw) (tw45 hw) (tw44 hw) (tw5 hw) (tw46 hw) (by decide) f172 (by rw [hml]; rfl) (lenOf pd_2 rfl) (argsL := []) (rest := []) rfl rfl (W := 0) (Nat.le_of_eq rfl) (by decide) (by decide) (by decide) (by decide) (by simp) (hb hby at_427) rfl (k' := 5) (n' := 42) rfl rfl ?_
            rintro T169 _ _ P170 - ⟨rfl, rfl⟩
            show Done _ _ _ _ _ _ _ _ _ _ _ _ _ _ _ T169 (mkF m 430 _ [(.int (2 : Int32))])
            refine Done.stepL (pc' := 439) (st' := [(.ref b103)]) (fun t kk => ?_) ?_
            · show Steps p.tables e below (T169.setTop (mkF m 430 _ [(.int (2 : Int32))])) t
              refine XS.iload P170.here P170.x rfl (hb hby at_430) rfl ?_
              show Steps p.tables e below (T169.setTop (mkF m 432 _ [(.int (2 : Int32)), (.int (2 : Int32))])) t
              refine XS.icmpYes P170.here P170.x rfl (pc0 := 432) (pc' := 437) rfl (hb hby at_432) rfl (iiW_eq_t (by decide)) (by decide) (by decide) ?_
              show Steps p.tables e below (T169.setTop (mkF m 437 _ [])) t
              refine XS.aload P170.here P170.x rfl (hb hby at_437) rfl rfl ?_
              exact kk
            have f175 := (F150.keep K168 (ninS (by first | assumption | exact Ne.symm (by assumption) | exact adr_ne (by omega) | omega) (ninS (by first | assumption | exact Ne.symm (by assumption) | exact adr_ne (by omega) | omega) nin0)))
            refine wCallV P170 (m_lky l Z a0 hw b103 b115 N kf165 h167 f175 A162 (by omega)) (tw47 hw) (tw48 hw) (tw50 hw) (tw50 hw) (tw49 hw) (tw5 hw) (tw51 hw) (by decide) f172 (by rw [hml]; rfl) (lenOf pd_6 rfl) (argsL := []) (rest := []) rfl rfl (W := 0) (Nat.le_of_eq rfl) (by decide) (by decide) (by decide) (by decide) (by simp) (hb hby at_439) rfl (k' := 5) (n' := 42) rfl rfl ?_
            rintro T173 _ _ P174 - ⟨rfl, rfl⟩
            show Done _ _ _ _ _ _ _ _ _ _ _ _ _ _ _ T173 (mkF m 442 _ [(.double (kf165 0))])
            refine Done.stepL (pc' := 452) (st' := [(.ref b103)]) (fun t kk => ?_) ?_
            · show Steps p.tables e below (T173.setTop (mkF m 442 _ [(.double (kf165 0))])) t
              refine XS.dload P174.here P174.x rfl (hb hby at_442) rfl ?_
              show Steps p.tables e below (T173.setTop (mkF m 444 _ [(.double m2), (.double (kf165 0))])) t
              refine XS.dcmpS P174.here P174.x rfl (hb hby at_444) rfl (dcmpZ (dK164 0 (by omega)) D2) ?_
              show Steps p.tables e below (T173.setTop (mkF m 445 _ [(.int (cmpZ (Kr 0) M2))])) t
              refine XS.ifYes P174.here P174.x rfl (pc0 := 445) (pc' := 450) rfl (hb hby at_445) rfl (ciW_eq_t (show Kr 0 = M2 from by rw [← gKr]; exact hmx)) (by decide) (by decide) ?_
              show Steps p.tables e below (T173.setTop (mkF m 450 _ [])) t
              refine XS.aload P174.here P174.x rfl (hb hby at_450) rfl rfl ?_
              exact kk
            have f180 := (F151.keep K168 (ninS (by first | assumption | exact Ne.symm (by assumption) | exact adr_ne (by omega) | omega) (ninS (by first | assumption | exact Ne.symm (by assumption) | exact adr_ne (by omega) | omega) nin0)))
            have f181 := (F152.keep K168 (ninS (by first | assumption | exact Ne.symm (by assumption) | exact adr_ne (by omega) | omega) (ninS (by first | assumption | exact Ne.symm (by assumption) | exact adr_ne (by omega) | omega) nin0)))
            refine wCallV P174 (m_ra l Z a0 hw b103 b115 b116 (2 : Int32) N 2 kf165 Kr Jr cv h167 f172 f175 f180 f171 f181 A162 A163 (by first | assumption | exact Ne.symm (by assumption) | exact adr_ne (by omega)) (by first | assumption | exact Ne.symm (by assumption) | exact adr_ne (by omega)) q119 (by omega) rfl dK164 (by omega) (by decide)) (tw52 hw) (tw53 hw) (tw55 hw) (tw55 hw) (tw54 hw) (tw5 hw) (tw56 hw) (by decide) f172 (by rw [hml]; rfl) (lenOf pd_7 rfl) (argsL := []) (rest := []) rfl rfl (W := 0) (Nat.le_of_eq rfl) (by decide) (by decide) (by decide) (by decide) (allS (Or.inr ge_b103) (allS (Or.inr ge_b115) (allS (Or.inr ge_b116) all0))) (hb hby at_452) rfl (k' := 6) (n' := 46) rfl rfl ?_
            rintro T176 h182 _ P177 K183 ⟨rr, of, rfl, ltr, F179, A178, hof⟩
            have szh182 : h167.size ≤ h182.size := K183.1
            show Done _ _ _ _ _ _ _ _ _ _ _ _ _ _ _ T176 (mkF m 455 _ [(.ref rr)])
            refine Done.step (T' := T176) (g' := (mkF m 459 #[.val (.int p0), .val (.int p1), .val (.int p2), .val (.int p3), .val (.int p4), .val (.int p5), .val (.double w0), .second, .val (.double w1), .second, .val (.double w2), .second, .val (.ref vb), .val (.int z13), .val (.int z14), .val (.int z15), .val (.int z16), .val (.int z17), .val (.ref ob), .val (.int (p4 &&& (2147483647 : Int32))), .val (.int (2 : Int32)), .val (.int cv), .val (.double wk), .second, .val (.ref b103), .val (.int mo), .val (.double m2), .second, .val (.int (J2 0)), .val (.ref rr), .unset, .unset, .unset] [(.ref rr)])) (fun t kk => ?_) ?_
            · show Steps p.tables e below (T176.setTop (mkF m 455 _ [(.ref rr)])) t
              refine XS.astore P177.here P177.x rfl (hb hby at_455) rfl rfl (l' := #[.val (.int p0), .val (.int p1), .val (.int p2), .val (.int p3), .val (.int p4), .val (.int p5), .val (.double w0), .second, .val (.double w1), .second, .val (.double w2), .second, .val (.ref vb), .val (.int z13), .val (.int z14), .val (.int z15), .val (.int z16), .val (.int z17), .val (.ref ob), .val (.int (p4 &&& (2147483647 : Int32))), .val (.int (2 : Int32)), .val (.int cv), .val (.double wk), .second, .val (.ref b103), .val (.int mo), .val (.double m2), .second, .val (.int (J2 0)), .val (.ref rr), .unset, .unset, .unset]) rfl ?_
              show Steps p.tables e below (T176.setTop (mkF m 457 _ [])) t
              refine XS.aload P177.here P177.x rfl (hb hby at_457) rfl rfl ?_
              exact kk
            refine wLen P177 A178 (z := (2 : Int32)) rfl (hb hby at_459) rfl ?_
            show Done _ _ _ _ _ _ _ _ _ _ _ _ _ _ _ T176 (mkF m 460 _ [(.int (2 : Int32))])
            refine Done.stepL (pc' := 470) (st' := [(.int (0 : Int32)), (.ref rr)]) (fun t kk => ?_) ?_
            · show Steps p.tables e below (T176.setTop (mkF m 460 _ [(.int (2 : Int32))])) t
              refine XS.iload P177.here P177.x rfl (hb hby at_460) rfl ?_
              show Steps p.tables e below (T176.setTop (mkF m 462 _ [(.int (2 : Int32)), (.int (2 : Int32))])) t
              refine XS.icmpYes P177.here P177.x rfl (pc0 := 462) (pc' := 467) rfl (hb hby at_462) rfl (iiW_eq_t (by decide)) (by decide) (by decide) ?_
              show Steps p.tables e below (T176.setTop (mkF m 467 _ [])) t
              refine XS.aload P177.here P177.x rfl (hb hby at_467) rfl rfl ?_
              show Steps p.tables e below (T176.setTop (mkF m 469 _ [(.ref rr)])) t
              refine XS.iconst P177.here P177.x rfl (hb hby at_469) ?_
              exact kk
            refine wIaload P177 A178 (j := (0 : Int32)) (i := 0) rfl (by decide) (v := (.int (of 0))) rfl (hb hby at_470) rfl ?_
            show Done _ _ _ _ _ _ _ _ _ _ _ _ _ _ _ T176 (mkF m 471 _ [(.int (of 0))])
            refine Done.step (T' := T176) (g' := (mkF m 482 #[.val (.int p0), .val (.int p1), .val (.int p2), .val (.int p3), .val (.int p4), .val (.int p5), .val (.double w0), .second, .val (.double w1), .second, .val (.double w2), .second, .val (.ref vb), .val (.int z13), .val (.int z14), .val (.int z15), .val (.int z16), .val (.int z17), .val (.ref ob), .val (.int (p4 &&& (2147483647 : Int32))), .val (.int (2 : Int32)), .val (.int cv), .val (.double wk), .second, .val (.ref b103), .val (.int mo), .val (.double m2), .second, .val (.int (J2 0)), .val (.ref rr), .val (.int (of 0)), .unset, .unset] [(.int (1 : Int32)), (.ref rr)])) (fun t kk => ?_) ?_
            · show Steps p.tables e below (T176.setTop (mkF m 471 _ [(.int (of 0))])) t
              refine XS.istore P177.here P177.x rfl (hb hby at_471) rfl (l' := #[.val (.int p0), .val (.int p1), .val (.int p2), .val (.int p3), .val (.int p4), .val (.int p5), .val (.double w0), .second, .val (.double w1), .second, .val (.double w2), .second, .val (.ref vb), .val (.int z13), .val (.int z14), .val (.int z15), .val (.int z16), .val (.int z17), .val (.ref ob), .val (.int (p4 &&& (2147483647 : Int32))), .val (.int (2 : Int32)), .val (.int cv), .val (.double wk), .second, .val (.ref b103), .val (.int mo), .val (.double m2), .second, .val (.int (J2 0)), .val (.ref rr), .val (.int (of 0)), .unset, .unset]) rfl ?_
              show Steps p.tables e below (T176.setTop (mkF m 473 _ [])) t
              refine XS.iload P177.here P177.x rfl (hb hby at_473) rfl ?_
              show Steps p.tables e below (T176.setTop (mkF m 475 _ [(.int (2 : Int32))])) t
              refine XS.iconst P177.here P177.x rfl (hb hby at_475) ?_
              show Steps p.tables e below (T176.setTop (mkF m 476 _ [(.int (2 : Int32)), (.int (2 : Int32))])) t
              refine XS.icmpNo P177.here P177.x rfl (hb hby at_476) rfl (iiW_lt_f (by decide)) ?_
              show Steps p.tables e below (T176.setTop (mkF m 479 _ [])) t
              refine XS.aload P177.here P177.x rfl (hb hby at_479) rfl rfl ?_
              show Steps p.tables e below (T176.setTop (mkF m 481 _ [(.ref rr)])) t
              refine XS.iconst P177.here P177.x rfl (hb hby at_481) ?_
              exact kk
            refine wIaload P177 A178 (j := (1 : Int32)) (i := 1) rfl (by decide) (v := (.int (of 1))) rfl (hb hby at_482) rfl ?_
            show Done _ _ _ _ _ _ _ _ _ _ _ _ _ _ _ T176 (mkF m 483 _ [(.int (of 1))])
            refine Done.step (T' := T176) (g' := (mkF m 505 #[.val (.int p0), .val (.int p1), .val (.int p2), .val (.int p3), .val (.int p4), .val (.int p5), .val (.double w0), .second, .val (.double w1), .second, .val (.double w2), .second, .val (.ref vb), .val (.int z13), .val (.int z14), .val (.int z15), .val (.int z16), .val (.int z17), .val (.ref ob), .val (.int (p4 &&& (2147483647 : Int32))), .val (.int (2 : Int32)), .val (.int cv), .val (.double wk), .second, .val (.ref b103), .val (.int mo), .val (.double m2), .second, .val (.int (J2 0)), .val (.ref rr), .val (.int (of 0)), .val (.int (of 1)), .val (.int (-1 : Int32))] [])) (fun t kk => ?_) ?_
            · show Steps p.tables e below (T176.setTop (mkF m 483 _ [(.int (of 1))])) t
              refine XS.goto P177.here P177.x rfl (pc0 := 483) (pc' := 487) rfl (hb hby at_483) (by decide) (by decide) ?_
              show Steps p.tables e below (T176.setTop (mkF m 487 _ [(.int (of 1))])) t
              refine XS.istore P177.here P177.x rfl (hb hby at_487) rfl (l' := #[.val (.int p0), .val (.int p1), .val (.int p2), .val (.int p3), .val (.int p4), .val (.int p5), .val (.double w0), .second, .val (.double w1), .second, .val (.double w2), .second, .val (.ref vb), .val (.int z13), .val (.int z14), .val (.int z15), .val (.int z16), .val (.int z17), .val (.ref ob), .val (.int (p4 &&& (2147483647 : Int32))), .val (.int (2 : Int32)), .val (.int cv), .val (.double wk), .second, .val (.ref b103), .val (.int mo), .val (.double m2), .second, .val (.int (J2 0)), .val (.ref rr), .val (.int (of 0)), .val (.int (of 1)), .unset]) rfl ?_
              show Steps p.tables e below (T176.setTop (mkF m 489 _ [])) t
              refine XS.iload P177.here P177.x rfl (hb hby at_489) rfl ?_
              show Steps p.tables e below (T176.setTop (mkF m 491 _ [(.int (2 : Int32))])) t
              refine XS.iconst P177.here P177.x rfl (hb hby at_491) ?_
              show Steps p.tables e below (T176.setTop (mkF m 492 _ [(.int (3 : Int32)), (.int (2 : Int32))])) t
              refine XS.icmpYes P177.here P177.x rfl (pc0 := 492) (pc' := 502) rfl (hb hby at_492) rfl (iiW_lt_t (by decide)) (by decide) (by decide) ?_
              show Steps p.tables e below (T176.setTop (mkF m 502 _ [])) t
              refine XS.iconst P177.here P177.x rfl (hb hby at_502) ?_
              show Steps p.tables e below (T176.setTop (mkF m 503 _ [(.int (-1 : Int32))])) t
              refine XS.istore P177.here P177.x rfl (hb hby at_503) rfl (l' := #[.val (.int p0), .val (.int p1), .val (.int p2), .val (.int p3), .val (.int p4), .val (.int p5), .val (.double w0), .second, .val (.double w1), .second, .val (.double w2), .second, .val (.ref vb), .val (.int z13), .val (.int z14), .val (.int z15), .val (.int z16), .val (.int z17), .val (.ref ob), .val (.int (p4 &&& (2147483647 : Int32))), .val (.int (2 : Int32)), .val (.int cv), .val (.double wk), .second, .val (.ref b103), .val (.int mo), .val (.double m2), .second, .val (.int (J2 0)), .val (.ref rr), .val (.int (of 0)), .val (.int (of 1)), .val (.int (-1 : Int32))]) rfl ?_
              exact kk
            rcases hord of (by rw [gKr, gJr]; exact hof) with ⟨e0, e1, l0⟩ | ⟨e0, e1, l0⟩
            · refine Done.stepL (pc' := 511) (st' := [(.int (2 : Int32)), (.ref ob), (.int (of 0))]) (fun t kk => ?_) ?_
              · show Steps p.tables e below (T176.setTop (mkF m 505 _ [])) t
                refine XS.iload P177.here P177.x rfl (hb hby at_505) rfl ?_
                show Steps p.tables e below (T176.setTop (mkF m 507 _ [(.int (of 0))])) t
                refine XS.aload P177.here P177.x rfl (hb hby at_507) rfl rfl ?_
                show Steps p.tables e below (T176.setTop (mkF m 509 _ [(.ref ob), (.int (of 0))])) t
                refine XS.iload P177.here P177.x rfl (hb hby at_509) rfl ?_
                exact kk
              have f186 := (((f145.keep K159 (ninS (by first | assumption | exact Ne.symm (by assumption) | exact adr_ne (by omega) | omega) (ninS (by first | assumption | exact Ne.symm (by assumption) | exact adr_ne (by omega) | omega) (ninS (by first | assumption | exact Ne.symm (by assumption) | exact adr_ne (by omega) | omega) nin0)))).keep K168 (ninS (by first | assumption | exact Ne.symm (by assumption) | exact adr_ne (by omega) | omega) (ninS (by first | assumption | exact Ne.symm (by assumption) | exact adr_ne (by omega) | omega) nin0))).keep K183 (ninS (by first | assumption | exact Ne.symm (by assumption) | exact adr_ne (by omega) | omega) (ninS (by first | assumption | exact Ne.symm (by assumption) | exact adr_ne (by omega) | omega) (ninS (by first | assumption | exact Ne.symm (by assumption) | exact adr_ne (by omega) | omega) nin0))))
              refine wCallS P177 (m_ofd2 l Z a0 hw (of 0) x0 x1 x2 ob h182 f186 (Or.inl e0)) (tw61 hw) (tw62 hw) (tw63 hw) (tw64 hw) (by decide) (by rw [hml]; rfl) (lenOf pd_8 rfl) (argsL := [(.int (of 0)), (.ref ob), (.int (2 : Int32))]) (rest := []) rfl rfl (W := 0) (Nat.le_of_eq rfl) (by decide) (by decide) (by decide) (by decide) (by simp) (hb hby at_511) rfl (k' := 6) (n' := 46) rfl rfl ?_
              rintro T184 _ _ P185 - ⟨rfl, rfl⟩
              show Done _ _ _ _ _ _ _ _ _ _ _ _ _ _ _ T184 (mkF m 514 _ [(.int (1 : Int32))])
              refine Done.stepL (pc' := 531) (st' := [(.int (2 : Int32)), (.ref ob), (.int (of 1))]) (fun t kk => ?_) ?_
              · show Steps p.tables e below (T184.setTop (mkF m 514 _ [(.int (1 : Int32))])) t
                refine XS.ifYes P185.here P185.x rfl (pc0 := 514) (pc' := 519) rfl (hb hby at_514) rfl (i0W_ne_t (by decide)) (by decide) (by decide) ?_
                show Steps p.tables e below (T184.setTop (mkF m 519 _ [])) t
                refine XS.iload P185.here P185.x rfl (hb hby at_519) rfl ?_
                show Steps p.tables e below (T184.setTop (mkF m 521 _ [(.int (2 : Int32))])) t
                refine XS.iconst P185.here P185.x rfl (hb hby at_521) ?_
                show Steps p.tables e below (T184.setTop (mkF m 522 _ [(.int (2 : Int32)), (.int (2 : Int32))])) t
                refine XS.icmpNo P185.here P185.x rfl (hb hby at_522) rfl (iiW_lt_f (by decide)) ?_
                show Steps p.tables e below (T184.setTop (mkF m 525 _ [])) t
                refine XS.iload P185.here P185.x rfl (hb hby at_525) rfl ?_
                show Steps p.tables e below (T184.setTop (mkF m 527 _ [(.int (of 1))])) t
                refine XS.aload P185.here P185.x rfl (hb hby at_527) rfl rfl ?_
                show Steps p.tables e below (T184.setTop (mkF m 529 _ [(.ref ob), (.int (of 1))])) t
                refine XS.iload P185.here P185.x rfl (hb hby at_529) rfl ?_
                exact kk
              refine wCallS P185 (m_ofd2 l Z a0 hw (of 1) x0 x1 x2 ob h182 f186 (Or.inr e1)) (tw61 hw) (tw62 hw) (tw63 hw) (tw64 hw) (by decide) (by rw [hml]; rfl) (lenOf pd_8 rfl) (argsL := [(.int (of 1)), (.ref ob), (.int (2 : Int32))]) (rest := []) rfl rfl (W := 0) (Nat.le_of_eq rfl) (by decide) (by decide) (by decide) (by decide) (by simp) (hb hby at_531) rfl (k' := 6) (n' := 46) rfl rfl ?_
              rintro T187 _ _ P188 - ⟨rfl, rfl⟩
              show Done _ _ _ _ _ _ _ _ _ _ _ _ _ _ _ T187 (mkF m 534 _ [(.int (1 : Int32))])
              refine Done.stepL (pc' := 610) (st' := [(.ref vb), (.double wk), (.int mo), (.int (of 0))]) (fun t kk => ?_) ?_
              · show Steps p.tables e below (T187.setTop (mkF m 534 _ [(.int (1 : Int32))])) t
                refine XS.ifYes P188.here P188.x rfl (pc0 := 534) (pc' := 539) rfl (hb hby at_534) rfl (i0W_ne_t (by decide)) (by decide) (by decide) ?_
                show Steps p.tables e below (T187.setTop (mkF m 539 _ [])) t
                refine XS.iload P188.here P188.x rfl (hb hby at_539) rfl ?_
                show Steps p.tables e below (T187.setTop (mkF m 541 _ [(.int (2 : Int32))])) t
                refine XS.iconst P188.here P188.x rfl (hb hby at_541) ?_
                show Steps p.tables e below (T187.setTop (mkF m 542 _ [(.int (3 : Int32)), (.int (2 : Int32))])) t
                refine XS.icmpYes P188.here P188.x rfl (pc0 := 542) (pc' := 559) rfl (hb hby at_542) rfl (iiW_lt_t (by decide)) (by decide) (by decide) ?_
                show Steps p.tables e below (T187.setTop (mkF m 559 _ [])) t
                refine XS.iload P188.here P188.x rfl (hb hby at_559) rfl ?_
                show Steps p.tables e below (T187.setTop (mkF m 561 _ [(.int (2 : Int32))])) t
                refine XS.iconst P188.here P188.x rfl (hb hby at_561) ?_
                show Steps p.tables e below (T187.setTop (mkF m 562 _ [(.int (2 : Int32)), (.int (2 : Int32))])) t
                refine XS.icmpNo P188.here P188.x rfl (hb hby at_562) rfl (iiW_lt_f (by decide)) ?_
                show Steps p.tables e below (T187.setTop (mkF m 565 _ [])) t
                refine XS.iload P188.here P188.x rfl (hb hby at_565) rfl ?_
                show Steps p.tables e below (T187.setTop (mkF m 567 _ [(.int (of 0))])) t
                refine XS.iload P188.here P188.x rfl (hb hby at_567) rfl ?_
                show Steps p.tables e below (T187.setTop (mkF m 569 _ [(.int (of 1)), (.int (of 0))])) t
                refine XS.icmpYes P188.here P188.x rfl (pc0 := 569) (pc' := 574) rfl (hb hby at_569) rfl (iiW_ne_t (own_neq e0 e1 hx0 hx1 hi0 hi1 pm01)) (by decide) (by decide) ?_
                show Steps p.tables e below (T187.setTop (mkF m 574 _ [])) t
                refine XS.iload P188.here P188.x rfl (hb hby at_574) rfl ?_
                show Steps p.tables e below (T187.setTop (mkF m 576 _ [(.int (2 : Int32))])) t
                refine XS.iconst P188.here P188.x rfl (hb hby at_576) ?_
                show Steps p.tables e below (T187.setTop (mkF m 577 _ [(.int (3 : Int32)), (.int (2 : Int32))])) t
                refine XS.icmpYes P188.here P188.x rfl (pc0 := 577) (pc' := 596) rfl (hb hby at_577) rfl (iiW_lt_t (by decide)) (by decide) (by decide) ?_
                show Steps p.tables e below (T187.setTop (mkF m 596 _ [])) t
                refine XS.iload P188.here P188.x rfl (hb hby at_596) rfl ?_
                show Steps p.tables e below (T187.setTop (mkF m 598 _ [(.int (2 : Int32))])) t
                refine XS.iconst P188.here P188.x rfl (hb hby at_598) ?_
                show Steps p.tables e below (T187.setTop (mkF m 599 _ [(.int (2 : Int32)), (.int (2 : Int32))])) t
                refine XS.icmpNo P188.here P188.x rfl (hb hby at_599) rfl (iiW_lt_f (by decide)) ?_
                show Steps p.tables e below (T187.setTop (mkF m 602 _ [])) t
                refine XS.iload P188.here P188.x rfl (hb hby at_602) rfl ?_
                show Steps p.tables e below (T187.setTop (mkF m 604 _ [(.int (of 0))])) t
                refine XS.iload P188.here P188.x rfl (hb hby at_604) rfl ?_
                show Steps p.tables e below (T187.setTop (mkF m 606 _ [(.int mo), (.int (of 0))])) t
                refine XS.dload P188.here P188.x rfl (hb hby at_606) rfl ?_
                show Steps p.tables e below (T187.setTop (mkF m 608 _ [(.double wk), (.int mo), (.int (of 0))])) t
                refine XS.aload P188.here P188.x rfl (hb hby at_608) rfl rfl ?_
                exact kk
              have f191 := (((f146.keep K159 (ninS (by first | assumption | exact Ne.symm (by assumption) | exact adr_ne (by omega) | omega) (ninS (by first | assumption | exact Ne.symm (by assumption) | exact adr_ne (by omega) | omega) (ninS (by first | assumption | exact Ne.symm (by assumption) | exact adr_ne (by omega) | omega) nin0)))).keep K168 (ninS (by first | assumption | exact Ne.symm (by assumption) | exact adr_ne (by omega) | omega) (ninS (by first | assumption | exact Ne.symm (by assumption) | exact adr_ne (by omega) | omega) nin0))).keep K183 (ninS (by first | assumption | exact Ne.symm (by assumption) | exact adr_ne (by omega) | omega) (ninS (by first | assumption | exact Ne.symm (by assumption) | exact adr_ne (by omega) | omega) (ninS (by first | assumption | exact Ne.symm (by assumption) | exact adr_ne (by omega) | omega) nin0))))
              refine wCallS P188 (m_kyo l Z a0 hw (of 0) mo wk vb x0 i0 (oupd (oupd (oupd (fun _ => (0 : UInt64)) 0 w0) 1 w1) 2 w2) h182 f191 (own_sub e0 hx0 hi0) hx0 hi0) (tw65 hw) (tw66 hw) (tw63 hw) (tw67 hw) (by decide) (by rw [hml]; rfl) (lenOf pd_9 rfl) (argsL := [(.int (of 0)), (.int mo), (.double wk), (.ref vb)]) (rest := []) rfl rfl (W := 0) (Nat.le_of_eq rfl) (by decide) (by decide) (by decide) (by decide) (by simp) (hb hby at_610) rfl (k' := 6) (n' := 46) rfl rfl ?_
              rintro T189 _ _ P190 - ⟨rfl, rfl⟩
              show Done _ _ _ _ _ _ _ _ _ _ _ _ _ _ _ T189 (mkF m 613 _ [(.double (if x0 = mo then wk else (oupd (oupd (oupd (fun _ => (0 : UInt64)) 0 w0) 1 w1) 2 w2) i0))])
              refine Done.stepL (pc' := 621) (st' := [(.ref vb), (.double wk), (.int mo), (.int (of 1)), (.double (if x0 = mo then wk else (oupd (oupd (oupd (fun _ => (0 : UInt64)) 0 w0) 1 w1) 2 w2) i0))]) (fun t kk => ?_) ?_
              · show Steps p.tables e below (T189.setTop (mkF m 613 _ [(.double (if x0 = mo then wk else (oupd (oupd (oupd (fun _ => (0 : UInt64)) 0 w0) 1 w1) 2 w2) i0))])) t
                refine XS.iload P190.here P190.x rfl (hb hby at_613) rfl ?_
                show Steps p.tables e below (T189.setTop (mkF m 615 _ [(.int (of 1)), (.double (if x0 = mo then wk else (oupd (oupd (oupd (fun _ => (0 : UInt64)) 0 w0) 1 w1) 2 w2) i0))])) t
                refine XS.iload P190.here P190.x rfl (hb hby at_615) rfl ?_
                show Steps p.tables e below (T189.setTop (mkF m 617 _ [(.int mo), (.int (of 1)), (.double (if x0 = mo then wk else (oupd (oupd (oupd (fun _ => (0 : UInt64)) 0 w0) 1 w1) 2 w2) i0))])) t
                refine XS.dload P190.here P190.x rfl (hb hby at_617) rfl ?_
                show Steps p.tables e below (T189.setTop (mkF m 619 _ [(.double wk), (.int mo), (.int (of 1)), (.double (if x0 = mo then wk else (oupd (oupd (oupd (fun _ => (0 : UInt64)) 0 w0) 1 w1) 2 w2) i0))])) t
                refine XS.aload P190.here P190.x rfl (hb hby at_619) rfl rfl ?_
                exact kk
              refine wCallS P190 (m_kyo l Z a0 hw (of 1) mo wk vb x1 i1 (oupd (oupd (oupd (fun _ => (0 : UInt64)) 0 w0) 1 w1) 2 w2) h182 f191 (own_sub e1 hx1 hi1) hx1 hi1) (tw65 hw) (tw66 hw) (tw63 hw) (tw67 hw) (by decide) (by rw [hml]; rfl) (lenOf pd_9 rfl) (argsL := [(.int (of 1)), (.int mo), (.double wk), (.ref vb)]) (rest := [(.double (if x0 = mo then wk else (oupd (oupd (oupd (fun _ => (0 : UInt64)) 0 w0) 1 w1) 2 w2) i0))]) rfl rfl (W := 2) (Nat.le_of_eq rfl) (by decide) (by decide) (by decide) (by decide) (by simp) (hb hby at_621) rfl (k' := 6) (n' := 46) rfl rfl ?_
              rintro T192 _ _ P193 - ⟨rfl, rfl⟩
              show Done _ _ _ _ _ _ _ _ _ _ _ _ _ _ _ T192 (mkF m 624 _ [(.double (if x1 = mo then wk else (oupd (oupd (oupd (fun _ => (0 : UInt64)) 0 w0) 1 w1) 2 w2) i1)), (.double (if x0 = mo then wk else (oupd (oupd (oupd (fun _ => (0 : UInt64)) 0 w0) 1 w1) 2 w2) i0))])
              refine Done.stepL (pc' := 665) (st' := [(.int (1 : Int32))]) (fun t kk => ?_) ?_
              · show Steps p.tables e below (T192.setTop (mkF m 624 _ [(.double (if x1 = mo then wk else (oupd (oupd (oupd (fun _ => (0 : UInt64)) 0 w0) 1 w1) 2 w2) i1)), (.double (if x0 = mo then wk else (oupd (oupd (oupd (fun _ => (0 : UInt64)) 0 w0) 1 w1) 2 w2) i0))])) t
                refine XS.dcmpS P193.here P193.x rfl (hb hby at_624) rfl (dcmpZ (dint_ite (fun _ => Dk) (fun _ => (own_ds E0 E1 E2 i0 hi0))) (dint_ite (fun _ => Dk) (fun _ => (own_ds E0 E1 E2 i1 hi1)))) ?_
                show Steps p.tables e below (T192.setTop (mkF m 625 _ [(.int (cmpZ (if x0 = mo then p5.toInt else (own_sel V0 V1 V2 i0)) (if x1 = mo then p5.toInt else (own_sel V0 V1 V2 i1))))])) t
                refine XS.ifYes P193.here P193.x rfl (pc0 := 625) (pc' := 630) rfl (hb hby at_625) rfl (ciW_le_t (Int.not_lt.mpr l0)) (by decide) (by decide) ?_
                show Steps p.tables e below (T192.setTop (mkF m 630 _ [])) t
                refine XS.iload P193.here P193.x rfl (hb hby at_630) rfl ?_
                show Steps p.tables e below (T192.setTop (mkF m 632 _ [(.int (2 : Int32))])) t
                refine XS.iconst P193.here P193.x rfl (hb hby at_632) ?_
                show Steps p.tables e below (T192.setTop (mkF m 633 _ [(.int (3 : Int32)), (.int (2 : Int32))])) t
                refine XS.icmpYes P193.here P193.x rfl (pc0 := 633) (pc' := 664) rfl (hb hby at_633) rfl (iiW_lt_t (by decide)) (by decide) (by decide) ?_
                show Steps p.tables e below (T192.setTop (mkF m 664 _ [])) t
                refine XS.iconst P193.here P193.x rfl (hb hby at_664) ?_
                exact kk
              exact wRet P193 (t := .boolean) hret (narrow_01 (Or.inr rfl)) (Or.inl ⟨rfl, Or.inr (Or.inl rfl), _, rfl⟩) (hb hby at_665) rfl
            · refine Done.stepL (pc' := 511) (st' := [(.int (2 : Int32)), (.ref ob), (.int (of 0))]) (fun t kk => ?_) ?_
              · show Steps p.tables e below (T176.setTop (mkF m 505 _ [])) t
                refine XS.iload P177.here P177.x rfl (hb hby at_505) rfl ?_
                show Steps p.tables e below (T176.setTop (mkF m 507 _ [(.int (of 0))])) t
                refine XS.aload P177.here P177.x rfl (hb hby at_507) rfl rfl ?_
                show Steps p.tables e below (T176.setTop (mkF m 509 _ [(.ref ob), (.int (of 0))])) t
                refine XS.iload P177.here P177.x rfl (hb hby at_509) rfl ?_
                exact kk
              have f196 := (((f145.keep K159 (ninS (by first | assumption | exact Ne.symm (by assumption) | exact adr_ne (by omega) | omega) (ninS (by first | assumption | exact Ne.symm (by assumption) | exact adr_ne (by omega) | omega) (ninS (by first | assumption | exact Ne.symm (by assumption) | exact adr_ne (by omega) | omega) nin0)))).keep K168 (ninS (by first | assumption | exact Ne.symm (by assumption) | exact adr_ne (by omega) | omega) (ninS (by first | assumption | exact Ne.symm (by assumption) | exact adr_ne (by omega) | omega) nin0))).keep K183 (ninS (by first | assumption | exact Ne.symm (by assumption) | exact adr_ne (by omega) | omega) (ninS (by first | assumption | exact Ne.symm (by assumption) | exact adr_ne (by omega) | omega) (ninS (by first | assumption | exact Ne.symm (by assumption) | exact adr_ne (by omega) | omega) nin0))))
              refine wCallS P177 (m_ofd2 l Z a0 hw (of 0) x0 x1 x2 ob h182 f196 (Or.inr e0)) (tw61 hw) (tw62 hw) (tw63 hw) (tw64 hw) (by decide) (by rw [hml]; rfl) (lenOf pd_8 rfl) (argsL := [(.int (of 0)), (.ref ob), (.int (2 : Int32))]) (rest := []) rfl rfl (W := 0) (Nat.le_of_eq rfl) (by decide) (by decide) (by decide) (by decide) (by simp) (hb hby at_511) rfl (k' := 6) (n' := 46) rfl rfl ?_
              rintro T194 _ _ P195 - ⟨rfl, rfl⟩
              show Done _ _ _ _ _ _ _ _ _ _ _ _ _ _ _ T194 (mkF m 514 _ [(.int (1 : Int32))])
              refine Done.stepL (pc' := 531) (st' := [(.int (2 : Int32)), (.ref ob), (.int (of 1))]) (fun t kk => ?_) ?_
              · show Steps p.tables e below (T194.setTop (mkF m 514 _ [(.int (1 : Int32))])) t
                refine XS.ifYes P195.here P195.x rfl (pc0 := 514) (pc' := 519) rfl (hb hby at_514) rfl (i0W_ne_t (by decide)) (by decide) (by decide) ?_
                show Steps p.tables e below (T194.setTop (mkF m 519 _ [])) t
                refine XS.iload P195.here P195.x rfl (hb hby at_519) rfl ?_
                show Steps p.tables e below (T194.setTop (mkF m 521 _ [(.int (2 : Int32))])) t
                refine XS.iconst P195.here P195.x rfl (hb hby at_521) ?_
                show Steps p.tables e below (T194.setTop (mkF m 522 _ [(.int (2 : Int32)), (.int (2 : Int32))])) t
                refine XS.icmpNo P195.here P195.x rfl (hb hby at_522) rfl (iiW_lt_f (by decide)) ?_
                show Steps p.tables e below (T194.setTop (mkF m 525 _ [])) t
                refine XS.iload P195.here P195.x rfl (hb hby at_525) rfl ?_
                show Steps p.tables e below (T194.setTop (mkF m 527 _ [(.int (of 1))])) t
                refine XS.aload P195.here P195.x rfl (hb hby at_527) rfl rfl ?_
                show Steps p.tables e below (T194.setTop (mkF m 529 _ [(.ref ob), (.int (of 1))])) t
                refine XS.iload P195.here P195.x rfl (hb hby at_529) rfl ?_
                exact kk
              refine wCallS P195 (m_ofd2 l Z a0 hw (of 1) x0 x1 x2 ob h182 f196 (Or.inl e1)) (tw61 hw) (tw62 hw) (tw63 hw) (tw64 hw) (by decide) (by rw [hml]; rfl) (lenOf pd_8 rfl) (argsL := [(.int (of 1)), (.ref ob), (.int (2 : Int32))]) (rest := []) rfl rfl (W := 0) (Nat.le_of_eq rfl) (by decide) (by decide) (by decide) (by decide) (by simp) (hb hby at_531) rfl (k' := 6) (n' := 46) rfl rfl ?_
              rintro T197 _ _ P198 - ⟨rfl, rfl⟩
              show Done _ _ _ _ _ _ _ _ _ _ _ _ _ _ _ T197 (mkF m 534 _ [(.int (1 : Int32))])
              refine Done.stepL (pc' := 610) (st' := [(.ref vb), (.double wk), (.int mo), (.int (of 0))]) (fun t kk => ?_) ?_
              · show Steps p.tables e below (T197.setTop (mkF m 534 _ [(.int (1 : Int32))])) t
                refine XS.ifYes P198.here P198.x rfl (pc0 := 534) (pc' := 539) rfl (hb hby at_534) rfl (i0W_ne_t (by decide)) (by decide) (by decide) ?_
                show Steps p.tables e below (T197.setTop (mkF m 539 _ [])) t
                refine XS.iload P198.here P198.x rfl (hb hby at_539) rfl ?_
                show Steps p.tables e below (T197.setTop (mkF m 541 _ [(.int (2 : Int32))])) t
                refine XS.iconst P198.here P198.x rfl (hb hby at_541) ?_
                show Steps p.tables e below (T197.setTop (mkF m 542 _ [(.int (3 : Int32)), (.int (2 : Int32))])) t
                refine XS.icmpYes P198.here P198.x rfl (pc0 := 542) (pc' := 559) rfl (hb hby at_542) rfl (iiW_lt_t (by decide)) (by decide) (by decide) ?_
                show Steps p.tables e below (T197.setTop (mkF m 559 _ [])) t
                refine XS.iload P198.here P198.x rfl (hb hby at_559) rfl ?_
                show Steps p.tables e below (T197.setTop (mkF m 561 _ [(.int (2 : Int32))])) t
                refine XS.iconst P198.here P198.x rfl (hb hby at_561) ?_
                show Steps p.tables e below (T197.setTop (mkF m 562 _ [(.int (2 : Int32)), (.int (2 : Int32))])) t
                refine XS.icmpNo P198.here P198.x rfl (hb hby at_562) rfl (iiW_lt_f (by decide)) ?_
                show Steps p.tables e below (T197.setTop (mkF m 565 _ [])) t
                refine XS.iload P198.here P198.x rfl (hb hby at_565) rfl ?_
                show Steps p.tables e below (T197.setTop (mkF m 567 _ [(.int (of 0))])) t
                refine XS.iload P198.here P198.x rfl (hb hby at_567) rfl ?_
                show Steps p.tables e below (T197.setTop (mkF m 569 _ [(.int (of 1)), (.int (of 0))])) t
                refine XS.icmpYes P198.here P198.x rfl (pc0 := 569) (pc' := 574) rfl (hb hby at_569) rfl (iiW_ne_t (own_neq e0 e1 hx1 hx0 hi1 hi0 (Ne.symm pm01))) (by decide) (by decide) ?_
                show Steps p.tables e below (T197.setTop (mkF m 574 _ [])) t
                refine XS.iload P198.here P198.x rfl (hb hby at_574) rfl ?_
                show Steps p.tables e below (T197.setTop (mkF m 576 _ [(.int (2 : Int32))])) t
                refine XS.iconst P198.here P198.x rfl (hb hby at_576) ?_
                show Steps p.tables e below (T197.setTop (mkF m 577 _ [(.int (3 : Int32)), (.int (2 : Int32))])) t
                refine XS.icmpYes P198.here P198.x rfl (pc0 := 577) (pc' := 596) rfl (hb hby at_577) rfl (iiW_lt_t (by decide)) (by decide) (by decide) ?_
                show Steps p.tables e below (T197.setTop (mkF m 596 _ [])) t
                refine XS.iload P198.here P198.x rfl (hb hby at_596) rfl ?_
                show Steps p.tables e below (T197.setTop (mkF m 598 _ [(.int (2 : Int32))])) t
                refine XS.iconst P198.here P198.x rfl (hb hby at_598) ?_
                show Steps p.tables e below (T197.setTop (mkF m 599 _ [(.int (2 : Int32)), (.int (2 : Int32))])) t
                refine XS.icmpNo P198.here P198.x rfl (hb hby at_599) rfl (iiW_lt_f (by decide)) ?_
                show Steps p.tables e below (T197.setTop (mkF m 602 _ [])) t
                refine XS.iload P198.here P198.x rfl (hb hby at_602) rfl ?_
                show Steps p.tables e below (T197.setTop (mkF m 604 _ [(.int (of 0))])) t
                refine XS.iload P198.here P198.x rfl (hb hby at_604) rfl ?_
                show Steps p.tables e below (T197.setTop (mkF m 606 _ [(.int mo), (.int (of 0))])) t
                refine XS.dload P198.here P198.x rfl (hb hby at_606) rfl ?_
                show Steps p.tables e below (T197.setTop (mkF m 608 _ [(.double wk), (.int mo), (.int (of 0))])) t
                refine XS.aload P198.here P198.x rfl (hb hby at_608) rfl rfl ?_
                exact kk
              have f201 := (((f146.keep K159 (ninS (by first | assumption | exact Ne.symm (by assumption) | exact adr_ne (by omega) | omega) (ninS (by first | assumption | exact Ne.symm (by assumption) | exact adr_ne (by omega) | omega) (ninS (by first | assumption | exact Ne.symm (by assumption) | exact adr_ne (by omega) | omega) nin0)))).keep K168 (ninS (by first | assumption | exact Ne.symm (by assumption) | exact adr_ne (by omega) | omega) (ninS (by first | assumption | exact Ne.symm (by assumption) | exact adr_ne (by omega) | omega) nin0))).keep K183 (ninS (by first | assumption | exact Ne.symm (by assumption) | exact adr_ne (by omega) | omega) (ninS (by first | assumption | exact Ne.symm (by assumption) | exact adr_ne (by omega) | omega) (ninS (by first | assumption | exact Ne.symm (by assumption) | exact adr_ne (by omega) | omega) nin0))))
              refine wCallS P198 (m_kyo l Z a0 hw (of 0) mo wk vb x1 i1 (oupd (oupd (oupd (fun _ => (0 : UInt64)) 0 w0) 1 w1) 2 w2) h182 f201 (own_sub e0 hx1 hi1) hx1 hi1) (tw65 hw) (tw66 hw) (tw63 hw) (tw67 hw) (by decide) (by rw [hml]; rfl) (lenOf pd_9 rfl) (argsL := [(.int (of 0)), (.int mo), (.double wk), (.ref vb)]) (rest := []) rfl rfl (W := 0) (Nat.le_of_eq rfl) (by decide) (by decide) (by decide) (by decide) (by simp) (hb hby at_610) rfl (k' := 6) (n' := 46) rfl rfl ?_
              rintro T199 _ _ P200 - ⟨rfl, rfl⟩
              show Done _ _ _ _ _ _ _ _ _ _ _ _ _ _ _ T199 (mkF m 613 _ [(.double (if x1 = mo then wk else (oupd (oupd (oupd (fun _ => (0 : UInt64)) 0 w0) 1 w1) 2 w2) i1))])
              refine Done.stepL (pc' := 621) (st' := [(.ref vb), (.double wk), (.int mo), (.int (of 1)), (.double (if x1 = mo then wk else (oupd (oupd (oupd (fun _ => (0 : UInt64)) 0 w0) 1 w1) 2 w2) i1))]) (fun t kk => ?_) ?_
              · show Steps p.tables e below (T199.setTop (mkF m 613 _ [(.double (if x1 = mo then wk else (oupd (oupd (oupd (fun _ => (0 : UInt64)) 0 w0) 1 w1) 2 w2) i1))])) t
                refine XS.iload P200.here P200.x rfl (hb hby at_613) rfl ?_
                show Steps p.tables e below (T199.setTop (mkF m 615 _ [(.int (of 1)), (.double (if x1 = mo then wk else (oupd (oupd (oupd (fun _ => (0 : UInt64)) 0 w0) 1 w1) 2 w2) i1))])) t
                refine XS.iload P200.here P200.x rfl (hb hby at_615) rfl ?_
                show Steps p.tables e below (T199.setTop (mkF m 617 _ [(.int mo), (.int (of 1)), (.double (if x1 = mo then wk else (oupd (oupd (oupd (fun _ => (0 : UInt64)) 0 w0) 1 w1) 2 w2) i1))])) t
                refine XS.dload P200.here P200.x rfl (hb hby at_617) rfl ?_
                show Steps p.tables e below (T199.setTop (mkF m 619 _ [(.double wk), (.int mo), (.int (of 1)), (.double (if x1 = mo then wk else (oupd (oupd (oupd (fun _ => (0 : UInt64)) 0 w0) 1 w1) 2 w2) i1))])) t
                refine XS.aload P200.here P200.x rfl (hb hby at_619) rfl rfl ?_
                exact kk
              refine wCallS P200 (m_kyo l Z a0 hw (of 1) mo wk vb x0 i0 (oupd (oupd (oupd (fun _ => (0 : UInt64)) 0 w0) 1 w1) 2 w2) h182 f201 (own_sub e1 hx0 hi0) hx0 hi0) (tw65 hw) (tw66 hw) (tw63 hw) (tw67 hw) (by decide) (by rw [hml]; rfl) (lenOf pd_9 rfl) (argsL := [(.int (of 1)), (.int mo), (.double wk), (.ref vb)]) (rest := [(.double (if x1 = mo then wk else (oupd (oupd (oupd (fun _ => (0 : UInt64)) 0 w0) 1 w1) 2 w2) i1))]) rfl rfl (W := 2) (Nat.le_of_eq rfl) (by decide) (by decide) (by decide) (by decide) (by simp) (hb hby at_621) rfl (k' := 6) (n' := 46) rfl rfl ?_
              rintro T202 _ _ P203 - ⟨rfl, rfl⟩
              show Done _ _ _ _ _ _ _ _ _ _ _ _ _ _ _ T202 (mkF m 624 _ [(.double (if x0 = mo then wk else (oupd (oupd (oupd (fun _ => (0 : UInt64)) 0 w0) 1 w1) 2 w2) i0)), (.double (if x1 = mo then wk else (oupd (oupd (oupd (fun _ => (0 : UInt64)) 0 w0) 1 w1) 2 w2) i1))])
              refine Done.stepL (pc' := 665) (st' := [(.int (1 : Int32))]) (fun t kk => ?_) ?_
              · show Steps p.tables e below (T202.setTop (mkF m 624 _ [(.double (if x0 = mo then wk else (oupd (oupd (oupd (fun _ => (0 : UInt64)) 0 w0) 1 w1) 2 w2) i0)), (.double (if x1 = mo then wk else (oupd (oupd (oupd (fun _ => (0 : UInt64)) 0 w0) 1 w1) 2 w2) i1))])) t
                refine XS.dcmpS P203.here P203.x rfl (hb hby at_624) rfl (dcmpZ (dint_ite (fun _ => Dk) (fun _ => (own_ds E0 E1 E2 i1 hi1))) (dint_ite (fun _ => Dk) (fun _ => (own_ds E0 E1 E2 i0 hi0)))) ?_
                show Steps p.tables e below (T202.setTop (mkF m 625 _ [(.int (cmpZ (if x1 = mo then p5.toInt else (own_sel V0 V1 V2 i1)) (if x0 = mo then p5.toInt else (own_sel V0 V1 V2 i0))))])) t
                refine XS.ifYes P203.here P203.x rfl (pc0 := 625) (pc' := 630) rfl (hb hby at_625) rfl (ciW_le_t (Int.not_lt.mpr l0)) (by decide) (by decide) ?_
                show Steps p.tables e below (T202.setTop (mkF m 630 _ [])) t
                refine XS.iload P203.here P203.x rfl (hb hby at_630) rfl ?_
                show Steps p.tables e below (T202.setTop (mkF m 632 _ [(.int (2 : Int32))])) t
                refine XS.iconst P203.here P203.x rfl (hb hby at_632) ?_
                show Steps p.tables e below (T202.setTop (mkF m 633 _ [(.int (3 : Int32)), (.int (2 : Int32))])) t
                refine XS.icmpYes P203.here P203.x rfl (pc0 := 633) (pc' := 664) rfl (hb hby at_633) rfl (iiW_lt_t (by decide)) (by decide) (by decide) ?_
                show Steps p.tables e below (T202.setTop (mkF m 664 _ [])) t
                refine XS.iconst P203.here P203.x rfl (hb hby at_664) ?_
                exact kk
              exact wRet P203 (t := .boolean) hret (narrow_01 (Or.inr rfl)) (Or.inl ⟨rfl, Or.inr (Or.inl rfl), _, rfl⟩) (hb hby at_665) rfl
          refine Done.stepL (pc' := 339) (st' := [(.int (1 : Int32)), (.ref ob)]) (fun t kk => ?_) ?_
          · show Steps p.tables e below (T147.setTop (mkF m 336 _ [])) t
            refine XS.aload P148.here P148.x rfl (hb hby at_336) rfl rfl ?_
            show Steps p.tables e below (T147.setTop (mkF m 338 _ [(.ref ob)])) t
            refine XS.iconst P148.here P148.x rfl (hb hby at_338) ?_
            exact kk
          have f204 := (f145.keep K159 (ninS (by first | assumption | exact Ne.symm (by assumption) | exact adr_ne (by omega) | omega) (ninS (by first | assumption | exact Ne.symm (by assumption) | exact adr_ne (by omega) | omega) (ninS (by first | assumption | exact Ne.symm (by assumption) | exact adr_ne (by omega) | omega) nin0))))
          refine wIaload P148 f204 (j := (1 : Int32)) (i := 1) rfl (by decide) (v := (.int x1)) rfl (hb hby at_339) rfl ?_
          show Done _ _ _ _ _ _ _ _ _ _ _ _ _ _ _ T147 (mkF m 340 _ [(.int x1)])
          refine Done.stepL (pc' := 342) (st' := [(.int mo), (.int x1)]) (fun t kk => ?_) ?_
          · show Steps p.tables e below (T147.setTop (mkF m 340 _ [(.int x1)])) t
            refine XS.iload P148.here P148.x rfl (hb hby at_340) rfl ?_
            exact kk
          by_cases q1 : x1 = mo
          · refine Done.stepL (pc' := 367) (st' := []) (fun t kk => ?_) ?_
            · show Steps p.tables e below (T147.setTop (mkF m 342 _ [(.int mo), (.int x1)])) t
              refine XS.icmpYes P148.here P148.x rfl (pc0 := 342) (pc' := 367) rfl (hb hby at_342) rfl (iiW_eq_t q1) (by decide) (by decide) ?_
              exact kk
            exact t367 M1 m1 D1 (by rw [if_pos q1])
          · refine Done.stepL (pc' := 350) (st' := [(.int (1 : Int32)), (.ref ob), (.ref vb)]) (fun t kk => ?_) ?_
            · show Steps p.tables e below (T147.setTop (mkF m 342 _ [(.int mo), (.int x1)])) t
              refine XS.icmpNo P148.here P148.x rfl (hb hby at_342) rfl (iiW_eq_f (show ¬ (x1 = mo) from q1)) ?_
              show Steps p.tables e below (T147.setTop (mkF m 345 _ [])) t
              refine XS.aload P148.here P148.x rfl (hb hby at_345) rfl rfl ?_
              show Steps p.tables e below (T147.setTop (mkF m 347 _ [(.ref vb)])) t
              refine XS.aload P148.here P148.x rfl (hb hby at_347) rfl rfl ?_
              show Steps p.tables e below (T147.setTop (mkF m 349 _ [(.ref ob), (.ref vb)])) t
              refine XS.iconst P148.here P148.x rfl (hb hby at_349) ?_
              exact kk
            refine wIaload P148 f204 (j := (1 : Int32)) (i := 1) rfl (by decide) (v := (.int x1)) rfl (hb hby at_350) rfl ?_
            show Done _ _ _ _ _ _ _ _ _ _ _ _ _ _ _ T147 (mkF m 351 _ [(.int x1), (.ref vb)])
            have f205 := (f146.keep K159 (ninS (by first | assumption | exact Ne.symm (by assumption) | exact adr_ne (by omega) | omega) (ninS (by first | assumption | exact Ne.symm (by assumption) | exact adr_ne (by omega) | omega) (ninS (by first | assumption | exact Ne.symm (by assumption) | exact adr_ne (by omega) | omega) nin0))))
            refine wDaload P148 f205 (j := x1) (i := i1) hx1 hi1 (v := (.double ((oupd (oupd (oupd (fun _ => (0 : UInt64)) 0 w0) 1 w1) 2 w2) i1))) rfl (hb hby at_351) rfl ?_
            show Done _ _ _ _ _ _ _ _ _ _ _ _ _ _ _ T147 (mkF m 352 _ [(.double ((oupd (oupd (oupd (fun _ => (0 : UInt64)) 0 w0) 1 w1) 2 w2) i1))])
            refine Done.stepL (pc' := 355) (st' := [(.int (cmpZ (own_sel V0 V1 V2 i1) M1))]) (fun t kk => ?_) ?_
            · show Steps p.tables e below (T147.setTop (mkF m 352 _ [(.double ((oupd (oupd (oupd (fun _ => (0 : UInt64)) 0 w0) 1 w1) 2 w2) i1))])) t
              refine XS.dload P148.here P148.x rfl (hb hby at_352) rfl ?_
              show Steps p.tables e below (T147.setTop (mkF m 354 _ [(.double m1), (.double ((oupd (oupd (oupd (fun _ => (0 : UInt64)) 0 w0) 1 w1) 2 w2) i1))])) t
              refine XS.dcmpS P148.here P148.x rfl (hb hby at_354) rfl (dcmpZ (own_ds E0 E1 E2 i1 hi1) D1) ?_
              exact kk
            by_cases r1 : ¬ (M1 < (own_sel V0 V1 V2 i1))
            · refine Done.stepL (pc' := 367) (st' := []) (fun t kk => ?_) ?_
              · show Steps p.tables e below (T147.setTop (mkF m 355 _ [(.int (cmpZ (own_sel V0 V1 V2 i1) M1))])) t
                refine XS.ifYes P148.here P148.x rfl (pc0 := 355) (pc' := 367) rfl (hb hby at_355) rfl (ciW_le_t r1) (by decide) (by decide) ?_
                exact kk
              exact t367 M1 m1 D1 (by rw [if_neg q1, if_neg r1])
            · refine Done.stepL (pc' := 363) (st' := [(.int (1 : Int32)), (.ref ob), (.ref vb)]) (fun t kk => ?_) ?_
              · show Steps p.tables e below (T147.setTop (mkF m 355 _ [(.int (cmpZ (own_sel V0 V1 V2 i1) M1))])) t
                refine XS.ifNo P148.here P148.x rfl (hb hby at_355) rfl (ciW_le_f (show ¬ (¬ (M1 < (own_sel V0 V1 V2 i1))) from r1)) ?_
                show Steps p.tables e below (T147.setTop (mkF m 358 _ [])) t
                refine XS.aload P148.here P148.x rfl (hb hby at_358) rfl rfl ?_
                show Steps p.tables e below (T147.setTop (mkF m 360 _ [(.ref vb)])) t
                refine XS.aload P148.here P148.x rfl (hb hby at_360) rfl rfl ?_
                show Steps p.tables e below (T147.setTop (mkF m 362 _ [(.ref ob), (.ref vb)])) t
                refine XS.iconst P148.here P148.x rfl (hb hby at_362) ?_
                exact kk
              refine wIaload P148 f204 (j := (1 : Int32)) (i := 1) rfl (by decide) (v := (.int x1)) rfl (hb hby at_363) rfl ?_
              show Done _ _ _ _ _ _ _ _ _ _ _ _ _ _ _ T147 (mkF m 364 _ [(.int x1), (.ref vb)])
              refine wDaload P148 f205 (j := x1) (i := i1) hx1 hi1 (v := (.double ((oupd (oupd (oupd (fun _ => (0 : UInt64)) 0 w0) 1 w1) 2 w2) i1))) rfl (hb hby at_364) rfl ?_
              show Done _ _ _ _ _ _ _ _ _ _ _ _ _ _ _ T147 (mkF m 365 _ [(.double ((oupd (oupd (oupd (fun _ => (0 : UInt64)) 0 w0) 1 w1) 2 w2) i1))])
              refine Done.step (T' := T147) (g' := (mkF m 367 #[.val (.int p0), .val (.int p1), .val (.int p2), .val (.int p3), .val (.int p4), .val (.int p5), .val (.double w0), .second, .val (.double w1), .second, .val (.double w2), .second, .val (.ref vb), .val (.int z13), .val (.int z14), .val (.int z15), .val (.int z16), .val (.int z17), .val (.ref ob), .val (.int (p4 &&& (2147483647 : Int32))), .val (.int (2 : Int32)), .val (.int cv), .val (.double wk), .second, .val (.ref b103), .val (.int mo), .val (.double ((oupd (oupd (oupd (fun _ => (0 : UInt64)) 0 w0) 1 w1) 2 w2) i1)), .second, .unset, .unset, .unset, .unset, .unset] [])) (fun t kk => ?_) ?_
              · show Steps p.tables e below (T147.setTop (mkF m 365 _ [(.double ((oupd (oupd (oupd (fun _ => (0 : UInt64)) 0 w0) 1 w1) 2 w2) i1))])) t
                refine XS.dstore P148.here P148.x rfl (hb hby at_365) rfl (l' := #[.val (.int p0), .val (.int p1), .val (.int p2), .val (.int p3), .val (.int p4), .val (.int p5), .val (.double w0), .second, .val (.double w1), .second, .val (.double w2), .second, .val (.ref vb), .val (.int z13), .val (.int z14), .val (.int z15), .val (.int z16), .val (.int z17), .val (.ref ob), .val (.int (p4 &&& (2147483647 : Int32))), .val (.int (2 : Int32)), .val (.int cv), .val (.double wk), .second, .val (.ref b103), .val (.int mo), .val (.double ((oupd (oupd (oupd (fun _ => (0 : UInt64)) 0 w0) 1 w1) 2 w2) i1)), .second, .unset, .unset, .unset, .unset, .unset]) rfl ?_
                exact kk
              exact t367 (own_sel V0 V1 V2 i1) ((oupd (oupd (oupd (fun _ => (0 : UInt64)) 0 w0) 1 w1) 2 w2) i1) (own_ds E0 E1 E2 i1 hi1) (by rw [if_neg q1, if_pos (Decidable.not_not.mp r1)])
        refine Done.stepL (pc' := 302) (st' := [(.int (0 : Int32)), (.ref ob)]) (fun t kk => ?_) ?_
        · show Steps p.tables e below (T147.setTop (mkF m 299 _ [])) t
          refine XS.aload P148.here P148.x rfl (hb hby at_299) rfl rfl ?_
          show Steps p.tables e below (T147.setTop (mkF m 301 _ [(.ref ob)])) t
          refine XS.iconst P148.here P148.x rfl (hb hby at_301) ?_
          exact kk
        have f206 := (f145.keep K159 (ninS (by first | assumption | exact Ne.symm (by assumption) | exact adr_ne (by omega) | omega) (ninS (by first | assumption | exact Ne.symm (by assumption) | exact adr_ne (by omega) | omega) (ninS (by first | assumption | exact Ne.symm (by assumption) | exact adr_ne (by omega) | omega) nin0))))
        refine wIaload P148 f206 (j := (0 : Int32)) (i := 0) rfl (by decide) (v := (.int x0)) rfl (hb hby at_302) rfl ?_
        show Done _ _ _ _ _ _ _ _ _ _ _ _ _ _ _ T147 (mkF m 303 _ [(.int x0)])
        refine Done.stepL (pc' := 305) (st' := [(.int mo), (.int x0)]) (fun t kk => ?_) ?_
        · show Steps p.tables e below (T147.setTop (mkF m 303 _ [(.int x0)])) t
          refine XS.iload P148.here P148.x rfl (hb hby at_303) rfl ?_
          exact kk
        by_cases q0 : x0 = mo
        · refine Done.stepL (pc' := 330) (st' := []) (fun t kk => ?_) ?_
          · show Steps p.tables e below (T147.setTop (mkF m 305 _ [(.int mo), (.int x0)])) t
            refine XS.icmpYes P148.here P148.x rfl (pc0 := 305) (pc' := 330) rfl (hb hby at_305) rfl (iiW_eq_t q0) (by decide) (by decide) ?_
            exact kk
          exact t330 p5.toInt wk Dk (by rw [if_pos q0])
        · refine Done.stepL (pc' := 313) (st' := [(.int (0 : Int32)), (.ref ob), (.ref vb)]) (fun t kk => ?_) ?_
          · show Steps p.tables e below (T147.setTop (mkF m 305 _ [(.int mo), (.int x0)])) t
            refine XS.icmpNo P148.here P148.x rfl (hb hby at_305) rfl (iiW_eq_f (show ¬ (x0 = mo) from q0)) ?_
            show Steps p.tables e below (T147.setTop (mkF m 308 _ [])) t
            refine XS.aload P148.here P148.x rfl (hb hby at_308) rfl rfl ?_
            show Steps p.tables e below (T147.setTop (mkF m 310 _ [(.ref vb)])) t
            refine XS.aload P148.here P148.x rfl (hb hby at_310) rfl rfl ?_
            show Steps p.tables e below (T147.setTop (mkF m 312 _ [(.ref ob), (.ref vb)])) t
            refine XS.iconst P148.here P148.x rfl (hb hby at_312) ?_
            exact kk
          refine wIaload P148 f206 (j := (0 : Int32)) (i := 0) rfl (by decide) (v := (.int x0)) rfl (hb hby at_313) rfl ?_
          show Done _ _ _ _ _ _ _ _ _ _ _ _ _ _ _ T147 (mkF m 314 _ [(.int x0), (.ref vb)])
          have f207 := (f146.keep K159 (ninS (by first | assumption | exact Ne.symm (by assumption) | exact adr_ne (by omega) | omega) (ninS (by first | assumption | exact Ne.symm (by assumption) | exact adr_ne (by omega) | omega) (ninS (by first | assumption | exact Ne.symm (by assumption) | exact adr_ne (by omega) | omega) nin0))))
          refine wDaload P148 f207 (j := x0) (i := i0) hx0 hi0 (v := (.double ((oupd (oupd (oupd (fun _ => (0 : UInt64)) 0 w0) 1 w1) 2 w2) i0))) rfl (hb hby at_314) rfl ?_
          show Done _ _ _ _ _ _ _ _ _ _ _ _ _ _ _ T147 (mkF m 315 _ [(.double ((oupd (oupd (oupd (fun _ => (0 : UInt64)) 0 w0) 1 w1) 2 w2) i0))])
          refine Done.stepL (pc' := 318) (st' := [(.int (cmpZ (own_sel V0 V1 V2 i0) p5.toInt))]) (fun t kk => ?_) ?_
          · show Steps p.tables e below (T147.setTop (mkF m 315 _ [(.double ((oupd (oupd (oupd (fun _ => (0 : UInt64)) 0 w0) 1 w1) 2 w2) i0))])) t
            refine XS.dload P148.here P148.x rfl (hb hby at_315) rfl ?_
            show Steps p.tables e below (T147.setTop (mkF m 317 _ [(.double wk), (.double ((oupd (oupd (oupd (fun _ => (0 : UInt64)) 0 w0) 1 w1) 2 w2) i0))])) t
            refine XS.dcmpS P148.here P148.x rfl (hb hby at_317) rfl (dcmpZ (own_ds E0 E1 E2 i0 hi0) Dk) ?_
            exact kk
          by_cases r0 : ¬ (p5.toInt < (own_sel V0 V1 V2 i0))
          · refine Done.stepL (pc' := 330) (st' := []) (fun t kk => ?_) ?_
            · show Steps p.tables e below (T147.setTop (mkF m 318 _ [(.int (cmpZ (own_sel V0 V1 V2 i0) p5.toInt))])) t
              refine XS.ifYes P148.here P148.x rfl (pc0 := 318) (pc' := 330) rfl (hb hby at_318) rfl (ciW_le_t r0) (by decide) (by decide) ?_
              exact kk
            exact t330 p5.toInt wk Dk (by rw [if_neg q0, if_neg r0])
          · refine Done.stepL (pc' := 326) (st' := [(.int (0 : Int32)), (.ref ob), (.ref vb)]) (fun t kk => ?_) ?_
            · show Steps p.tables e below (T147.setTop (mkF m 318 _ [(.int (cmpZ (own_sel V0 V1 V2 i0) p5.toInt))])) t
              refine XS.ifNo P148.here P148.x rfl (hb hby at_318) rfl (ciW_le_f (show ¬ (¬ (p5.toInt < (own_sel V0 V1 V2 i0))) from r0)) ?_
              show Steps p.tables e below (T147.setTop (mkF m 321 _ [])) t
              refine XS.aload P148.here P148.x rfl (hb hby at_321) rfl rfl ?_
              show Steps p.tables e below (T147.setTop (mkF m 323 _ [(.ref vb)])) t
              refine XS.aload P148.here P148.x rfl (hb hby at_323) rfl rfl ?_
              show Steps p.tables e below (T147.setTop (mkF m 325 _ [(.ref ob), (.ref vb)])) t
              refine XS.iconst P148.here P148.x rfl (hb hby at_325) ?_
              exact kk
            refine wIaload P148 f206 (j := (0 : Int32)) (i := 0) rfl (by decide) (v := (.int x0)) rfl (hb hby at_326) rfl ?_
            show Done _ _ _ _ _ _ _ _ _ _ _ _ _ _ _ T147 (mkF m 327 _ [(.int x0), (.ref vb)])
            refine wDaload P148 f207 (j := x0) (i := i0) hx0 hi0 (v := (.double ((oupd (oupd (oupd (fun _ => (0 : UInt64)) 0 w0) 1 w1) 2 w2) i0))) rfl (hb hby at_327) rfl ?_
            show Done _ _ _ _ _ _ _ _ _ _ _ _ _ _ _ T147 (mkF m 328 _ [(.double ((oupd (oupd (oupd (fun _ => (0 : UInt64)) 0 w0) 1 w1) 2 w2) i0))])
            refine Done.step (T' := T147) (g' := (mkF m 330 #[.val (.int p0), .val (.int p1), .val (.int p2), .val (.int p3), .val (.int p4), .val (.int p5), .val (.double w0), .second, .val (.double w1), .second, .val (.double w2), .second, .val (.ref vb), .val (.int z13), .val (.int z14), .val (.int z15), .val (.int z16), .val (.int z17), .val (.ref ob), .val (.int (p4 &&& (2147483647 : Int32))), .val (.int (2 : Int32)), .val (.int cv), .val (.double wk), .second, .val (.ref b103), .val (.int mo), .val (.double ((oupd (oupd (oupd (fun _ => (0 : UInt64)) 0 w0) 1 w1) 2 w2) i0)), .second, .unset, .unset, .unset, .unset, .unset] [])) (fun t kk => ?_) ?_
            · show Steps p.tables e below (T147.setTop (mkF m 328 _ [(.double ((oupd (oupd (oupd (fun _ => (0 : UInt64)) 0 w0) 1 w1) 2 w2) i0))])) t
              refine XS.dstore P148.here P148.x rfl (hb hby at_328) rfl (l' := #[.val (.int p0), .val (.int p1), .val (.int p2), .val (.int p3), .val (.int p4), .val (.int p5), .val (.double w0), .second, .val (.double w1), .second, .val (.double w2), .second, .val (.ref vb), .val (.int z13), .val (.int z14), .val (.int z15), .val (.int z16), .val (.int z17), .val (.ref ob), .val (.int (p4 &&& (2147483647 : Int32))), .val (.int (2 : Int32)), .val (.int cv), .val (.double wk), .second, .val (.ref b103), .val (.int mo), .val (.double ((oupd (oupd (oupd (fun _ => (0 : UInt64)) 0 w0) 1 w1) 2 w2) i0)), .second, .unset, .unset, .unset, .unset, .unset]) rfl ?_
              exact kk
            exact t330 (own_sel V0 V1 V2 i0) ((oupd (oupd (oupd (fun _ => (0 : UInt64)) 0 w0) 1 w1) 2 w2) i0) (own_ds E0 E1 E2 i0 hi0) (by rw [if_neg q0, if_pos (Decidable.not_not.mp r0)])
      refine Done.stepL (pc' := 250) (st' := [(.int (0 : Int32)), (.ref ob)]) (fun t kk => ?_) ?_
      · show Steps p.tables e below (T147.setTop (mkF m 247 _ [])) t
        refine XS.aload P148.here P148.x rfl (hb hby at_247) rfl rfl ?_
        show Steps p.tables e below (T147.setTop (mkF m 249 _ [(.ref ob)])) t
        refine XS.iconst P148.here P148.x rfl (hb hby at_249) ?_
        exact kk
      have f208 := (f145.keep K159 (ninS (by first | assumption | exact Ne.symm (by assumption) | exact adr_ne (by omega) | omega) (ninS (by first | assumption | exact Ne.symm (by assumption) | exact adr_ne (by omega) | omega) (ninS (by first | assumption | exact Ne.symm (by assumption) | exact adr_ne (by omega) | omega) nin0))))
      refine wIaload P148 f208 (j := (0 : Int32)) (i := 0) rfl (by decide) (v := (.int x0)) rfl (hb hby at_250) rfl ?_
      show Done _ _ _ _ _ _ _ _ _ _ _ _ _ _ _ T147 (mkF m 251 _ [(.int x0)])
      refine Done.step (T' := T147) (g' := (mkF m 262 #[.val (.int p0), .val (.int p1), .val (.int p2), .val (.int p3), .val (.int p4), .val (.int p5), .val (.double w0), .second, .val (.double w1), .second, .val (.double w2), .second, .val (.ref vb), .val (.int z13), .val (.int z14), .val (.int z15), .val (.int z16), .val (.int z17), .val (.ref ob), .val (.int (p4 &&& (2147483647 : Int32))), .val (.int (2 : Int32)), .val (.int cv), .val (.double wk), .second, .val (.ref b103), .val (.int x0), .unset, .unset, .unset, .unset, .unset, .unset, .unset] [(.int (1 : Int32)), (.ref ob)])) (fun t kk => ?_) ?_
      · show Steps p.tables e below (T147.setTop (mkF m 251 _ [(.int x0)])) t
        refine XS.istore P148.here P148.x rfl (hb hby at_251) rfl (l' := #[.val (.int p0), .val (.int p1), .val (.int p2), .val (.int p3), .val (.int p4), .val (.int p5), .val (.double w0), .second, .val (.double w1), .second, .val (.double w2), .second, .val (.ref vb), .val (.int z13), .val (.int z14), .val (.int z15), .val (.int z16), .val (.int z17), .val (.ref ob), .val (.int (p4 &&& (2147483647 : Int32))), .val (.int (2 : Int32)), .val (.int cv), .val (.double wk), .second, .val (.ref b103), .val (.int x0), .unset, .unset, .unset, .unset, .unset, .unset, .unset]) rfl ?_
        show Steps p.tables e below (T147.setTop (mkF m 253 _ [])) t
        refine XS.iload P148.here P148.x rfl (hb hby at_253) rfl ?_
        show Steps p.tables e below (T147.setTop (mkF m 255 _ [(.int (2 : Int32))])) t
        refine XS.iconst P148.here P148.x rfl (hb hby at_255) ?_
        show Steps p.tables e below (T147.setTop (mkF m 256 _ [(.int (2 : Int32)), (.int (2 : Int32))])) t
        refine XS.icmpNo P148.here P148.x rfl (hb hby at_256) rfl (iiW_lt_f (by decide)) ?_
        show Steps p.tables e below (T147.setTop (mkF m 259 _ [])) t
        refine XS.aload P148.here P148.x rfl (hb hby at_259) rfl rfl ?_
        show Steps p.tables e below (T147.setTop (mkF m 261 _ [(.ref ob)])) t
        refine XS.iconst P148.here P148.x rfl (hb hby at_261) ?_
        exact kk
      refine wIaload P148 f208 (j := (1 : Int32)) (i := 1) rfl (by decide) (v := (.int x1)) rfl (hb hby at_262) rfl ?_
      show Done _ _ _ _ _ _ _ _ _ _ _ _ _ _ _ T147 (mkF m 263 _ [(.int x1)])
      refine Done.stepL (pc' := 265) (st' := [(.int x0), (.int x1)]) (fun t kk => ?_) ?_
      · show Steps p.tables e below (T147.setTop (mkF m 263 _ [(.int x1)])) t
        refine XS.iload P148.here P148.x rfl (hb hby at_263) rfl ?_
        exact kk
      by_cases b1 : ¬ (x0 < x1)
      · refine Done.stepL (pc' := 295) (st' := []) (fun t kk => ?_) ?_
        · show Steps p.tables e below (T147.setTop (mkF m 265 _ [(.int x0), (.int x1)])) t
          refine XS.icmpYes P148.here P148.x rfl (pc0 := 265) (pc' := 274) rfl (hb hby at_265) rfl (iiW_le_t b1) (by decide) (by decide) ?_
          show Steps p.tables e below (T147.setTop (mkF m 274 _ [])) t
          refine XS.iload P148.here P148.x rfl (hb hby at_274) rfl ?_
          show Steps p.tables e below (T147.setTop (mkF m 276 _ [(.int (2 : Int32))])) t
          refine XS.iconst P148.here P148.x rfl (hb hby at_276) ?_
          show Steps p.tables e below (T147.setTop (mkF m 277 _ [(.int (3 : Int32)), (.int (2 : Int32))])) t
          refine XS.icmpYes P148.here P148.x rfl (pc0 := 277) (pc' := 295) rfl (hb hby at_277) rfl (iiW_lt_t (by decide)) (by decide) (by decide) ?_
          exact kk
        exact tail2 _ (by rw [if_neg b1])
      · refine Done.stepL (pc' := 271) (st' := [(.int (1 : Int32)), (.ref ob)]) (fun t kk => ?_) ?_
        · show Steps p.tables e below (T147.setTop (mkF m 265 _ [(.int x0), (.int x1)])) t
          refine XS.icmpNo P148.here P148.x rfl (hb hby at_265) rfl (iiW_le_f (show ¬ (¬ (x0 < x1)) from b1)) ?_
          show Steps p.tables e below (T147.setTop (mkF m 268 _ [])) t
          refine XS.aload P148.here P148.x rfl (hb hby at_268) rfl rfl ?_
          show Steps p.tables e below (T147.setTop (mkF m 270 _ [(.ref ob)])) t
          refine XS.iconst P148.here P148.x rfl (hb hby at_270) ?_
          exact kk
        refine wIaload P148 f208 (j := (1 : Int32)) (i := 1) rfl (by decide) (v := (.int x1)) rfl (hb hby at_271) rfl ?_
        show Done _ _ _ _ _ _ _ _ _ _ _ _ _ _ _ T147 (mkF m 272 _ [(.int x1)])
        refine Done.step (T' := T147) (g' := (mkF m 295 #[.val (.int p0), .val (.int p1), .val (.int p2), .val (.int p3), .val (.int p4), .val (.int p5), .val (.double w0), .second, .val (.double w1), .second, .val (.double w2), .second, .val (.ref vb), .val (.int z13), .val (.int z14), .val (.int z15), .val (.int z16), .val (.int z17), .val (.ref ob), .val (.int (p4 &&& (2147483647 : Int32))), .val (.int (2 : Int32)), .val (.int cv), .val (.double wk), .second, .val (.ref b103), .val (.int x1), .unset, .unset, .unset, .unset, .unset, .unset, .unset] [])) (fun t kk => ?_) ?_
        · show Steps p.tables e below (T147.setTop (mkF m 272 _ [(.int x1)])) t
          refine XS.istore P148.here P148.x rfl (hb hby at_272) rfl (l' := #[.val (.int p0), .val (.int p1), .val (.int p2), .val (.int p3), .val (.int p4), .val (.int p5), .val (.double w0), .second, .val (.double w1), .second, .val (.double w2), .second, .val (.ref vb), .val (.int z13), .val (.int z14), .val (.int z15), .val (.int z16), .val (.int z17), .val (.ref ob), .val (.int (p4 &&& (2147483647 : Int32))), .val (.int (2 : Int32)), .val (.int cv), .val (.double wk), .second, .val (.ref b103), .val (.int x1), .unset, .unset, .unset, .unset, .unset, .unset, .unset]) rfl ?_
          show Steps p.tables e below (T147.setTop (mkF m 274 _ [])) t
          refine XS.iload P148.here P148.x rfl (hb hby at_274) rfl ?_
          show Steps p.tables e below (T147.setTop (mkF m 276 _ [(.int (2 : Int32))])) t
          refine XS.iconst P148.here P148.x rfl (hb hby at_276) ?_
          show Steps p.tables e below (T147.setTop (mkF m 277 _ [(.int (3 : Int32)), (.int (2 : Int32))])) t
          refine XS.icmpYes P148.here P148.x rfl (pc0 := 277) (pc' := 295) rfl (hb hby at_277) rfl (iiW_lt_t (by decide)) (by decide) (by decide) ?_
          exact kk
        exact tail2 _ (by rw [if_pos (Decidable.not_not.mp b1)])
    · have hnN' : 3 ≤ N := by have e_ : (3 : Int32).toInt = 3 := (by decide); omega
      show Done _ _ _ _ _ _ _ _ _ _ _ _ _ _ _ T (mkF m 167 _ [])
      refine wNew P (tw3 hw) (tw4 hw) (tw5 hw) (hb hby at_167) rfl (by decide) (by decide) (k' := 3) (n' := 10) rfl rfl (fun T209 h211 b212 g213 lt214 P210 E215 X216 D217 => ?_)
      have ge_b212 : h0.size ≤ b212 := by have := P.ge; omega
      have F218 : Fld Z h211 b212 "com/example/urnwise/urnwise/sampler/SmallestKeys" "capacity" "I" (.int (0 : Int32)) := D217 (Or.inr (tw13 hw)) (ty := .int) (by decide)
      have F219 : Fld Z h211 b212 "com/example/urnwise/urnwise/sampler/SmallestKeys" "keys" "[D" .null := D217 (Or.inl (tw19 hw)) (ty := (.array .double)) (by decide)
      have F220 : Fld Z h211 b212 "com/example/urnwise/urnwise/sampler/SmallestKeys" "indices" "[I" .null := D217 (Or.inl (tw21 hw)) (ty := (.array .int)) (by decide)
      have F221 : Fld Z h211 b212 "com/example/urnwise/urnwise/sampler/SmallestKeys" "size" "I" (.int (0 : Int32)) := D217 (Or.inl (tw28 hw)) (ty := .int) (by decide)
      show Done _ _ _ _ _ _ _ _ _ _ _ _ _ _ _ T209 (mkF m 170 _ [(.ref b212)])
      refine Done.stepL (pc' := 173) (st' := [(.int cv), (.ref b212), (.ref b212)]) (fun t kk => ?_) ?_
      · show Steps p.tables e below (T209.setTop (mkF m 170 _ [(.ref b212)])) t
        refine XS.dup P210.here P210.x rfl (hb hby at_170) rfl rfl ?_
        show Steps p.tables e below (T209.setTop (mkF m 171 _ [(.ref b212), (.ref b212)])) t
        refine XS.iload P210.here P210.x rfl (hb hby at_171) rfl ?_
        exact kk
      refine wCallI P210 (m_hpInit l Z a0 hw b212 cv N h211 X216 F218 F219 F220 (own_min16 hcv (by omega)) (by omega) F221) rfl (tw6 hw) (tw7 hw) (tw5 hw) (tw8 hw) (by decide) (a := b212) (by rw [hml]; rfl) (lenOf pd_3 rfl) (argsL := [(.int cv)]) (rest := [(.ref b212)]) rfl rfl (W := 1) (Nat.le_of_eq rfl) (by decide) (by decide) (by decide) (by decide) (allS (Or.inr ge_b212) all0) (hb hby at_173) rfl (k' := 5) (n' := 42) rfl rfl ?_
      rintro T222 h237 _ P223 K238 ⟨rfl, b224, b225, q226, q227, q228, q229, q230, F231, F232, F233, F234, A235, A236⟩
      have szh237 : h211.size ≤ h237.size := K238.1
      have ge_b224 : h0.size ≤ b224 := by have := q226; have := P210.ge; omega
      have ge_b225 : h0.size ≤ b225 := by have := q227; have := P210.ge; omega
      have dK0 : ∀ i, i < N → DInt ((fun _ => (0 : Int)) i) ((fun _ => (0 : UInt64)) i) := fun i _ => dint_c0
      show Done _ _ _ _ _ _ _ _ _ _ _ _ _ _ _ T222 (mkF m 176 _ [(.ref b212)])
      refine Done.step (T' := T222) (g' := (mkF m 185 #[.val (.int p0), .val (.int p1), .val (.int p2), .val (.int p3), .val (.int p4), .val (.int p5), .val (.double w0), .second, .val (.double w1), .second, .val (.double w2), .second, .val (.ref vb), .val (.int z13), .val (.int z14), .val (.int z15), .val (.int z16), .val (.int z17), .val (.ref ob), .val (.int (p4 &&& (2147483647 : Int32))), .val (.int (3 : Int32)), .val (.int cv), .val (.double wk), .second, .val (.ref b212), .unset, .unset, .unset, .unset, .unset, .unset, .unset, .unset] [(.int (0 : Int32)), (.ref ob), (.ref vb), (.ref b212)])) (fun t kk => ?_) ?_
      · show Steps p.tables e below (T222.setTop (mkF m 176 _ [(.ref b212)])) t
        refine XS.astore P223.here P223.x rfl (hb hby at_176) rfl rfl (l' := #[.val (.int p0), .val (.int p1), .val (.int p2), .val (.int p3), .val (.int p4), .val (.int p5), .val (.double w0), .second, .val (.double w1), .second, .val (.double w2), .second, .val (.ref vb), .val (.int z13), .val (.int z14), .val (.int z15), .val (.int z16), .val (.int z17), .val (.ref ob), .val (.int (p4 &&& (2147483647 : Int32))), .val (.int (3 : Int32)), .val (.int cv), .val (.double wk), .second, .val (.ref b212), .unset, .unset, .unset, .unset, .unset, .unset, .unset, .unset]) rfl ?_
        show Steps p.tables e below (T222.setTop (mkF m 178 _ [])) t
        refine XS.aload P223.here P223.x rfl (hb hby at_178) rfl rfl ?_
        show Steps p.tables e below (T222.setTop (mkF m 180 _ [(.ref b212)])) t
        refine XS.aload P223.here P223.x rfl (hb hby at_180) rfl rfl ?_
        show Steps p.tables e below (T222.setTop (mkF m 182 _ [(.ref vb), (.ref b212)])) t
        refine XS.aload P223.here P223.x rfl (hb hby at_182) rfl rfl ?_
        show Steps p.tables e below (T222.setTop (mkF m 184 _ [(.ref ob), (.ref vb), (.ref b212)])) t
        refine XS.iconst P223.here P223.x rfl (hb hby at_184) ?_
        exact kk
      have f239 := ((Ao.ext E215).keep K238 (ninS (by first | assumption | exact Ne.symm (by assumption) | exact adr_ne (by omega) | omega) nin0))
      refine wIaload P223 f239 (j := (0 : Int32)) (i := 0) rfl (by decide) (v := (.int x0)) rfl (hb hby at_185) rfl ?_
      show Done _ _ _ _ _ _ _ _ _ _ _ _ _ _ _ T222 (mkF m 186 _ [(.int x0), (.ref vb), (.ref b212)])
      have f240 := ((Av.ext E215).keep K238 (ninS (by first | assumption | exact Ne.symm (by assumption) | exact adr_ne (by omega) | omega) nin0))
      refine wDaload P223 f240 (j := x0) (i := i0) hx0 hi0 (v := (.double ((oupd (oupd (oupd (fun _ => (0 : UInt64)) 0 w0) 1 w1) 2 w2) i0))) rfl (hb hby at_186) rfl ?_
      show Done _ _ _ _ _ _ _ _ _ _ _ _ _ _ _ T222 (mkF m 187 _ [(.double ((oupd (oupd (oupd (fun _ => (0 : UInt64)) 0 w0) 1 w1) 2 w2) i0)), (.ref b212)])
      refine Done.stepL (pc' := 192) (st' := [(.int (0 : Int32)), (.ref ob), (.int (100 : Int32)), (.double ((oupd (oupd (oupd (fun _ => (0 : UInt64)) 0 w0) 1 w1) 2 w2) i0)), (.ref b212)]) (fun t kk => ?_) ?_
      · show Steps p.tables e below (T222.setTop (mkF m 187 _ [(.double ((oupd (oupd (oupd (fun _ => (0 : UInt64)) 0 w0) 1 w1) 2 w2) i0)), (.ref b212)])) t
        refine XS.bipush P223.here P223.x rfl (hb hby at_187) ?_
        show Steps p.tables e below (T222.setTop (mkF m 189 _ [(.int (100 : Int32)), (.double ((oupd (oupd (oupd (fun _ => (0 : UInt64)) 0 w0) 1 w1) 2 w2) i0)), (.ref b212)])) t
        refine XS.aload P223.here P223.x rfl (hb hby at_189) rfl rfl ?_
        show Steps p.tables e below (T222.setTop (mkF m 191 _ [(.ref ob), (.int (100 : Int32)), (.double ((oupd (oupd (oupd (fun _ => (0 : UInt64)) 0 w0) 1 w1) 2 w2) i0)), (.ref b212)])) t
        refine XS.iconst P223.here P223.x rfl (hb hby at_191) ?_
        exact kk
      refine wIaload P223 f239 (j := (0 : Int32)) (i := 0) rfl (by decide) (v := (.int x0)) rfl (hb hby at_192) rfl ?_
      show Done _ _ _ _ _ _ _ _ _ _ _ _ _ _ _ T222 (mkF m 193 _ [(.int x0), (.int (100 : Int32)), (.double ((oupd (oupd (oupd (fun _ => (0 : UInt64)) 0 w0) 1 w1) 2 w2) i0)), (.ref b212)])
      refine Done.stepL (pc' := 194) (st' := [(.int ((100 : Int32) + x0)), (.double ((oupd (oupd (oupd (fun _ => (0 : UInt64)) 0 w0) 1 w1) 2 w2) i0)), (.ref b212)]) (fun t kk => ?_) ?_
      · show Steps p.tables e below (T222.setTop (mkF m 193 _ [(.int x0), (.int (100 : Int32)), (.double ((oupd (oupd (oupd (fun _ => (0 : UInt64)) 0 w0) 1 w1) 2 w2) i0)), (.ref b212)])) t
        refine XS.iadd P223.here P223.x rfl (hb hby at_193) rfl ?_
        exact kk
      have f251 := (X216.keep K238)
      refine wCallV P223 (m_offA l Z a0 hw b212 b224 b225 (0 : Int32) N 0 (fun _ => (0 : UInt64)) (fun _ => (0 : Int)) (fun _ => (0 : Int32)) cv ((oupd (oupd (oupd (fun _ => (0 : UInt64)) 0 w0) 1 w1) 2 w2) i0) ((100 : Int32) + x0) (own_sel V0 V1 V2 i0) (1 : Int32) h237 f251 F232 F233 F231 F234 A235 A236 (by first | assumption | exact Ne.symm (by assumption) | exact adr_ne (by omega)) (by first | assumption | exact Ne.symm (by assumption) | exact adr_ne (by omega)) q228 (by omega) rfl dK0 (own_ds E0 E1 E2 i0 hi0) ((own_lt' (i := 0) (by decide) hcv).mpr (by omega)) (by omega) (by decide)) (tw22 hw) (tw23 hw) (tw25 hw) (tw25 hw) (tw24 hw) (tw5 hw) (tw26 hw) (by decide) f251 (by rw [hml]; rfl) (lenOf pd_4 rfl) (argsL := [(.double ((oupd (oupd (oupd (fun _ => (0 : UInt64)) 0 w0) 1 w1) 2 w2) i0)), (.int ((100 : Int32) + x0))]) (rest := []) rfl rfl (W := 0) (Nat.le_of_eq rfl) (by decide) (by decide) (by decide) (by decide) (allS (Or.inr ge_b212) (allS (Or.inr ge_b224) (allS (Or.inr ge_b225) all0))) (hb hby at_194) rfl (k' := 5) (n' := 42) rfl rfl ?_
      rintro T241 h252 _ P242 K253 ⟨rfl, kf250, F243, F244, F245, F246, A247, dK249, A248⟩
      have szh252 : h237.size ≤ h252.size := K253.1
      generalize gK1 : (own_of 0 true (fun _ => (0 : Int)) (fun _ => (0 : Int32)) (own_sel V0 V1 V2 i0) ((100 : Int32) + x0)).1 = K1 at dK249
      generalize gJ1 : (own_of 0 true (fun _ => (0 : Int)) (fun _ => (0 : Int32)) (own_sel V0 V1 V2 i0) ((100 : Int32) + x0)).2 = J1 at A248
      show Done _ _ _ _ _ _ _ _ _ _ _ _ _ _ _ T241 (mkF m 197 _ [])
      refine Done.stepL (pc' := 210) (st' := [(.int (1 : Int32)), (.ref ob), (.ref vb), (.ref b212)]) (fun t kk => ?_) ?_
      · show Steps p.tables e below (T241.setTop (mkF m 197 _ [])) t
        refine XS.iload P242.here P242.x rfl (hb hby at_197) rfl ?_
        show Steps p.tables e below (T241.setTop (mkF m 199 _ [(.int (3 : Int32))])) t
        refine XS.iconst P242.here P242.x rfl (hb hby at_199) ?_
        show Steps p.tables e below (T241.setTop (mkF m 200 _ [(.int (2 : Int32)), (.int (3 : Int32))])) t
        refine XS.icmpNo P242.here P242.x rfl (hb hby at_200) rfl (iiW_lt_f (by decide)) ?_
        show Steps p.tables e below (T241.setTop (mkF m 203 _ [])) t
        refine XS.aload P242.here P242.x rfl (hb hby at_203) rfl rfl ?_
        show Steps p.tables e below (T241.setTop (mkF m 205 _ [(.ref b212)])) t
        refine XS.aload P242.here P242.x rfl (hb hby at_205) rfl rfl ?_
        show Steps p.tables e below (T241.setTop (mkF m 207 _ [(.ref vb), (.ref b212)])) t
        refine XS.aload P242.here P242.x rfl (hb hby at_207) rfl rfl ?_
        show Steps p.tables e below (T241.setTop (mkF m 209 _ [(.ref ob), (.ref vb), (.ref b212)])) t
        refine XS.iconst P242.here P242.x rfl (hb hby at_209) ?_
        exact kk
      have f254 := (f239.keep K253 (ninS (by first | assumption | exact Ne.symm (by assumption) | exact adr_ne (by omega) | omega) (ninS (by first | assumption | exact Ne.symm (by assumption) | exact adr_ne (by omega) | omega) (ninS (by first | assumption | exact Ne.symm (by assumption) | exact adr_ne (by omega) | omega) nin0))))
      refine wIaload P242 f254 (j := (1 : Int32)) (i := 1) rfl (by decide) (v := (.int x1)) rfl (hb hby at_210) rfl ?_
      show Done _ _ _ _ _ _ _ _ _ _ _ _ _ _ _ T241 (mkF m 211 _ [(.int x1), (.ref vb), (.ref b212)])
      have f255 := (f240.keep K253 (ninS (by first | assumption | exact Ne.symm (by assumption) | exact adr_ne (by omega) | omega) (ninS (by first | assumption | exact Ne.symm (by assumption) | exact adr_ne (by omega) | omega) (ninS (by first | assumption | exact Ne.symm (by assumption) | exact adr_ne (by omega) | omega) nin0))))
      refine wDaload P242 f255 (j := x1) (i := i1) hx1 hi1 (v := (.double ((oupd (oupd (oupd (fun _ => (0 : UInt64)) 0 w0) 1 w1) 2 w2) i1))) rfl (hb hby at_211) rfl ?_
      show Done _ _ _ _ _ _ _ _ _ _ _ _ _ _ _ T241 (mkF m 212 _ [(.double ((oupd (oupd (oupd (fun _ => (0 : UInt64)) 0 w0) 1 w1) 2 w2) i1)), (.ref b212)])
      refine Done.stepL (pc' := 217) (st' := [(.int (1 : Int32)), (.ref ob), (.int (100 : Int32)), (.double ((oupd (oupd (oupd (fun _ => (0 : UInt64)) 0 w0) 1 w1) 2 w2) i1)), (.ref b212)]) (fun t kk => ?_) ?_
      · show Steps p.tables e below (T241.setTop (mkF m 212 _ [(.double ((oupd (oupd (oupd (fun _ => (0 : UInt64)) 0 w0) 1 w1) 2 w2) i1)), (.ref b212)])) t
        refine XS.bipush P242.here P242.x rfl (hb hby at_212) ?_
        show Steps p.tables e below (T241.setTop (mkF m 214 _ [(.int (100 : Int32)), (.double ((oupd (oupd (oupd (fun _ => (0 : UInt64)) 0 w0) 1 w1) 2 w2) i1)), (.ref b212)])) t
        refine XS.aload P242.here P242.x rfl (hb hby at_214) rfl rfl ?_
        show Steps p.tables e below (T241.setTop (mkF m 216 _ [(.ref ob), (.int (100 : Int32)), (.double ((oupd (oupd (oupd (fun _ => (0 : UInt64)) 0 w0) 1 w1) 2 w2) i1)), (.ref b212)])) t
        refine XS.iconst P242.here P242.x rfl (hb hby at_216) ?_
        exact kk
      refine wIaload P242 f254 (j := (1 : Int32)) (i := 1) rfl (by decide) (v := (.int x1)) rfl (hb hby at_217) rfl ?_
      show Done _ _ _ _ _ _ _ _ _ _ _ _ _ _ _ T241 (mkF m 218 _ [(.int x1), (.int (100 : Int32)), (.double ((oupd (oupd (oupd (fun _ => (0 : UInt64)) 0 w0) 1 w1) 2 w2) i1)), (.ref b212)])
      refine Done.stepL (pc' := 219) (st' := [(.int ((100 : Int32) + x1)), (.double ((oupd (oupd (oupd (fun _ => (0 : UInt64)) 0 w0) 1 w1) 2 w2) i1)), (.ref b212)]) (fun t kk => ?_) ?_
      · show Steps p.tables e below (T241.setTop (mkF m 218 _ [(.int x1), (.int (100 : Int32)), (.double ((oupd (oupd (oupd (fun _ => (0 : UInt64)) 0 w0) 1 w1) 2 w2) i1)), (.ref b212)])) t
        refine XS.iadd P242.here P242.x rfl (hb hby at_218) rfl ?_
        exact kk
      have f266 := (f251.keep K253)
      refine wCallV P242 (m_offA l Z a0 hw b212 b224 b225 (1 : Int32) N 1 kf250 K1 J1 cv ((oupd (oupd (oupd (fun _ => (0 : UInt64)) 0 w0) 1 w1) 2 w2) i1) ((100 : Int32) + x1) (own_sel V0 V1 V2 i1) (2 : Int32) h252 f266 F244 F245 F243 F246 A247 A248 (by first | assumption | exact Ne.symm (by assumption) | exact adr_ne (by omega)) (by first | assumption | exact Ne.symm (by assumption) | exact adr_ne (by omega)) q228 (by omega) rfl dK249 (own_ds E0 E1 E2 i1 hi1) ((own_lt' (i := 1) (by decide) hcv).mpr (by omega)) (by omega) (by decide)) (tw22 hw) (tw23 hw) (tw25 hw) (tw25 hw) (tw24 hw) (tw5 hw) (tw26 hw) (by decide) f266 (by rw [hml]; rfl) (lenOf pd_4 rfl) (argsL := [(.double ((oupd (oupd (oupd (fun _ => (0 : UInt64)) 0 w0) 1 w1) 2 w2) i1)), (.int ((100 : Int32) + x1))]) (rest := []) rfl rfl (W := 0) (Nat.le_of_eq rfl) (by decide) (by decide) (by decide) (by decide) (allS (Or.inr ge_b212) (allS (Or.inr ge_b224) (allS (Or.inr ge_b225) all0))) (hb hby at_219) rfl (k' := 5) (n' := 42) rfl rfl ?_
      rintro T256 h267 _ P257 K268 ⟨rfl, kf265, F258, F259, F260, F261, A262, dK264, A263⟩
      have szh267 : h252.size ≤ h267.size := K268.1
      generalize gK2 : (own_of 1 true K1 J1 (own_sel V0 V1 V2 i1) ((100 : Int32) + x1)).1 = K2 at dK264
      generalize gJ2 : (own_of 1 true K1 J1 (own_sel V0 V1 V2 i1) ((100 : Int32) + x1)).2 = J2 at A263
      show Done _ _ _ _ _ _ _ _ _ _ _ _ _ _ _ T256 (mkF m 222 _ [])
      refine Done.stepL (pc' := 235) (st' := [(.int (2 : Int32)), (.ref ob), (.ref vb), (.ref b212)]) (fun t kk => ?_) ?_
      · show Steps p.tables e below (T256.setTop (mkF m 222 _ [])) t
        refine XS.iload P257.here P257.x rfl (hb hby at_222) rfl ?_
        show Steps p.tables e below (T256.setTop (mkF m 224 _ [(.int (3 : Int32))])) t
        refine XS.iconst P257.here P257.x rfl (hb hby at_224) ?_
        show Steps p.tables e below (T256.setTop (mkF m 225 _ [(.int (3 : Int32)), (.int (3 : Int32))])) t
        refine XS.icmpNo P257.here P257.x rfl (hb hby at_225) rfl (iiW_lt_f (by decide)) ?_
        show Steps p.tables e below (T256.setTop (mkF m 228 _ [])) t
        refine XS.aload P257.here P257.x rfl (hb hby at_228) rfl rfl ?_
        show Steps p.tables e below (T256.setTop (mkF m 230 _ [(.ref b212)])) t
        refine XS.aload P257.here P257.x rfl (hb hby at_230) rfl rfl ?_
        show Steps p.tables e below (T256.setTop (mkF m 232 _ [(.ref vb), (.ref b212)])) t
        refine XS.aload P257.here P257.x rfl (hb hby at_232) rfl rfl ?_
        show Steps p.tables e below (T256.setTop (mkF m 234 _ [(.ref ob), (.ref vb), (.ref b212)])) t
        refine XS.iconst P257.here P257.x rfl (hb hby at_234) ?_
        exact kk
      have f269 := (f254.keep K268 (ninS (by first | assumption | exact Ne.symm (by assumption) | exact adr_ne (by omega) | omega) (ninS (by first | assumption | exact Ne.symm (by assumption) | exact adr_ne (by omega) | omega) (ninS (by first | assumption | exact Ne.symm (by assumption) | exact adr_ne (by omega) | omega) nin0))))
      refine wIaload P257 f269 (j := (2 : Int32)) (i := 2) rfl (by decide) (v := (.int x2)) rfl (hb hby at_235) rfl ?_
      show Done _ _ _ _ _ _ _ _ _ _ _ _ _ _ _ T256 (mkF m 236 _ [(.int x2), (.ref vb), (.ref b212)])
      have f270 := (f255.keep K268 (ninS (by first | assumption | exact Ne.symm (by assumption) | exact adr_ne (by omega) | omega) (ninS (by first | assumption | exact Ne.symm (by assumption) | exact adr_ne (by omega) | omega) (ninS (by first | assumption | exact Ne.symm (by assumption) | exact adr_ne (by omega) | omega) nin0))))
      refine wDaload P257 f270 (j := x2) (i := i2) hx2 hi2 (v := (.double ((oupd (oupd (oupd (fun _ => (0 : UInt64)) 0 w0) 1 w1) 2 w2) i2))) rfl (hb hby at_236) rfl ?_
      show Done _ _ _ _ _ _ _ _ _ _ _ _ _ _ _ T256 (mkF m 237 _ [(.double ((oupd (oupd (oupd (fun _ => (0 : UInt64)) 0 w0) 1 w1) 2 w2) i2)), (.ref b212)])
      refine Done.stepL (pc' := 242) (st' := [(.int (2 : Int32)), (.ref ob), (.int (100 : Int32)), (.double ((oupd (oupd (oupd (fun _ => (0 : UInt64)) 0 w0) 1 w1) 2 w2) i2)), (.ref b212)]) (fun t kk => ?_) ?_
      · show Steps p.tables e below (T256.setTop (mkF m 237 _ [(.double ((oupd (oupd (oupd (fun _ => (0 : UInt64)) 0 w0) 1 w1) 2 w2) i2)), (.ref b212)])) t
        refine XS.bipush P257.here P257.x rfl (hb hby at_237) ?_
        show Steps p.tables e below (T256.setTop (mkF m 239 _ [(.int (100 : Int32)), (.double ((oupd (oupd (oupd (fun _ => (0 : UInt64)) 0 w0) 1 w1) 2 w2) i2)), (.ref b212)])) t
        refine XS.aload P257.here P257.x rfl (hb hby at_239) rfl rfl ?_
        show Steps p.tables e below (T256.setTop (mkF m 241 _ [(.ref ob), (.int (100 : Int32)), (.double ((oupd (oupd (oupd (fun _ => (0 : UInt64)) 0 w0) 1 w1) 2 w2) i2)), (.ref b212)])) t
        refine XS.iconst P257.here P257.x rfl (hb hby at_241) ?_
        exact kk
      refine wIaload P257 f269 (j := (2 : Int32)) (i := 2) rfl (by decide) (v := (.int x2)) rfl (hb hby at_242) rfl ?_
      show Done _ _ _ _ _ _ _ _ _ _ _ _ _ _ _ T256 (mkF m 243 _ [(.int x2), (.int (100 : Int32)), (.double ((oupd (oupd (oupd (fun _ => (0 : UInt64)) 0 w0) 1 w1) 2 w2) i2)), (.ref b212)])
      refine Done.stepL (pc' := 244) (st' := [(.int ((100 : Int32) + x2)), (.double ((oupd (oupd (oupd (fun _ => (0 : UInt64)) 0 w0) 1 w1) 2 w2) i2)), (.ref b212)]) (fun t kk => ?_) ?_
      · show Steps p.tables e below (T256.setTop (mkF m 243 _ [(.int x2), (.int (100 : Int32)), (.double ((oupd (oupd (oupd (fun _ => (0 : UInt64)) 0 w0) 1 w1) 2 w2) i2)), (.ref b212)])) t
        refine XS.iadd P257.here P257.x rfl (hb hby at_243) rfl ?_
        exact kk
      have f281 := (f266.keep K268)
      refine wCallV P257 (m_offA l Z a0 hw b212 b224 b225 (2 : Int32) N 2 kf265 K2 J2 cv ((oupd (oupd (oupd (fun _ => (0 : UInt64)) 0 w0) 1 w1) 2 w2) i2) ((100 : Int32) + x2) (own_sel V0 V1 V2 i2) (3 : Int32) h267 f281 F259 F260 F258 F261 A262 A263 (by first | assumption | exact Ne.symm (by assumption) | exact adr_ne (by omega)) (by first | assumption | exact Ne.symm (by assumption) | exact adr_ne (by omega)) q228 (by omega) rfl dK264 (own_ds E0 E1 E2 i2 hi2) ((own_lt' (i := 2) (by decide) hcv).mpr (by omega)) (by omega) (by decide)) (tw22 hw) (tw23 hw) (tw25 hw) (tw25 hw) (tw24 hw) (tw5 hw) (tw26 hw) (by decide) f281 (by rw [hml]; rfl) (lenOf pd_4 rfl) (argsL := [(.double ((oupd (oupd (oupd (fun _ => (0 : UInt64)) 0 w0) 1 w1) 2 w2) i2)), (.int ((100 : Int32) + x2))]) (rest := []) rfl rfl (W := 0) (Nat.le_of_eq rfl) (by decide) (by decide) (by decide) (by decide) (allS (Or.inr ge_b212) (allS (Or.inr ge_b224) (allS (Or.inr ge_b225) all0))) (hb hby at_244) rfl (k' := 5) (n' := 42) rfl rfl ?_
      rintro T271 h282 _ P272 K283 ⟨rfl, kf280, F273, F274, F275, F276, A277, dK279, A278⟩
      have szh282 : h267.size ≤ h282.size := K283.1
      generalize gK3 : (own_of 2 true K2 J2 (own_sel V0 V1 V2 i2) ((100 : Int32) + x2)).1 = K3 at dK279
      generalize gJ3 : (own_of 2 true K2 J2 (own_sel V0 V1 V2 i2) ((100 : Int32) + x2)).2 = J3 at A278
      show Done _ _ _ _ _ _ _ _ _ _ _ _ _ _ _ T271 (mkF m 247 _ [])
      have tail2 : ∀ (mo : Int32), mo = (if (if x0 < x1 then x1 else x0) < x2 then x2 else (if x0 < x1 then x1 else x0)) → Done p l e room_1 s m #[(.int p0), (.int p1), (.int p2), (.int p3), (.int p4), (.int p5)] below meth c Z "com/example/urnwise/urnwise/sampler/SmallestKeysReplaceLargestKeyPinLaw" [] h0.size (fun v h' => v = some (.int 1)) T271 (mkF m 295 #[.val (.int p0), .val (.int p1), .val (.int p2), .val (.int p3), .val (.int p4), .val (.int p5), .val (.double w0), .second, .val (.double w1), .second, .val (.double w2), .second, .val (.ref vb), .val (.int z13), .val (.int z14), .val (.int z15), .val (.int z16), .val (.int z17), .val (.ref ob), .val (.int (p4 &&& (2147483647 : Int32))), .val (.int (3 : Int32)), .val (.int cv), .val (.double wk), .second, .val (.ref b212), .val (.int mo), .unset, .unset, .unset, .unset, .unset, .unset, .unset] []) := by
        intro mo hmo
        refine Done.step (T' := T271) (g' := (mkF m 299 #[.val (.int p0), .val (.int p1), .val (.int p2), .val (.int p3), .val (.int p4), .val (.int p5), .val (.double w0), .second, .val (.double w1), .second, .val (.double w2), .second, .val (.ref vb), .val (.int z13), .val (.int z14), .val (.int z15), .val (.int z16), .val (.int z17), .val (.ref ob), .val (.int (p4 &&& (2147483647 : Int32))), .val (.int (3 : Int32)), .val (.int cv), .val (.double wk), .second, .val (.ref b212), .val (.int mo), .val (.double wk), .second, .unset, .unset, .unset, .unset, .unset] [])) (fun t kk => ?_) ?_
        · show Steps p.tables e below (T271.setTop (mkF m 295 _ [])) t
          refine XS.dload P272.here P272.x rfl (hb hby at_295) rfl ?_
          show Steps p.tables e below (T271.setTop (mkF m 297 _ [(.double wk)])) t
          refine XS.dstore P272.here P272.x rfl (hb hby at_297) rfl (l' := #[.val (.int p0), .val (.int p1), .val (.int p2), .val (.int p3), .val (.int p4), .val (.int p5), .val (.double w0), .second, .val (.double w1), .second, .val (.double w2), .second, .val (.ref vb), .val (.int z13), .val (.int z14), .val (.int z15), .val (.int z16), .val (.int z17), .val (.ref ob), .val (.int (p4 &&& (2147483647 : Int32))), .val (.int (3 : Int32)), .val (.int cv), .val (.double wk), .second, .val (.ref b212), .val (.int mo), .val (.double wk), .second, .unset, .unset, .unset, .unset, .unset]) rfl ?_
          exact kk
        have t330 : ∀ (M1 : Int) (m1 : UInt64), DInt M1 m1 → M1 = (if x0 = mo then p5.toInt else (if p5.toInt < (own_sel V0 V1 V2 i0) then (own_sel V0 V1 V2 i0) else p5.toInt)) → Done p l e room_1 s m #[(.int p0), (.int p1), (.int p2), (.int p3), (.int p4), (.int p5)] below meth c Z "com/example/urnwise/urnwise/sampler/SmallestKeysReplaceLargestKeyPinLaw" [] h0.size (fun v h' => v = some (.int 1)) T271 (mkF m 330 #[.val (.int p0), .val (.int p1), .val (.int p2), .val (.int p3), .val (.int p4), .val (.int p5), .val (.double w0), .second, .val (.double w1), .second, .val (.double w2), .second, .val (.ref vb), .val (.int z13), .val (.int z14), .val (.int z15), .val (.int z16), .val (.int z17), .val (.ref ob), .val (.int (p4 &&& (2147483647 : Int32))), .val (.int (3 : Int32)), .val (.int cv), .val (.double wk), .second, .val (.ref b212), .val (.int mo), .val (.double m1), .second, .unset, .unset, .unset, .unset, .unset] []) := by
          intro M1 m1 D1 hM1
          refine Done.stepL (pc' := 336) (st' := []) (fun t kk => ?_) ?_
          · show Steps p.tables e below (T271.setTop (mkF m 330 _ [])) t
            refine XS.iload P272.here P272.x rfl (hb hby at_330) rfl ?_
            show Steps p.tables e below (T271.setTop (mkF m 332 _ [(.int (3 : Int32))])) t
            refine XS.iconst P272.here P272.x rfl (hb hby at_332) ?_
            show Steps p.tables e below (T271.setTop (mkF m 333 _ [(.int (2 : Int32)), (.int (3 : Int32))])) t
            refine XS.icmpNo P272.here P272.x rfl (hb hby at_333) rfl (iiW_lt_f (by decide)) ?_
            exact kk
          have t367 : ∀ (M2 : Int) (m2 : UInt64), DInt M2 m2 → M2 = (if x1 = mo then M1 else (if M1 < (own_sel V0 V1 V2 i1) then (own_sel V0 V1 V2 i1) else M1)) → Done p l e room_1 s m #[(.int p0), (.int p1), (.int p2), (.int p3), (.int p4), (.int p5)] below meth c Z "com/example/urnwise/urnwise/sampler/SmallestKeysReplaceLargestKeyPinLaw" [] h0.size (fun v h' => v = some (.int 1)) T271 (mkF m 367 #[.val (.int p0), .val (.int p1), .val (.int p2), .val (.int p3), .val (.int p4), .val (.int p5), .val (.double w0), .second, .val (.double w1), .second, .val (.double w2), .second, .val (.ref vb), .val (.int z13), .val (.int z14), .val (.int z15), .val (.int z16), .val (.int z17), .val (.ref ob), .val (.int (p4 &&& (2147483647 : Int32))), .val (.int (3 : Int32)), .val (.int cv), .val (.double wk), .second, .val (.ref b212), .val (.int mo), .val (.double m2), .second, .unset, .unset, .unset, .unset, .unset] []) := by
            intro M2 m2 D2 hM2
            refine Done.stepL (pc' := 373) (st' := []) (fun t kk => ?_) ?_
            · show Steps p.tables e below (T271.setTop (mkF m 367 _ [])) t
              refine XS.iload P272.here P272.x rfl (hb hby at_367) rfl ?_
              show Steps p.tables e below (T271.setTop (mkF m 369 _ [(.int (3 : Int32))])) t
              refine XS.iconst P272.here P272.x rfl (hb hby at_369) ?_
              show Steps p.tables e below (T271.setTop (mkF m 370 _ [(.int (3 : Int32)), (.int (3 : Int32))])) t
              refine XS.icmpNo P272.here P272.x rfl (hb hby at_370) rfl (iiW_lt_f (by decide)) ?_
              exact kk
            have t404 : ∀ (M3 : Int) (m3 : UInt64), DInt M3 m3 → M3 = (if x2 = mo then M2 else (if M2 < (own_sel V0 V1 V2 i2) then (own_sel V0 V1 V2 i2) else M2)) → Done p l e room_1 s m #[(.int p0), (.int p1), (.int p2), (.int p3), (.int p4), (.int p5)] below meth c Z "com/example/urnwise/urnwise/sampler/SmallestKeysReplaceLargestKeyPinLaw" [] h0.size (fun v h' => v = some (.int 1)) T271 (mkF m 404 #[.val (.int p0), .val (.int p1), .val (.int p2), .val (.int p3), .val (.int p4), .val (.int p5), .val (.double w0), .second, .val (.double w1), .second, .val (.double w2), .second, .val (.ref vb), .val (.int z13), .val (.int z14), .val (.int z15), .val (.int z16), .val (.int z17), .val (.ref ob), .val (.int (p4 &&& (2147483647 : Int32))), .val (.int (3 : Int32)), .val (.int cv), .val (.double wk), .second, .val (.ref b212), .val (.int mo), .val (.double m3), .second, .unset, .unset, .unset, .unset, .unset] []) := by
              intro M3 m3 D3 hM3
              obtain ⟨hrt, hmx, hord⟩ := own_fin_3 x0 x1 x2 mo (own_sel V0 V1 V2 i0) (own_sel V0 V1 V2 i1) (own_sel V0 V1 V2 i2) p5.toInt (own_oiff hv01 hv12 hx0 hx1 hi0 hi1) (own_yne hv01 hv12 hi0 hi1 pm01) (own_xne hx0 hx1 pm01) (own_oiff hv01 hv12 hx0 hx2 hi0 hi2) (own_yne hv01 hv12 hi0 hi2 pm02) (own_xne hx0 hx2 pm02) (own_oiff hv01 hv12 hx1 hx2 hi1 hi2) (own_yne hv01 hv12 hi1 hi2 pm12) (own_xne hx1 hx2 pm12) hmo M1 M2 M3 hM1 hM2 hM3 K1 J1 gK1 gJ1 K2 J2 gK2 gJ2 K3 J3 gK3 gJ3
              refine Done.stepL (pc' := 408) (st' := [(.double wk), (.ref b212)]) (fun t kk => ?_) ?_
              · show Steps p.tables e below (T271.setTop (mkF m 404 _ [])) t
                refine XS.aload P272.here P272.x rfl (hb hby at_404) rfl rfl ?_
                show Steps p.tables e below (T271.setTop (mkF m 406 _ [(.ref b212)])) t
                refine XS.dload P272.here P272.x rfl (hb hby at_406) rfl ?_
                exact kk
              have f290 := (f281.keep K283)
              refine wCallV P272 (m_rlk l Z a0 hw b212 b224 b225 (3 : Int32) N 3 kf280 K3 J3 cv wk p5.toInt h282 f290 F274 F275 F273 F276 A277 A278 (by first | assumption | exact Ne.symm (by assumption) | exact adr_ne (by omega)) (by first | assumption | exact Ne.symm (by assumption) | exact adr_ne (by omega)) q228 (by omega) rfl dK279 Dk (by decide) (by omega)) (tw33 hw) (tw34 hw) (tw36 hw) (tw36 hw) (tw35 hw) (tw5 hw) (tw37 hw) (by decide) f290 (by rw [hml]; rfl) (lenOf pd_5 rfl) (argsL := [(.double wk)]) (rest := []) rfl rfl (W := 0) (Nat.le_of_eq rfl) (by decide) (by decide) (by decide) (by decide) (allS (Or.inr ge_b224) (allS (Or.inr ge_b225) all0)) (hb hby at_408) rfl (k' := 5) (n' := 42) rfl rfl ?_
              rintro T284 h291 _ P285 K292 ⟨rfl, kf289, A286, dK288, A287⟩
              have szh291 : h282.size ≤ h291.size := K292.1
              generalize gKr : (own_dn 3 3 K3 J3 0 p5.toInt (J3 0)).1 = Kr at dK288
              generalize gJr : (own_dn 3 3 K3 J3 0 p5.toInt (J3 0)).2 = Jr at A287
              show Done _ _ _ _ _ _ _ _ _ _ _ _ _ _ _ T284 (mkF m 411 _ [(.int (J3 0))])
              refine Done.step (T' := T284) (g' := (mkF m 427 #[.val (.int p0), .val (.int p1), .val (.int p2), .val (.int p3), .val (.int p4), .val (.int p5), .val (.double w0), .second, .val (.double w1), .second, .val (.double w2), .second, .val (.ref vb), .val (.int z13), .val (.int z14), .val (.int z15), .val (.int z16), .val (.int z17), .val (.ref ob), .val (.int (p4 &&& (2147483647 : Int32))), .val (.int (3 : Int32)), .val (.int cv), .val (.double wk), .second, .val (.ref b212), .val (.int mo), .val (.double m3), .second, .val (.int (J3 0)), .unset, .unset, .unset, .unset] [(.ref b212)])) (fun t kk => ?_) ?_
              · show Steps p.tables e below (T284.setTop (mkF m 411 _ [(.int (J3 0))])) t
                refine XS.istore P285.here P285.x rfl (hb hby at_411) rfl (l' := #[.val (.int p0), .val (.int p1), .val (.int p2), .val (.int p3), .val (.int p4), .val (.int p5), .val (.double w0), .second, .val (.double w1), .second, .val (.double w2), .second, .val (.ref vb), .val (.int z13), .val (.int z14), .val (.int z15), .val (.int z16), .val (.int z17), .val (.ref ob), .val (.int (p4 &&& (2147483647 : Int32))), .val (.int (3 : Int32)), .val (.int cv), .val (.double wk), .second, .val (.ref b212), .val (.int mo), .val (.double m3), .second, .val (.int (J3 0)), .unset, .unset, .unset, .unset]) rfl ?_
                show Steps p.tables e below (T284.setTop (mkF m 413 _ [])) t
                refine XS.iload P285.here P285.x rfl (hb hby at_413) rfl ?_
                show Steps p.tables e below (T284.setTop (mkF m 415 _ [(.int (J3 0))])) t
                refine XS.bipush P285.here P285.x rfl (hb hby at_415) ?_
                show Steps p.tables e below (T284.setTop (mkF m 417 _ [(.int (100 : Int32)), (.int (J3 0))])) t
                refine XS.iload P285.here P285.x rfl (hb hby at_417) rfl ?_
                show Steps p.tables e below (T284.setTop (mkF m 419 _ [(.int mo), (.int (100 : Int32)), (.int (J3 0))])) t
                refine XS.iadd P285.here P285.x rfl (hb hby at_419) rfl ?_
                show Steps p.tables e below (T284.setTop (mkF m 420 _ [(.int ((100 : Int32) + mo)), (.int (J3 0))])) t
                refine XS.icmpYes P285.here P285.x rfl (pc0 := 420) (pc' := 425) rfl (hb hby at_420) rfl (iiW_eq_t hrt) (by decide) (by decide) ?_
                show Steps p.tables e below (T284.setTop (mkF m 425 _ [])) t
                refine XS.aload P285.here P285.x rfl (hb hby at_425) rfl rfl ?_
                exact kk
              have f295 := (F273.keep K292 (ninS (by first | assumption | exact Ne.symm (by assumption) | exact adr_ne (by omega) | omega) (ninS (by first | assumption | exact Ne.symm (by assumption) | exact adr_ne (by omega) | omega) nin0)))
              have f296 := (f290.keep K292)
              refine wCallV P285 (m_size l Z a0 hw b212 (3 : Int32) h291 f295) (tw42 hw) (tw43 hw) (tw45 hw) (tw45 hw) (tw44 hw) (tw5 hw) (tw46 hw) (by decide) f296 (by rw [hml]; rfl) (lenOf pd_2 rfl) (argsL := []) (rest := []) rfl rfl (W := 0) (Nat.le_of_eq rfl) (by decide) (by decide) (by decide) (by decide) (by simp) (hb hby at_427) rfl (k' := 5) (n' := 42) rfl rfl ?_
              rintro T293 _ _ P294 - ⟨rfl, rfl⟩
              show Done _ _ _ _ _ _ _ _ _ _ _ _ _ _ _ T293 (mkF m 430 _ [(.int (3 : Int32))])
              refine Done.stepL (pc' := 439) (st' := [(.ref b212)]) (fun t kk => ?_) ?_
              · show Steps p.tables e below (T293.setTop (mkF m 430 _ [(.int (3 : Int32))])) t
                refine XS.iload P294.here P294.x rfl (hb hby at_430) rfl ?_
                show Steps p.tables e below (T293.setTop (mkF m 432 _ [(.int (3 : Int32)), (.int (3 : Int32))])) t
                refine XS.icmpYes P294.here P294.x rfl (pc0 := 432) (pc' := 437) rfl (hb hby at_432) rfl (iiW_eq_t (by decide)) (by decide) (by decide) ?_
                show Steps p.tables e below (T293.setTop (mkF m 437 _ [])) t
                refine XS.aload P294.here P294.x rfl (hb hby at_437) rfl rfl ?_
                exact kk
              have f299 := (F274.keep K292 (ninS (by first | assumption | exact Ne.symm (by assumption) | exact adr_ne (by omega) | omega) (ninS (by first | assumption | exact Ne.symm (by assumption) | exact adr_ne (by omega) | omega) nin0)))
              refine wCallV P294 (m_lky l Z a0 hw b212 b224 N kf289 h291 f299 A286 (by omega)) (tw47 hw) (tw48 hw) (tw50 hw) (tw50 hw) (tw49 hw) (tw5 hw) (tw51 hw) (by decide) f296 (by rw [hml]; rfl) (lenOf pd_6 rfl) (argsL := []) (rest := []) rfl rfl (W := 0) (Nat.le_of_eq rfl) (by decide) (by decide) (by decide) (by decide) (by simp) (hb hby at_439) rfl (k' := 5) (n' := 42) rfl rfl ?_
              rintro T297 _ _ P298 - ⟨rfl, rfl⟩
              show Done _ _ _ _ _ _ _ _ _ _ _ _ _ _ _ T297 (mkF m 442 _ [(.double (kf289 0))])
              refine Done.stepL (pc' := 452) (st' := [(.ref b212)]) (fun t kk => ?_) ?_
              · show Steps p.tables e below (T297.setTop (mkF m 442 _ [(.double (kf289 0))])) t
                refine XS.dload P298.here P298.x rfl (hb hby at_442) rfl ?_
                show Steps p.tables e below (T297.setTop (mkF m 444 _ [(.double m3), (.double (kf289 0))])) t
                refine XS.dcmpS P298.here P298.x rfl (hb hby at_444) rfl (dcmpZ (dK288 0 (by omega)) D3) ?_
                show Steps p.tables e below (T297.setTop (mkF m 445 _ [(.int (cmpZ (Kr 0) M3))])) t
                refine XS.ifYes P298.here P298.x rfl (pc0 := 445) (pc' := 450) rfl (hb hby at_445) rfl (ciW_eq_t (show Kr 0 = M3 from by rw [← gKr]; exact hmx)) (by decide) (by decide) ?_
                show Steps p.tables e below (T297.setTop (mkF m 450 _ [])) t
                refine XS.aload P298.here P298.x rfl (hb hby at_450) rfl rfl ?_
                exact kk
              have f304 := (F275.keep K292 (ninS (by first | assumption | exact Ne.symm (by assumption) | exact adr_ne (by omega) | omega) (ninS (by first | assumption | exact Ne.symm (by assumption) | exact adr_ne (by omega) | omega) nin0)))
              have f305 := (F276.keep K292 (ninS (by first | assumption | exact Ne.symm (by assumption) | exact adr_ne (by omega) | omega) (ninS (by first | assumption | exact Ne.symm (by assumption) | exact adr_ne (by omega) | omega) nin0)))
              refine wCallV P298 (m_ra l Z a0 hw b212 b224 b225 (3 : Int32) N 3 kf289 Kr Jr cv h291 f296 f299 f304 f295 f305 A286 A287 (by first | assumption | exact Ne.symm (by assumption) | exact adr_ne (by omega)) (by first | assumption | exact Ne.symm (by assumption) | exact adr_ne (by omega)) q228 (by omega) rfl dK288 (by omega) (by decide)) (tw52 hw) (tw53 hw) (tw55 hw) (tw55 hw) (tw54 hw) (tw5 hw) (tw56 hw) (by decide) f296 (by rw [hml]; rfl) (lenOf pd_7 rfl) (argsL := []) (rest := []) rfl rfl (W := 0) (Nat.le_of_eq rfl) (by decide) (by decide) (by decide) (by decide) (allS (Or.inr ge_b212) (allS (Or.inr ge_b224) (allS (Or.inr ge_b225) all0))) (hb hby at_452) rfl (k' := 6) (n' := 46) rfl rfl ?_
              rintro T300 h306 _ P301 K307 ⟨rr, of, rfl, ltr, F303, A302, hof⟩
              have szh306 : h291.size ≤ h306.size := K307.1
              show Done _ _ _ _ _ _ _ _ _ _ _ _ _ _ _ T300 (mkF m 455 _ [(.ref rr)])
              refine Done.step (T' := T300) (g' := (mkF m 459 #[.val (.int p0), .val (.int p1), .val (.int p2), .val (.int p3), .val (.int p4), .val (.int p5), .val (.double w0), .second, .val (.double w1), .second, .val (.double w2), .second, .val (.ref vb), .val (.int z13), .val (.int z14), .val (.int z15), .val (.int z16), .val (.int z17), .val (.ref ob), .val (.int (p4 &&& (2147483647 : Int32))), .val (.int (3 : Int32)), .val (.int cv), .val (.double wk), .second, .val (.ref b212), .val (.int mo), .val (.double m3), .second, .val (.int (J3 0)), .val (.ref rr), .unset, .unset, .unset] [(.ref rr)])) (fun t kk => ?_) ?_
              · show Steps p.tables e below (T300.setTop (mkF m 455 _ [(.ref rr)])) t
                refine XS.astore P301.here P301.x rfl (hb hby at_455) rfl rfl (l' := #[.val (.int p0), .val (.int p1), .val (.int p2), .val (.int p3), .val (.int p4), .val (.int p5), .val (.double w0), .second, .val (.double w1), .second, .val (.double w2), .second, .val (.ref vb), .val (.int z13), .val (.int z14), .val (.int z15), .val (.int z16), .val (.int z17), .val (.ref ob), .val (.int (p4 &&& (2147483647 : Int32))), .val (.int (3 : Int32)), .val (.int cv), .val (.double wk), .second, .val (.ref b212), .val (.int mo), .val (.double m3), .second, .val (.int (J3 0)), .val (.ref rr), .unset, .unset, .unset]) rfl ?_
                show Steps p.tables e below (T300.setTop (mkF m 457 _ [])) t
                refine XS.aload P301.here P301.x rfl (hb hby at_457) rfl rfl ?_
                exact kk
              refine wLen P301 A302 (z := (3 : Int32)) rfl (hb hby at_459) rfl ?_
              show Done _ _ _ _ _ _ _ _ _ _ _ _ _ _ _ T300 (mkF m 460 _ [(.int (3 : Int32))])
              refine Done.stepL (pc' := 470) (st' := [(.int (0 : Int32)), (.ref rr)]) (fun t kk => ?_) ?_
              · show Steps p.tables e below (T300.setTop (mkF m 460 _ [(.int (3 : Int32))])) t
                refine XS.iload P301.here P301.x rfl (hb hby at_460) rfl ?_
                show Steps p.tables e below (T300.setTop (mkF m 462 _ [(.int (3 : Int32)), (.int (3 : Int32))])) t
                refine XS.icmpYes P301.here P301.x rfl (pc0 := 462) (pc' := 467) rfl (hb hby at_462) rfl (iiW_eq_t (by decide)) (by decide) (by decide) ?_
                show Steps p.tables e below (T300.setTop (mkF m 467 _ [])) t
                refine XS.aload P301.here P301.x rfl (hb hby at_467) rfl rfl ?_
                show Steps p.tables e below (T300.setTop (mkF m 469 _ [(.ref rr)])) t
                refine XS.iconst P301.here P301.x rfl (hb hby at_469) ?_
                exact kk
              refine wIaload P301 A302 (j := (0 : Int32)) (i := 0) rfl (by decide) (v := (.int (of 0))) rfl (hb hby at_470) rfl ?_
              show Done _ _ _ _ _ _ _ _ _ _ _ _ _ _ _ T300 (mkF m 471 _ [(.int (of 0))])
              refine Done.step (T' := T300) (g' := (mkF m 482 #[.val (.int p0), .val (.int p1), .val (.int p2), .val (.int p3), .val (.int p4), .val (.int p5), .val (.double w0), .second, .val (.double w1), .second, .val (.double w2), .second, .val (.ref vb), .val (.int z13), .val (.int z14), .val (.int z15), .val (.int z16), .val (.int z17), .val (.ref ob), .val (.int (p4 &&& (2147483647 : Int32))), .val (.int (3 : Int32)), .val (.int cv), .val (.double wk), .second, .val (.ref b212), .val (.int mo), .val (.double m3), .second, .val (.int (J3 0)), .val (.ref rr), .val (.int (of 0)), .unset, .unset] [(.int (1 : Int32)), (.ref rr)])) (fun t kk => ?_) ?_
              · show Steps p.tables e below (T300.setTop (mkF m 471 _ [(.int (of 0))])) t
                refine XS.istore P301.here P301.x rfl (hb hby at_471) rfl (l' := #[.val (.int p0), .val (.int p1), .val (.int p2), .val (.int p3), .val (.int p4), .val (.int p5), .val (.double w0), .second, .val (.double w1), .second, .val (.double w2), .second, .val (.ref vb), .val (.int z13), .val (.int z14), .val (.int z15), .val (.int z16), .val (.int z17), .val (.ref ob), .val (.int (p4 &&& (2147483647 : Int32))), .val (.int (3 : Int32)), .val (.int cv), .val (.double wk), .second, .val (.ref b212), .val (.int mo), .val (.double m3), .second, .val (.int (J3 0)), .val (.ref rr), .val (.int (of 0)), .unset, .unset]) rfl ?_
                show Steps p.tables e below (T300.setTop (mkF m 473 _ [])) t
                refine XS.iload P301.here P301.x rfl (hb hby at_473) rfl ?_
                show Steps p.tables e below (T300.setTop (mkF m 475 _ [(.int (3 : Int32))])) t
                refine XS.iconst P301.here P301.x rfl (hb hby at_475) ?_
                show Steps p.tables e below (T300.setTop (mkF m 476 _ [(.int (2 : Int32)), (.int (3 : Int32))])) t
                refine XS.icmpNo P301.here P301.x rfl (hb hby at_476) rfl (iiW_lt_f (by decide)) ?_
                show Steps p.tables e below (T300.setTop (mkF m 479 _ [])) t
                refine XS.aload P301.here P301.x rfl (hb hby at_479) rfl rfl ?_
                show Steps p.tables e below (T300.setTop (mkF m 481 _ [(.ref rr)])) t
                refine XS.iconst P301.here P301.x rfl (hb hby at_481) ?_
                exact kk
              refine wIaload P301 A302 (j := (1 : Int32)) (i := 1) rfl (by decide) (v := (.int (of 1))) rfl (hb hby at_482) rfl ?_
              show Done _ _ _ _ _ _ _ _ _ _ _ _ _ _ _ T300 (mkF m 483 _ [(.int (of 1))])
              refine Done.step (T' := T300) (g' := (mkF m 498 #[.val (.int p0), .val (.int p1), .val (.int p2), .val (.int p3), .val (.int p4), .val (.int p5), .val (.double w0), .second, .val (.double w1), .second, .val (.double w2), .second, .val (.ref vb), .val (.int z13), .val (.int z14), .val (.int z15), .val (.int z16), .val (.int z17), .val (.ref ob), .val (.int (p4 &&& (2147483647 : Int32))), .val (.int (3 : Int32)), .val (.int cv), .val (.double wk), .second, .val (.ref b212), .val (.int mo), .val (.double m3), .second, .val (.int (J3 0)), .val (.ref rr), .val (.int (of 0)), .val (.int (of 1)), .unset] [(.int (2 : Int32)), (.ref rr)])) (fun t kk => ?_) ?_
              · show Steps p.tables e below (T300.setTop (mkF m 483 _ [(.int (of 1))])) t
                refine XS.goto P301.here P301.x rfl (pc0 := 483) (pc' := 487) rfl (hb hby at_483) (by decide) (by decide) ?_
                show Steps p.tables e below (T300.setTop (mkF m 487 _ [(.int (of 1))])) t
                refine XS.istore P301.here P301.x rfl (hb hby at_487) rfl (l' := #[.val (.int p0), .val (.int p1), .val (.int p2), .val (.int p3), .val (.int p4), .val (.int p5), .val (.double w0), .second, .val (.double w1), .second, .val (.double w2), .second, .val (.ref vb), .val (.int z13), .val (.int z14), .val (.int z15), .val (.int z16), .val (.int z17), .val (.ref ob), .val (.int (p4 &&& (2147483647 : Int32))), .val (.int (3 : Int32)), .val (.int cv), .val (.double wk), .second, .val (.ref b212), .val (.int mo), .val (.double m3), .second, .val (.int (J3 0)), .val (.ref rr), .val (.int (of 0)), .val (.int (of 1)), .unset]) rfl ?_
                show Steps p.tables e below (T300.setTop (mkF m 489 _ [])) t
                refine XS.iload P301.here P301.x rfl (hb hby at_489) rfl ?_
                show Steps p.tables e below (T300.setTop (mkF m 491 _ [(.int (3 : Int32))])) t
                refine XS.iconst P301.here P301.x rfl (hb hby at_491) ?_
                show Steps p.tables e below (T300.setTop (mkF m 492 _ [(.int (3 : Int32)), (.int (3 : Int32))])) t
                refine XS.icmpNo P301.here P301.x rfl (hb hby at_492) rfl (iiW_lt_f (by decide)) ?_
                show Steps p.tables e below (T300.setTop (mkF m 495 _ [])) t
                refine XS.aload P301.here P301.x rfl (hb hby at_495) rfl rfl ?_
                show Steps p.tables e below (T300.setTop (mkF m 497 _ [(.ref rr)])) t
                refine XS.iconst P301.here P301.x rfl (hb hby at_497) ?_
                exact kk
              refine wIaload P301 A302 (j := (2 : Int32)) (i := 2) rfl (by decide) (v := (.int (of 2))) rfl (hb hby at_498) rfl ?_
              show Done _ _ _ _ _ _ _ _ _ _ _ _ _ _ _ T300 (mkF m 499 _ [(.int (of 2))])
              refine Done.step (T' := T300) (g' := (mkF m 505 #[.val (.int p0), .val (.int p1), .val (.int p2), .val (.int p3), .val (.int p4), .val (.int p5), .val (.double w0), .second, .val (.double w1), .second, .val (.double w2), .second, .val (.ref vb), .val (.int z13), .val (.int z14), .val (.int z15), .val (.int z16), .val (.int z17), .val (.ref ob), .val (.int (p4 &&& (2147483647 : Int32))), .val (.int (3 : Int32)), .val (.int cv), .val (.double wk), .second, .val (.ref b212), .val (.int mo), .val (.double m3), .second, .val (.int (J3 0)), .val (.ref rr), .val (.int (of 0)), .val (.int (of 1)), .val (.int (of 2))] [])) (fun t kk => ?_) ?_
              · show Steps p.tables e below (T300.setTop (mkF m 499 _ [(.int (of 2))])) t
                refine XS.goto P301.here P301.x rfl (pc0 := 499) (pc' := 503) rfl (hb hby at_499) (by decide) (by decide) ?_
                show Steps p.tables e below (T300.setTop (mkF m 503 _ [(.int (of 2))])) t
                refine XS.istore P301.here P301.x rfl (hb hby at_503) rfl (l' := #[.val (.int p0), .val (.int p1), .val (.int p2), .val (.int p3), .val (.int p4), .val (.int p5), .val (.double w0), .second, .val (.double w1), .second, .val (.double w2), .second, .val (.ref vb), .val (.int z13), .val (.int z14), .val (.int z15), .val (.int z16), .val (.int z17), .val (.ref ob), .val (.int (p4 &&& (2147483647 : Int32))), .val (.int (3 : Int32)), .val (.int cv), .val (.double wk), .second, .val (.ref b212), .val (.int mo), .val (.double m3), .second, .val (.int (J3 0)), .val (.ref rr), .val (.int (of 0)), .val (.int (of 1)), .val (.int (of 2))]) rfl ?_
                exact kk
              rcases hord of (by rw [gKr, gJr]; exact hof) with ⟨e0, e1, e2, l0, l1⟩ | ⟨e0, e1, e2, l0, l1⟩ | ⟨e0, e1, e2, l0, l1⟩ | ⟨e0, e1, e2, l0, l1⟩ | ⟨e0, e1, e2, l0, l1⟩ | ⟨e0, e1, e2, l0, l1⟩
              · refine Done.stepL (pc' := 511) (st' := [(.int (3 : Int32)), (.ref ob), (.int (of 0))]) (fun t kk => ?_) ?_
                · show Steps p.tables e below (T300.setTop (mkF m 505 _ [])) t
                  refine XS.iload P301.here P301.x rfl (hb hby at_505) rfl ?_
                  show Steps p.tables e below (T300.setTop (mkF m 507 _ [(.int (of 0))])) t
                  refine XS.aload P301.here P301.x rfl (hb hby at_507) rfl rfl ?_
                  show Steps p.tables e below (T300.setTop (mkF m 509 _ [(.ref ob), (.int (of 0))])) t
                  refine XS.iload P301.here P301.x rfl (hb hby at_509) rfl ?_
                  exact kk
                have f310 := (((f269.keep K283 (ninS (by first | assumption | exact Ne.symm (by assumption) | exact adr_ne (by omega) | omega) (ninS (by first | assumption | exact Ne.symm (by assumption) | exact adr_ne (by omega) | omega) (ninS (by first | assumption | exact Ne.symm (by assumption) | exact adr_ne (by omega) | omega) nin0)))).keep K292 (ninS (by first | assumption | exact Ne.symm (by assumption) | exact adr_ne (by omega) | omega) (ninS (by first | assumption | exact Ne.symm (by assumption) | exact adr_ne (by omega) | omega) nin0))).keep K307 (ninS (by first | assumption | exact Ne.symm (by assumption) | exact adr_ne (by omega) | omega) (ninS (by first | assumption | exact Ne.symm (by assumption) | exact adr_ne (by omega) | omega) (ninS (by first | assumption | exact Ne.symm (by assumption) | exact adr_ne (by omega) | omega) nin0))))
                refine wCallS P301 (m_ofd3 l Z a0 hw (of 0) x0 x1 x2 ob h306 f310 (Or.inl e0)) (tw61 hw) (tw62 hw) (tw63 hw) (tw64 hw) (by decide) (by rw [hml]; rfl) (lenOf pd_8 rfl) (argsL := [(.int (of 0)), (.ref ob), (.int (3 : Int32))]) (rest := []) rfl rfl (W := 0) (Nat.le_of_eq rfl) (by decide) (by decide) (by decide) (by decide) (by simp) (hb hby at_511) rfl (k' := 6) (n' := 46) rfl rfl ?_
                rintro T308 _ _ P309 - ⟨rfl, rfl⟩
                show Done _ _ _ _ _ _ _ _ _ _ _ _ _ _ _ T308 (mkF m 514 _ [(.int (1 : Int32))])
                refine Done.stepL (pc' := 531) (st' := [(.int (3 : Int32)), (.ref ob), (.int (of 1))]) (fun t kk => ?_) ?_
                · show Steps p.tables e below (T308.setTop (mkF m 514 _ [(.int (1 : Int32))])) t
                  refine XS.ifYes P309.here P309.x rfl (pc0 := 514) (pc' := 519) rfl (hb hby at_514) rfl (i0W_ne_t (by decide)) (by decide) (by decide) ?_
                  show Steps p.tables e below (T308.setTop (mkF m 519 _ [])) t
                  refine XS.iload P309.here P309.x rfl (hb hby at_519) rfl ?_
                  show Steps p.tables e below (T308.setTop (mkF m 521 _ [(.int (3 : Int32))])) t
                  refine XS.iconst P309.here P309.x rfl (hb hby at_521) ?_
                  show Steps p.tables e below (T308.setTop (mkF m 522 _ [(.int (2 : Int32)), (.int (3 : Int32))])) t
                  refine XS.icmpNo P309.here P309.x rfl (hb hby at_522) rfl (iiW_lt_f (by decide)) ?_
                  show Steps p.tables e below (T308.setTop (mkF m 525 _ [])) t
                  refine XS.iload P309.here P309.x rfl (hb hby at_525) rfl ?_
                  show Steps p.tables e below (T308.setTop (mkF m 527 _ [(.int (of 1))])) t
                  refine XS.aload P309.here P309.x rfl (hb hby at_527) rfl rfl ?_
                  show Steps p.tables e below (T308.setTop (mkF m 529 _ [(.ref ob), (.int (of 1))])) t
                  refine XS.iload P309.here P309.x rfl (hb hby at_529) rfl ?_
                  exact kk
                refine wCallS P309 (m_ofd3 l Z a0 hw (of 1) x0 x1 x2 ob h306 f310 (Or.inr (Or.inl e1))) (tw61 hw) (tw62 hw) (tw63 hw) (tw64 hw) (by decide) (by rw [hml]; rfl) (lenOf pd_8 rfl) (argsL := [(.int (of 1)), (.ref ob), (.int (3 : Int32))]) (rest := []) rfl rfl (W := 0) (Nat.le_of_eq rfl) (by decide) (by decide) (by decide) (by decide) (by simp) (hb hby at_531) rfl (k' := 6) (n' := 46) rfl rfl ?_
                rintro T311 _ _ P312 - ⟨rfl, rfl⟩
                show Done _ _ _ _ _ _ _ _ _ _ _ _ _ _ _ T311 (mkF m 534 _ [(.int (1 : Int32))])
                refine Done.stepL (pc' := 551) (st' := [(.int (3 : Int32)), (.ref ob), (.int (of 2))]) (fun t kk => ?_) ?_
                · show Steps p.tables e below (T311.setTop (mkF m 534 _ [(.int (1 : Int32))])) t
                  refine XS.ifYes P312.here P312.x rfl (pc0 := 534) (pc' := 539) rfl (hb hby at_534) rfl (i0W_ne_t (by decide)) (by decide) (by decide) ?_
                  show Steps p.tables e below (T311.setTop (mkF m 539 _ [])) t
                  refine XS.iload P312.here P312.x rfl (hb hby at_539) rfl ?_
                  show Steps p.tables e below (T311.setTop (mkF m 541 _ [(.int (3 : Int32))])) t
                  refine XS.iconst P312.here P312.x rfl (hb hby at_541) ?_
                  show Steps p.tables e below (T311.setTop (mkF m 542 _ [(.int (3 : Int32)), (.int (3 : Int32))])) t
                  refine XS.icmpNo P312.here P312.x rfl (hb hby at_542) rfl (iiW_lt_f (by decide)) ?_
                  show Steps p.tables e below (T311.setTop (mkF m 545 _ [])) t
                  refine XS.iload P312.here P312.x rfl (hb hby at_545) rfl ?_
                  show Steps p.tables e below (T311.setTop (mkF m 547 _ [(.int (of 2))])) t
                  refine XS.aload P312.here P312.x rfl (hb hby at_547) rfl rfl ?_
                  show Steps p.tables e below (T311.setTop (mkF m 549 _ [(.ref ob), (.int (of 2))])) t
                  refine XS.iload P312.here P312.x rfl (hb hby at_549) rfl ?_
                  exact kk
                refine wCallS P312 (m_ofd3 l Z a0 hw (of 2) x0 x1 x2 ob h306 f310 (Or.inr (Or.inr e2))) (tw61 hw) (tw62 hw) (tw63 hw) (tw64 hw) (by decide) (by rw [hml]; rfl) (lenOf pd_8 rfl) (argsL := [(.int (of 2)), (.ref ob), (.int (3 : Int32))]) (rest := []) rfl rfl (W := 0) (Nat.le_of_eq rfl) (by decide) (by decide) (by decide) (by decide) (by simp) (hb hby at_551) rfl (k' := 6) (n' := 46) rfl rfl ?_
                rintro T313 _ _ P314 - ⟨rfl, rfl⟩
                show Done _ _ _ _ _ _ _ _ _ _ _ _ _ _ _ T313 (mkF m 554 _ [(.int (1 : Int32))])
                refine Done.stepL (pc' := 610) (st' := [(.ref vb), (.double wk), (.int mo), (.int (of 0))]) (fun t kk => ?_) ?_
                · show Steps p.tables e below (T313.setTop (mkF m 554 _ [(.int (1 : Int32))])) t
                  refine XS.ifYes P314.here P314.x rfl (pc0 := 554) (pc' := 559) rfl (hb hby at_554) rfl (i0W_ne_t (by decide)) (by decide) (by decide) ?_
                  show Steps p.tables e below (T313.setTop (mkF m 559 _ [])) t
                  refine XS.iload P314.here P314.x rfl (hb hby at_559) rfl ?_
                  show Steps p.tables e below (T313.setTop (mkF m 561 _ [(.int (3 : Int32))])) t
                  refine XS.iconst P314.here P314.x rfl (hb hby at_561) ?_
                  show Steps p.tables e below (T313.setTop (mkF m 562 _ [(.int (2 : Int32)), (.int (3 : Int32))])) t
                  refine XS.icmpNo P314.here P314.x rfl (hb hby at_562) rfl (iiW_lt_f (by decide)) ?_
                  show Steps p.tables e below (T313.setTop (mkF m 565 _ [])) t
                  refine XS.iload P314.here P314.x rfl (hb hby at_565) rfl ?_
                  show Steps p.tables e below (T313.setTop (mkF m 567 _ [(.int (of 0))])) t
                  refine XS.iload P314.here P314.x rfl (hb hby at_567) rfl ?_
                  show Steps p.tables e below (T313.setTop (mkF m 569 _ [(.int (of 1)), (.int (of 0))])) t
                  refine XS.icmpYes P314.here P314.x rfl (pc0 := 569) (pc' := 574) rfl (hb hby at_569) rfl (iiW_ne_t (own_neq e0 e1 hx0 hx1 hi0 hi1 pm01)) (by decide) (by decide) ?_
                  show Steps p.tables e below (T313.setTop (mkF m 574 _ [])) t
                  refine XS.iload P314.here P314.x rfl (hb hby at_574) rfl ?_
                  show Steps p.tables e below (T313.setTop (mkF m 576 _ [(.int (3 : Int32))])) t
                  refine XS.iconst P314.here P314.x rfl (hb hby at_576) ?_
                  show Steps p.tables e below (T313.setTop (mkF m 577 _ [(.int (3 : Int32)), (.int (3 : Int32))])) t
                  refine XS.icmpNo P314.here P314.x rfl (hb hby at_577) rfl (iiW_lt_f (by decide)) ?_
                  show Steps p.tables e below (T313.setTop (mkF m 580 _ [])) t
                  refine XS.iload P314.here P314.x rfl (hb hby at_580) rfl ?_
                  show Steps p.tables e below (T313.setTop (mkF m 582 _ [(.int (of 0))])) t
                  refine XS.iload P314.here P314.x rfl (hb hby at_582) rfl ?_
                  show Steps p.tables e below (T313.setTop (mkF m 584 _ [(.int (of 2)), (.int (of 0))])) t
                  refine XS.icmpNo P314.here P314.x rfl (hb hby at_584) rfl (iiW_eq_f (own_neq e0 e2 hx0 hx2 hi0 hi2 pm02)) ?_
                  show Steps p.tables e below (T313.setTop (mkF m 587 _ [])) t
                  refine XS.iload P314.here P314.x rfl (hb hby at_587) rfl ?_
                  show Steps p.tables e below (T313.setTop (mkF m 589 _ [(.int (of 1))])) t
                  refine XS.iload P314.here P314.x rfl (hb hby at_589) rfl ?_
                  show Steps p.tables e below (T313.setTop (mkF m 591 _ [(.int (of 2)), (.int (of 1))])) t
                  refine XS.icmpYes P314.here P314.x rfl (pc0 := 591) (pc' := 596) rfl (hb hby at_591) rfl (iiW_ne_t (own_neq e1 e2 hx1 hx2 hi1 hi2 pm12)) (by decide) (by decide) ?_
                  show Steps p.tables e below (T313.setTop (mkF m 596 _ [])) t
                  refine XS.iload P314.here P314.x rfl (hb hby at_596) rfl ?_
                  show Steps p.tables e below (T313.setTop (mkF m 598 _ [(.int (3 : Int32))])) t
                  refine XS.iconst P314.here P314.x rfl (hb hby at_598) ?_
                  show Steps p.tables e below (T313.setTop (mkF m 599 _ [(.int (2 : Int32)), (.int (3 : Int32))])) t
                  refine XS.icmpNo P314.here P314.x rfl (hb hby at_599) rfl (iiW_lt_f (by decide)) ?_
                  show Steps p.tables e below (T313.setTop (mkF m 602 _ [])) t
                  refine XS.iload P314.here P314.x rfl (hb hby at_602) rfl ?_
                  show Steps p.tables e below (T313.setTop (mkF m 604 _ [(.int (of 0))])) t
                  refine XS.iload P314.here P314.x rfl (hb hby at_604) rfl ?_
                  show Steps p.tables e below (T313.setTop (mkF m 606 _ [(.int mo), (.int (of 0))])) t
                  refine XS.dload P314.here P314.x rfl (hb hby at_606) rfl ?_
                  show Steps p.tables e below (T313.setTop (mkF m 608 _ [(.double wk), (.int mo), (.int (of 0))])) t
                  refine XS.aload P314.here P314.x rfl (hb hby at_608) rfl rfl ?_
                  exact kk
                have f317 := (((f270.keep K283 (ninS (by first | assumption | exact Ne.symm (by assumption) | exact adr_ne (by omega) | omega) (ninS (by first | assumption | exact Ne.symm (by assumption) | exact adr_ne (by omega) | omega) (ninS (by first | assumption | exact Ne.symm (by assumption) | exact adr_ne (by omega) | omega) nin0)))).keep K292 (ninS (by first | assumption | exact Ne.symm (by assumption) | exact adr_ne (by omega) | omega) (ninS (by first | assumption | exact Ne.symm (by assumption) | exact adr_ne (by omega) | omega) nin0))).keep K307 (ninS (by first | assumption | exact Ne.symm (by assumption) | exact adr_ne (by omega) | omega) (ninS (by first | assumption | exact Ne.symm (by assumption) | exact adr_ne (by omega) | omega) (ninS (by first | assumption | exact Ne.symm (by assumption) | exact adr_ne (by omega) | omega) nin0))))
                refine wCallS P314 (m_kyo l Z a0 hw (of 0) mo wk vb x0 i0 (oupd (oupd (oupd (fun _ => (0 : UInt64)) 0 w0) 1 w1) 2 w2) h306 f317 (own_sub e0 hx0 hi0) hx0 hi0) (tw65 hw) (tw66 hw) (tw63 hw) (tw67 hw) (by decide) (by rw [hml]; rfl) (lenOf pd_9 rfl) (argsL := [(.int (of 0)), (.int mo), (.double wk), (.ref vb)]) (rest := []) rfl rfl (W := 0) (Nat.le_of_eq rfl) (by decide) (by decide) (by decide) (by decide) (by simp) (hb hby at_610) rfl (k' := 6) (n' := 46) rfl rfl ?_
                rintro T315 _ _ P316 - ⟨rfl, rfl⟩
                show Done _ _ _ _ _ _ _ _ _ _ _ _ _ _ _ T315 (mkF m 613 _ [(.double (if x0 = mo then wk else (oupd (oupd (oupd (fun _ => (0 : UInt64)) 0 w0) 1 w1) 2 w2) i0))])
                refine Done.stepL (pc' := 621) (st' := [(.ref vb), (.double wk), (.int mo), (.int (of 1)), (.double (if x0 = mo then wk else (oupd (oupd (oupd (fun _ => (0 : UInt64)) 0 w0) 1 w1) 2 w2) i0))]) (fun t kk => ?_) ?_
                · show Steps p.tables e below (T315.setTop (mkF m 613 _ [(.double (if x0 = mo then wk else (oupd (oupd (oupd (fun _ => (0 : UInt64)) 0 w0) 1 w1) 2 w2) i0))])) t
                  refine XS.iload P316.here P316.x rfl (hb hby at_613) rfl ?_
                  show Steps p.tables e below (T315.setTop (mkF m 615 _ [(.int (of 1)), (.double (if x0 = mo then wk else (oupd (oupd (oupd (fun _ => (0 : UInt64)) 0 w0) 1 w1) 2 w2) i0))])) t
                  refine XS.iload P316.here P316.x rfl (hb hby at_615) rfl ?_
                  show Steps p.tables e below (T315.setTop (mkF m 617 _ [(.int mo), (.int (of 1)), (.double (if x0 = mo then wk else (oupd (oupd (oupd (fun _ => (0 : UInt64)) 0 w0) 1 w1) 2 w2) i0))])) t
                  refine XS.dload P316.here P316.x rfl (hb hby at_617) rfl ?_
                  show Steps p.tables e below (T315.setTop (mkF m 619 _ [(.double wk), (.int mo), (.int (of 1)), (.double (if x0 = mo then wk else (oupd (oupd (oupd (fun _ => (0 : UInt64)) 0 w0) 1 w1) 2 w2) i0))])) t
                  refine XS.aload P316.here P316.x rfl (hb hby at_619) rfl rfl ?_
                  exact kk
                refine wCallS P316 (m_kyo l Z a0 hw (of 1) mo wk vb x1 i1 (oupd (oupd (oupd (fun _ => (0 : UInt64)) 0 w0) 1 w1) 2 w2) h306 f317 (own_sub e1 hx1 hi1) hx1 hi1) (tw65 hw) (tw66 hw) (tw63 hw) (tw67 hw) (by decide) (by rw [hml]; rfl) (lenOf pd_9 rfl) (argsL := [(.int (of 1)), (.int mo), (.double wk), (.ref vb)]) (rest := [(.double (if x0 = mo then wk else (oupd (oupd (oupd (fun _ => (0 : UInt64)) 0 w0) 1 w1) 2 w2) i0))]) rfl rfl (W := 2) (Nat.le_of_eq rfl) (by decide) (by decide) (by decide) (by decide) (by simp) (hb hby at_621) rfl (k' := 6) (n' := 46) rfl rfl ?_
                rintro T318 _ _ P319 - ⟨rfl, rfl⟩
                show Done _ _ _ _ _ _ _ _ _ _ _ _ _ _ _ T318 (mkF m 624 _ [(.double (if x1 = mo then wk else (oupd (oupd (oupd (fun _ => (0 : UInt64)) 0 w0) 1 w1) 2 w2) i1)), (.double (if x0 = mo then wk else (oupd (oupd (oupd (fun _ => (0 : UInt64)) 0 w0) 1 w1) 2 w2) i0))])
                refine Done.stepL (pc' := 644) (st' := [(.ref vb), (.double wk), (.int mo), (.int (of 1))]) (fun t kk => ?_) ?_
                · show Steps p.tables e below (T318.setTop (mkF m 624 _ [(.double (if x1 = mo then wk else (oupd (oupd (oupd (fun _ => (0 : UInt64)) 0 w0) 1 w1) 2 w2) i1)), (.double (if x0 = mo then wk else (oupd (oupd (oupd (fun _ => (0 : UInt64)) 0 w0) 1 w1) 2 w2) i0))])) t
                  refine XS.dcmpS P319.here P319.x rfl (hb hby at_624) rfl (dcmpZ (dint_ite (fun _ => Dk) (fun _ => (own_ds E0 E1 E2 i0 hi0))) (dint_ite (fun _ => Dk) (fun _ => (own_ds E0 E1 E2 i1 hi1)))) ?_
                  show Steps p.tables e below (T318.setTop (mkF m 625 _ [(.int (cmpZ (if x0 = mo then p5.toInt else (own_sel V0 V1 V2 i0)) (if x1 = mo then p5.toInt else (own_sel V0 V1 V2 i1))))])) t
                  refine XS.ifYes P319.here P319.x rfl (pc0 := 625) (pc' := 630) rfl (hb hby at_625) rfl (ciW_le_t (Int.not_lt.mpr l0)) (by decide) (by decide) ?_
                  show Steps p.tables e below (T318.setTop (mkF m 630 _ [])) t
                  refine XS.iload P319.here P319.x rfl (hb hby at_630) rfl ?_
                  show Steps p.tables e below (T318.setTop (mkF m 632 _ [(.int (3 : Int32))])) t
                  refine XS.iconst P319.here P319.x rfl (hb hby at_632) ?_
                  show Steps p.tables e below (T318.setTop (mkF m 633 _ [(.int (3 : Int32)), (.int (3 : Int32))])) t
                  refine XS.icmpNo P319.here P319.x rfl (hb hby at_633) rfl (iiW_lt_f (by decide)) ?_
                  show Steps p.tables e below (T318.setTop (mkF m 636 _ [])) t
                  refine XS.iload P319.here P319.x rfl (hb hby at_636) rfl ?_
                  show Steps p.tables e below (T318.setTop (mkF m 638 _ [(.int (of 1))])) t
                  refine XS.iload P319.here P319.x rfl (hb hby at_638) rfl ?_
                  show Steps p.tables e below (T318.setTop (mkF m 640 _ [(.int mo), (.int (of 1))])) t
                  refine XS.dload P319.here P319.x rfl (hb hby at_640) rfl ?_
                  show Steps p.tables e below (T318.setTop (mkF m 642 _ [(.double wk), (.int mo), (.int (of 1))])) t
                  refine XS.aload P319.here P319.x rfl (hb hby at_642) rfl rfl ?_
                  exact kk
                refine wCallS P319 (m_kyo l Z a0 hw (of 1) mo wk vb x1 i1 (oupd (oupd (oupd (fun _ => (0 : UInt64)) 0 w0) 1 w1) 2 w2) h306 f317 (own_sub e1 hx1 hi1) hx1 hi1) (tw65 hw) (tw66 hw) (tw63 hw) (tw67 hw) (by decide) (by rw [hml]; rfl) (lenOf pd_9 rfl) (argsL := [(.int (of 1)), (.int mo), (.double wk), (.ref vb)]) (rest := []) rfl rfl (W := 0) (Nat.le_of_eq rfl) (by decide) (by decide) (by decide) (by decide) (by simp) (hb hby at_644) rfl (k' := 6) (n' := 46) rfl rfl ?_
                rintro T320 _ _ P321 - ⟨rfl, rfl⟩
                show Done _ _ _ _ _ _ _ _ _ _ _ _ _ _ _ T320 (mkF m 647 _ [(.double (if x1 = mo then wk else (oupd (oupd (oupd (fun _ => (0 : UInt64)) 0 w0) 1 w1) 2 w2) i1))])
                refine Done.stepL (pc' := 655) (st' := [(.ref vb), (.double wk), (.int mo), (.int (of 2)), (.double (if x1 = mo then wk else (oupd (oupd (oupd (fun _ => (0 : UInt64)) 0 w0) 1 w1) 2 w2) i1))]) (fun t kk => ?_) ?_
                · show Steps p.tables e below (T320.setTop (mkF m 647 _ [(.double (if x1 = mo then wk else (oupd (oupd (oupd (fun _ => (0 : UInt64)) 0 w0) 1 w1) 2 w2) i1))])) t
                  refine XS.iload P321.here P321.x rfl (hb hby at_647) rfl ?_
                  show Steps p.tables e below (T320.setTop (mkF m 649 _ [(.int (of 2)), (.double (if x1 = mo then wk else (oupd (oupd (oupd (fun _ => (0 : UInt64)) 0 w0) 1 w1) 2 w2) i1))])) t
                  refine XS.iload P321.here P321.x rfl (hb hby at_649) rfl ?_
                  show Steps p.tables e below (T320.setTop (mkF m 651 _ [(.int mo), (.int (of 2)), (.double (if x1 = mo then wk else (oupd (oupd (oupd (fun _ => (0 : UInt64)) 0 w0) 1 w1) 2 w2) i1))])) t
                  refine XS.dload P321.here P321.x rfl (hb hby at_651) rfl ?_
                  show Steps p.tables e below (T320.setTop (mkF m 653 _ [(.double wk), (.int mo), (.int (of 2)), (.double (if x1 = mo then wk else (oupd (oupd (oupd (fun _ => (0 : UInt64)) 0 w0) 1 w1) 2 w2) i1))])) t
                  refine XS.aload P321.here P321.x rfl (hb hby at_653) rfl rfl ?_
                  exact kk
                refine wCallS P321 (m_kyo l Z a0 hw (of 2) mo wk vb x2 i2 (oupd (oupd (oupd (fun _ => (0 : UInt64)) 0 w0) 1 w1) 2 w2) h306 f317 (own_sub e2 hx2 hi2) hx2 hi2) (tw65 hw) (tw66 hw) (tw63 hw) (tw67 hw) (by decide) (by rw [hml]; rfl) (lenOf pd_9 rfl) (argsL := [(.int (of 2)), (.int mo), (.double wk), (.ref vb)]) (rest := [(.double (if x1 = mo then wk else (oupd (oupd (oupd (fun _ => (0 : UInt64)) 0 w0) 1 w1) 2 w2) i1))]) rfl rfl (W := 2) (Nat.le_of_eq rfl) (by decide) (by decide) (by decide) (by decide) (by simp) (hb hby at_655) rfl (k' := 6) (n' := 46) rfl rfl ?_
                rintro T322 _ _ P323 - ⟨rfl, rfl⟩
                show Done _ _ _ _ _ _ _ _ _ _ _ _ _ _ _ T322 (mkF m 658 _ [(.double (if x2 = mo then wk else (oupd (oupd (oupd (fun _ => (0 : UInt64)) 0 w0) 1 w1) 2 w2) i2)), (.double (if x1 = mo then wk else (oupd (oupd (oupd (fun _ => (0 : UInt64)) 0 w0) 1 w1) 2 w2) i1))])
                refine Done.stepL (pc' := 665) (st' := [(.int (1 : Int32))]) (fun t kk => ?_) ?_
                · show Steps p.tables e below (T322.setTop (mkF m 658 _ [(.double (if x2 = mo then wk else (oupd (oupd (oupd (fun _ => (0 : UInt64)) 0 w0) 1 w1) 2 w2) i2)), (.double (if x1 = mo then wk else (oupd (oupd (oupd (fun _ => (0 : UInt64)) 0 w0) 1 w1) 2 w2) i1))])) t
                  refine XS.dcmpS P323.here P323.x rfl (hb hby at_658) rfl (dcmpZ (dint_ite (fun _ => Dk) (fun _ => (own_ds E0 E1 E2 i1 hi1))) (dint_ite (fun _ => Dk) (fun _ => (own_ds E0 E1 E2 i2 hi2)))) ?_
                  show Steps p.tables e below (T322.setTop (mkF m 659 _ [(.int (cmpZ (if x1 = mo then p5.toInt else (own_sel V0 V1 V2 i1)) (if x2 = mo then p5.toInt else (own_sel V0 V1 V2 i2))))])) t
                  refine XS.ifYes P323.here P323.x rfl (pc0 := 659) (pc' := 664) rfl (hb hby at_659) rfl (ciW_le_t (Int.not_lt.mpr l1)) (by decide) (by decide) ?_
                  show Steps p.tables e below (T322.setTop (mkF m 664 _ [])) t
                  refine XS.iconst P323.here P323.x rfl (hb hby at_664) ?_
                  exact kk
                exact wRet P323 (t := .boolean) hret (narrow_01 (Or.inr rfl)) (Or.inl ⟨rfl, Or.inr (Or.inl rfl), _, rfl⟩) (hb hby at_665) rfl
              · refine Done.stepL (pc' := 511) (st' := [(.int (3 : Int32)), (.ref ob), (.int (of 0))]) (fun t kk => ?_) ?_
                · show Steps p.tables e below (T300.setTop (mkF m 505 _ [])) t
                  refine XS.iload P301.here P301.x rfl (hb hby at_505) rfl ?_
                  show Steps p.tables e below (T300.setTop (mkF m 507 _ [(.int (of 0))])) t
                  refine XS.aload P301.here P301.x rfl (hb hby at_507) rfl rfl ?_
                  show Steps p.tables e below (T300.setTop (mkF m 509 _ [(.ref ob), (.int (of 0))])) t
                  refine XS.iload P301.here P301.x rfl (hb hby at_509) rfl ?_
                  exact kk
                have f326 := (((f269.keep K283 (ninS (by first | assumption | exact Ne.symm (by assumption) | exact adr_ne (by omega) | omega) (ninS (by first | assumption | exact Ne.symm (by assumption) | exact adr_ne (by omega) | omega) (ninS (by first | assumption | exact Ne.symm (by assumption) | exact adr_ne (by omega) | omega) nin0)))).keep K292 (ninS (by first | assumption | exact Ne.symm (by assumption) | exact adr_ne (by omega) | omega) (ninS (by first | assumption | exact Ne.symm (by assumption) | exact adr_ne (by omega) | omega) nin0))).keep K307 (ninS (by first | assumption | exact Ne.symm (by assumption) | exact adr_ne (by omega) | omega) (ninS (by first | assumption | exact Ne.symm (by assumption) | exact adr_ne (by omega) | omega) (ninS (by first | assumption | exact Ne.symm (by assumption) | exact adr_ne (by omega) | omega) nin0))))
                refine wCallS P301 (m_ofd3 l Z a0 hw (of 0) x0 x1 x2 ob h306 f326 (Or.inl e0)) (tw61 hw) (tw62 hw) (tw63 hw) (tw64 hw) (by decide) (by rw [hml]; rfl) (lenOf pd_8 rfl) (argsL := [(.int (of 0)), (.ref ob), (.int (3 : Int32))]) (rest := []) rfl rfl (W := 0) (Nat.le_of_eq rfl) (by decide) (by decide) (by decide) (by decide) (by simp) (hb hby at_511) rfl (k' := 6) (n' := 46) rfl rfl ?_
                rintro T324 _ _ P325 - ⟨rfl, rfl⟩
                show Done _ _ _ _ _ _ _ _ _ _ _ _ _ _ _ T324 (mkF m 514 _ [(.int (1 : Int32))])
                refine Done.stepL (pc' := 531) (st' := [(.int (3 : Int32)), (.ref ob), (.int (of 1))]) (fun t kk => ?_) ?_
                · show Steps p.tables e below (T324.setTop (mkF m 514 _ [(.int (1 : Int32))])) t
                  refine XS.ifYes P325.here P325.x rfl (pc0 := 514) (pc' := 519) rfl (hb hby at_514) rfl (i0W_ne_t (by decide)) (by decide) (by decide) ?_
                  show Steps p.tables e below (T324.setTop (mkF m 519 _ [])) t
                  refine XS.iload P325.here P325.x rfl (hb hby at_519) rfl ?_
                  show Steps p.tables e below (T324.setTop (mkF m 521 _ [(.int (3 : Int32))])) t
                  refine XS.iconst P325.here P325.x rfl (hb hby at_521) ?_
                  show Steps p.tables e below (T324.setTop (mkF m 522 _ [(.int (2 : Int32)), (.int (3 : Int32))])) t
                  refine XS.icmpNo P325.here P325.x rfl (hb hby at_522) rfl (iiW_lt_f (by decide)) ?_
                  show Steps p.tables e below (T324.setTop (mkF m 525 _ [])) t
                  refine XS.iload P325.here P325.x rfl (hb hby at_525) rfl ?_
                  show Steps p.tables e below (T324.setTop (mkF m 527 _ [(.int (of 1))])) t
                  refine XS.aload P325.here P325.x rfl (hb hby at_527) rfl rfl ?_
                  show Steps p.tables e below (T324.setTop (mkF m 529 _ [(.ref ob), (.int (of 1))])) t
                  refine XS.iload P325.here P325.x rfl (hb hby at_529) rfl ?_
                  exact kk
                refine wCallS P325 (m_ofd3 l Z a0 hw (of 1) x0 x1 x2 ob h306 f326 (Or.inr (Or.inr e1))) (tw61 hw) (tw62 hw) (tw63 hw) (tw64 hw) (by decide) (by rw [hml]; rfl) (lenOf pd_8 rfl) (argsL := [(.int (of 1)), (.ref ob), (.int (3 : Int32))]) (rest := []) rfl rfl (W := 0) (Nat.le_of_eq rfl) (by decide) (by decide) (by decide) (by decide) (by simp) (hb hby at_531) rfl (k' := 6) (n' := 46) rfl rfl ?_
                rintro T327 _ _ P328 - ⟨rfl, rfl⟩
                show Done _ _ _ _ _ _ _ _ _ _ _ _ _ _ _ T327 (mkF m 534 _ [(.int (1 : Int32))])
                refine Done.stepL (pc' := 551) (st' := [(.int (3 : Int32)), (.ref ob), (.int (of 2))]) (fun t kk => ?_) ?_
                · show Steps p.tables e below (T327.setTop (mkF m 534 _ [(.int (1 : Int32))])) t
                  refine XS.ifYes P328.here P328.x rfl (pc0 := 534) (pc' := 539) rfl (hb hby at_534) rfl (i0W_ne_t (by decide)) (by decide) (by decide) ?_
                  show Steps p.tables e below (T327.setTop (mkF m 539 _ [])) t
                  refine XS.iload P328.here P328.x rfl (hb hby at_539) rfl ?_
                  show Steps p.tables e below (T327.setTop (mkF m 541 _ [(.int (3 : Int32))])) t
                  refine XS.iconst P328.here P328.x rfl (hb hby at_541) ?_
                  show Steps p.tables e below (T327.setTop (mkF m 542 _ [(.int (3 : Int32)), (.int (3 : Int32))])) t
                  refine XS.icmpNo P328.here P328.x rfl (hb hby at_542) rfl (iiW_lt_f (by decide)) ?_
                  show Steps p.tables e below (T327.setTop (mkF m 545 _ [])) t
                  refine XS.iload P328.here P328.x rfl (hb hby at_545) rfl ?_
                  show Steps p.tables e below (T327.setTop (mkF m 547 _ [(.int (of 2))])) t
                  refine XS.aload P328.here P328.x rfl (hb hby at_547) rfl rfl ?_
                  show Steps p.tables e below (T327.setTop (mkF m 549 _ [(.ref ob), (.int (of 2))])) t
                  refine XS.iload P328.here P328.x rfl (hb hby at_549) rfl ?_
                  exact kk
                refine wCallS P328 (m_ofd3 l Z a0 hw (of 2) x0 x1 x2 ob h306 f326 (Or.inr (Or.inl e2))) (tw61 hw) (tw62 hw) (tw63 hw) (tw64 hw) (by decide) (by rw [hml]; rfl) (lenOf pd_8 rfl) (argsL := [(.int (of 2)), (.ref ob), (.int (3 : Int32))]) (rest := []) rfl rfl (W := 0) (Nat.le_of_eq rfl) (by decide) (by decide) (by decide) (by decide) (by simp) (hb hby at_551) rfl (k' := 6) (n' := 46) rfl rfl ?_
                rintro T329 _ _ P330 - ⟨rfl, rfl⟩
                show Done _ _ _ _ _ _ _ _ _ _ _ _ _ _ _ T329 (mkF m 554 _ [(.int (1 : Int32))])
                refine Done.stepL (pc' := 610) (st' := [(.ref vb), (.double wk), (.int mo), (.int (of 0))]) (fun t kk => ?_) ?_
                · show Steps p.tables e below (T329.setTop (mkF m 554 _ [(.int (1 : Int32))])) t
                  refine XS.ifYes P330.here P330.x rfl (pc0 := 554) (pc' := 559) rfl (hb hby at_554) rfl (i0W_ne_t (by decide)) (by decide) (by decide) ?_
                  show Steps p.tables e below (T329.setTop (mkF m 559 _ [])) t
                  refine XS.iload P330.here P330.x rfl (hb hby at_559) rfl ?_
                  show Steps p.tables e below (T329.setTop (mkF m 561 _ [(.int (3 : Int32))])) t
                  refine XS.iconst P330.here P330.x rfl (hb hby at_561) ?_
                  show Steps p.tables e below (T329.setTop (mkF m 562 _ [(.int (2 : Int32)), (.int (3 : Int32))])) t
                  refine XS.icmpNo P330.here P330.x rfl (hb hby at_562) rfl (iiW_lt_f (by decide)) ?_
                  show Steps p.tables e below (T329.setTop (mkF m 565 _ [])) t
                  refine XS.iload P330.here P330.x rfl (hb hby at_565) rfl ?_
                  show Steps p.tables e below (T329.setTop (mkF m 567 _ [(.int (of 0))])) t
                  refine XS.iload P330.here P330.x rfl (hb hby at_567) rfl ?_
                  show Steps p.tables e below (T329.setTop (mkF m 569 _ [(.int (of 1)), (.int (of 0))])) t
                  refine XS.icmpYes P330.here P330.x rfl (pc0 := 569) (pc' := 574) rfl (hb hby at_569) rfl (iiW_ne_t (own_neq e0 e1 hx0 hx2 hi0 hi2 pm02)) (by decide) (by decide) ?_
                  show Steps p.tables e below (T329.setTop (mkF m 574 _ [])) t
                  refine XS.iload P330.here P330.x rfl (hb hby at_574) rfl ?_
                  show Steps p.tables e below (T329.setTop (mkF m 576 _ [(.int (3 : Int32))])) t
                  refine XS.iconst P330.here P330.x rfl (hb hby at_576) ?_
                  show Steps p.tables e below (T329.setTop (mkF m 577 _ [(.int (3 : Int32)), (.int (3 : Int32))])) t
                  refine XS.icmpNo P330.here P330.x rfl (hb hby at_577) rfl (iiW_lt_f (by decide)) ?_
                  show Steps p.tables e below (T329.setTop (mkF m 580 _ [])) t
                  refine XS.iload P330.here P330.x rfl (hb hby at_580) rfl ?_
                  show Steps p.tables e below (T329.setTop (mkF m 582 _ [(.int (of 0))])) t
                  refine XS.iload P330.here P330.x rfl (hb hby at_582) rfl ?_
                  show Steps p.tables e below (T329.setTop (mkF m 584 _ [(.int (of 2)), (.int (of 0))])) t
                  refine XS.icmpNo P330.here P330.x rfl (hb hby at_584) rfl (iiW_eq_f (own_neq e0 e2 hx0 hx1 hi0 hi1 pm01)) ?_
                  show Steps p.tables e below (T329.setTop (mkF m 587 _ [])) t
                  refine XS.iload P330.here P330.x rfl (hb hby at_587) rfl ?_
                  show Steps p.tables e below (T329.setTop (mkF m 589 _ [(.int (of 1))])) t
                  refine XS.iload P330.here P330.x rfl (hb hby at_589) rfl ?_
                  show Steps p.tables e below (T329.setTop (mkF m 591 _ [(.int (of 2)), (.int (of 1))])) t
                  refine XS.icmpYes P330.here P330.x rfl (pc0 := 591) (pc' := 596) rfl (hb hby at_591) rfl (iiW_ne_t (own_neq e1 e2 hx2 hx1 hi2 hi1 (Ne.symm pm12))) (by decide) (by decide) ?_
                  show Steps p.tables e below (T329.setTop (mkF m 596 _ [])) t
                  refine XS.iload P330.here P330.x rfl (hb hby at_596) rfl ?_
                  show Steps p.tables e below (T329.setTop (mkF m 598 _ [(.int (3 : Int32))])) t
                  refine XS.iconst P330.here P330.x rfl (hb hby at_598) ?_
                  show Steps p.tables e below (T329.setTop (mkF m 599 _ [(.int (2 : Int32)), (.int (3 : Int32))])) t
                  refine XS.icmpNo P330.here P330.x rfl (hb hby at_599) rfl (iiW_lt_f (by decide)) ?_
                  show Steps p.tables e below (T329.setTop (mkF m 602 _ [])) t
                  refine XS.iload P330.here P330.x rfl (hb hby at_602) rfl ?_
                  show Steps p.tables e below (T329.setTop (mkF m 604 _ [(.int (of 0))])) t
                  refine XS.iload P330.here P330.x rfl (hb hby at_604) rfl ?_
                  show Steps p.tables e below (T329.setTop (mkF m 606 _ [(.int mo), (.int (of 0))])) t
                  refine XS.dload P330.here P330.x rfl (hb hby at_606) rfl ?_
                  show Steps p.tables e below (T329.setTop (mkF m 608 _ [(.double wk), (.int mo), (.int (of 0))])) t
                  refine XS.aload P330.here P330.x rfl (hb hby at_608) rfl rfl ?_
                  exact kk
                have f333 := (((f270.keep K283 (ninS (by first | assumption | exact Ne.symm (by assumption) | exact adr_ne (by omega) | omega) (ninS (by first | assumption | exact Ne.symm (by assumption) | exact adr_ne (by omega) | omega) (ninS (by first | assumption | exact Ne.symm (by assumption) | exact adr_ne (by omega) | omega) nin0)))).keep K292 (ninS (by first | assumption | exact Ne.symm (by assumption) | exact adr_ne (by omega) | omega) (ninS (by first | assumption | exact Ne.symm (by assumption) | exact adr_ne (by omega) | omega) nin0))).keep K307 (ninS (by first | assumption | exact Ne.symm (by assumption) | exact adr_ne (by omega) | omega) (ninS (by first | assumption | exact Ne.symm (by assumption) | exact adr_ne (by omega) | omega) (ninS (by first | assumption | exact Ne.symm (by assumption) | exact adr_ne (by omega) | omega) nin0))))
                refine wCallS P330 (m_kyo l Z a0 hw (of 0) mo wk vb x0 i0 (oupd (oupd (oupd (fun _ => (0 : UInt64)) 0 w0) 1 w1) 2 w2) h306 f333 (own_sub e0 hx0 hi0) hx0 hi0) (tw65 hw) (tw66 hw) (tw63 hw) (tw67 hw) (by decide) (by rw [hml]; rfl) (lenOf pd_9 rfl) (argsL := [(.int (of 0)), (.int mo), (.double wk), (.ref vb)]) (rest := []) rfl rfl (W := 0) (Nat.le_of_eq rfl) (by decide) (by decide) (by decide) (by decide) (by simp) (hb hby at_610) rfl (k' := 6) (n' := 46) rfl rfl ?_
                rintro T331 _ _ P332 - ⟨rfl, rfl⟩
                show Done _ _ _ _ _ _ _ _ _ _ _ _ _ _ _ T331 (mkF m 613 _ [(.double (if x0 = mo then wk else (oupd (oupd (oupd (fun _ => (0 : UInt64)) 0 w0) 1 w1) 2 w2) i0))])
                refine Done.stepL (pc' := 621) (st' := [(.ref vb), (.double wk), (.int mo), (.int (of 1)), (.double (if x0 = mo then wk else (oupd (oupd (oupd (fun _ => (0 : UInt64)) 0 w0) 1 w1) 2 w2) i0))]) (fun t kk => ?_) ?_
                · show Steps p.tables e below (T331.setTop (mkF m 613 _ [(.double (if x0 = mo then wk else (oupd (oupd (oupd (fun _ => (0 : UInt64)) 0 w0) 1 w1) 2 w2) i0))])) t
                  refine XS.iload P332.here P332.x rfl (hb hby at_613) rfl ?_
                  show Steps p.tables e below (T331.setTop (mkF m 615 _ [(.int (of 1)), (.double (if x0 = mo then wk else (oupd (oupd (oupd (fun _ => (0 : UInt64)) 0 w0) 1 w1) 2 w2) i0))])) t
                  refine XS.iload P332.here P332.x rfl (hb hby at_615) rfl ?_
                  show Steps p.tables e below (T331.setTop (mkF m 617 _ [(.int mo), (.int (of 1)), (.double (if x0 = mo then wk else (oupd (oupd (oupd (fun _ => (0 : UInt64)) 0 w0) 1 w1) 2 w2) i0))])) t
                  refine XS.dload P332.here P332.x rfl (hb hby at_617) rfl ?_
                  show Steps p.tables e below (T331.setTop (mkF m 619 _ [(.double wk), (.int mo), (.int (of 1)), (.double (if x0 = mo then wk else (oupd (oupd (oupd (fun _ => (0 : UInt64)) 0 w0) 1 w1) 2 w2) i0))])) t
                  refine XS.aload P332.here P332.x rfl (hb hby at_619) rfl rfl ?_
                  exact kk
                refine wCallS P332 (m_kyo l Z a0 hw (of 1) mo wk vb x2 i2 (oupd (oupd (oupd (fun _ => (0 : UInt64)) 0 w0) 1 w1) 2 w2) h306 f333 (own_sub e1 hx2 hi2) hx2 hi2) (tw65 hw) (tw66 hw) (tw63 hw) (tw67 hw) (by decide) (by rw [hml]; rfl) (lenOf pd_9 rfl) (argsL := [(.int (of 1)), (.int mo), (.double wk), (.ref vb)]) (rest := [(.double (if x0 = mo then wk else (oupd (oupd (oupd (fun _ => (0 : UInt64)) 0 w0) 1 w1) 2 w2) i0))]) rfl rfl (W := 2) (Nat.le_of_eq rfl) (by decide) (by decide) (by decide) (by decide) (by simp) (hb hby at_621) rfl (k' := 6) (n' := 46) rfl rfl ?_
                rintro T334 _ _ P335 - ⟨rfl, rfl⟩
                show Done _ _ _ _ _ _ _ _ _ _ _ _ _ _ _ T334 (mkF m 624 _ [(.double (if x2 = mo then wk else (oupd (oupd (oupd (fun _ => (0 : UInt64)) 0 w0) 1 w1) 2 w2) i2)), (.double (if x0 = mo then wk else (oupd (oupd (oupd (fun _ => (0 : UInt64)) 0 w0) 1 w1) 2 w2) i0))])
                refine Done.stepL (pc' := 644) (st' := [(.ref vb), (.double wk), (.int mo), (.int (of 1))]) (fun t kk => ?_) ?_
                · show Steps p.tables e below (T334.setTop (mkF m 624 _ [(.double (if x2 = mo then wk else (oupd (oupd (oupd (fun _ => (0 : UInt64)) 0 w0) 1 w1) 2 w2) i2)), (.double (if x0 = mo then wk else (oupd (oupd (oupd (fun _ => (0 : UInt64)) 0 w0) 1 w1) 2 w2) i0))])) t
                  refine XS.dcmpS P335.here P335.x rfl (hb hby at_624) rfl (dcmpZ (dint_ite (fun _ => Dk) (fun _ => (own_ds E0 E1 E2 i0 hi0))) (dint_ite (fun _ => Dk) (fun _ => (own_ds E0 E1 E2 i2 hi2)))) ?_
                  show Steps p.tables e below (T334.setTop (mkF m 625 _ [(.int (cmpZ (if x0 = mo then p5.toInt else (own_sel V0 V1 V2 i0)) (if x2 = mo then p5.toInt else (own_sel V0 V1 V2 i2))))])) t
                  refine XS.ifYes P335.here P335.x rfl (pc0 := 625) (pc' := 630) rfl (hb hby at_625) rfl (ciW_le_t (Int.not_lt.mpr l0)) (by decide) (by decide) ?_
                  show Steps p.tables e below (T334.setTop (mkF m 630 _ [])) t
                  refine XS.iload P335.here P335.x rfl (hb hby at_630) rfl ?_
                  show Steps p.tables e below (T334.setTop (mkF m 632 _ [(.int (3 : Int32))])) t
                  refine XS.iconst P335.here P335.x rfl (hb hby at_632) ?_
                  show Steps p.tables e below (T334.setTop (mkF m 633 _ [(.int (3 : Int32)), (.int (3 : Int32))])) t
                  refine XS.icmpNo P335.here P335.x rfl (hb hby at_633) rfl (iiW_lt_f (by decide)) ?_
                  show Steps p.tables e below (T334.setTop (mkF m 636 _ [])) t
                  refine XS.iload P335.here P335.x rfl (hb hby at_636) rfl ?_
                  show Steps p.tables e below (T334.setTop (mkF m 638 _ [(.int (of 1))])) t
                  refine XS.iload P335.here P335.x rfl (hb hby at_638) rfl ?_
                  show Steps p.tables e below (T334.setTop (mkF m 640 _ [(.int mo), (.int (of 1))])) t
                  refine XS.dload P335.here P335.x rfl (hb hby at_640) rfl ?_
                  show Steps p.tables e below (T334.setTop (mkF m 642 _ [(.double wk), (.int mo), (.int (of 1))])) t
                  refine XS.aload P335.here P335.x rfl (hb hby at_642) rfl rfl ?_
                  exact kk
                refine wCallS P335 (m_kyo l Z a0 hw (of 1) mo wk vb x2 i2 (oupd (oupd (oupd (fun _ => (0 : UInt64)) 0 w0) 1 w1) 2 w2) h306 f333 (own_sub e1 hx2 hi2) hx2 hi2) (tw65 hw) (tw66 hw) (tw63 hw) (tw67 hw) (by decide) (by rw [hml]; rfl) (lenOf pd_9 rfl) (argsL := [(.int (of 1)), (.int mo), (.double wk), (.ref vb)]) (rest := []) rfl rfl (W := 0) (Nat.le_of_eq rfl) (by decide) (by decide) (by decide) (by decide) (by simp) (hb hby at_644) rfl (k' := 6) (n' := 46) rfl rfl ?_
                rintro T336 _ _ P337 - ⟨rfl, rfl⟩
                show Done _ _ _ _ _ _ _ _ _ _ _ _ _ _ _ T336 (mkF m 647 _ [(.double (if x2 = mo then wk else (oupd (oupd (oupd (fun _ => (0 : UInt64)) 0 w0) 1 w1) 2 w2) i2))])
                refine Done.stepL (pc' := 655) (st' := [(.ref vb), (.double wk), (.int mo), (.int (of 2)), (.double (if x2 = mo then wk else (oupd (oupd (oupd (fun _ => (0 : UInt64)) 0 w0) 1 w1) 2 w2) i2))]) (fun t kk => ?_) ?_
                · show Steps p.tables e below (T336.setTop (mkF m 647 _ [(.double (if x2 = mo then wk else (oupd (oupd (oupd (fun _ => (0 : UInt64)) 0 w0) 1 w1) 2 w2) i2))])) t
                  refine XS.iload P337.here P337.x rfl (hb hby at_647) rfl ?_
                  show Steps p.tables e below (T336.setTop (mkF m 649 _ [(.int (of 2)), (.double (if x2 = mo then wk else (oupd (oupd (oupd (fun _ => (0 : UInt64)) 0 w0) 1 w1) 2 w2) i2))])) t
                  refine XS.iload P337.here P337.x rfl (hb hby at_649) rfl ?_
                  show Steps p.tables e below (T336.setTop (mkF m 651 _ [(.int mo), (.int (of 2)), (.double (if x2 = mo then wk else (oupd (oupd (oupd (fun _ => (0 : UInt64)) 0 w0) 1 w1) 2 w2) i2))])) t
                  refine XS.dload P337.here P337.x rfl (hb hby at_651) rfl ?_
                  show Steps p.tables e below (T336.setTop (mkF m 653 _ [(.double wk), (.int mo), (.int (of 2)), (.double (if x2 = mo then wk else (oupd (oupd (oupd (fun _ => (0 : UInt64)) 0 w0) 1 w1) 2 w2) i2))])) t
                  refine XS.aload P337.here P337.x rfl (hb hby at_653) rfl rfl ?_
                  exact kk
                refine wCallS P337 (m_kyo l Z a0 hw (of 2) mo wk vb x1 i1 (oupd (oupd (oupd (fun _ => (0 : UInt64)) 0 w0) 1 w1) 2 w2) h306 f333 (own_sub e2 hx1 hi1) hx1 hi1) (tw65 hw) (tw66 hw) (tw63 hw) (tw67 hw) (by decide) (by rw [hml]; rfl) (lenOf pd_9 rfl) (argsL := [(.int (of 2)), (.int mo), (.double wk), (.ref vb)]) (rest := [(.double (if x2 = mo then wk else (oupd (oupd (oupd (fun _ => (0 : UInt64)) 0 w0) 1 w1) 2 w2) i2))]) rfl rfl (W := 2) (Nat.le_of_eq rfl) (by decide) (by decide) (by decide) (by decide) (by simp) (hb hby at_655) rfl (k' := 6) (n' := 46) rfl rfl ?_
                rintro T338 _ _ P339 - ⟨rfl, rfl⟩
                show Done _ _ _ _ _ _ _ _ _ _ _ _ _ _ _ T338 (mkF m 658 _ [(.double (if x1 = mo then wk else (oupd (oupd (oupd (fun _ => (0 : UInt64)) 0 w0) 1 w1) 2 w2) i1)), (.double (if x2 = mo then wk else (oupd (oupd (oupd (fun _ => (0 : UInt64)) 0 w0) 1 w1) 2 w2) i2))])
                refine Done.stepL (pc' := 665) (st' := [(.int (1 : Int32))]) (fun t kk => ?_) ?_
                · show Steps p.tables e below (T338.setTop (mkF m 658 _ [(.double (if x1 = mo then wk else (oupd (oupd (oupd (fun _ => (0 : UInt64)) 0 w0) 1 w1) 2 w2) i1)), (.double (if x2 = mo then wk else (oupd (oupd (oupd (fun _ => (0 : UInt64)) 0 w0) 1 w1) 2 w2) i2))])) t
                  refine XS.dcmpS P339.here P339.x rfl (hb hby at_658) rfl (dcmpZ (dint_ite (fun _ => Dk) (fun _ => (own_ds E0 E1 E2 i2 hi2))) (dint_ite (fun _ => Dk) (fun _ => (own_ds E0 E1 E2 i1 hi1)))) ?_
                  show Steps p.tables e below (T338.setTop (mkF m 659 _ [(.int (cmpZ (if x2 = mo then p5.toInt else (own_sel V0 V1 V2 i2)) (if x1 = mo then p5.toInt else (own_sel V0 V1 V2 i1))))])) t
                  refine XS.ifYes P339.here P339.x rfl (pc0 := 659) (pc' := 664) rfl (hb hby at_659) rfl (ciW_le_t (Int.not_lt.mpr l1)) (by decide) (by decide) ?_
                  show Steps p.tables e below (T338.setTop (mkF m 664 _ [])) t
                  refine XS.iconst P339.here P339.x rfl (hb hby at_664) ?_
                  exact kk
                exact wRet P339 (t := .boolean) hret (narrow_01 (Or.inr rfl)) (Or.inl ⟨rfl, Or.inr (Or.inl rfl), _, rfl⟩) (hb hby at_665) rfl
              · refine Done.stepL (pc' := 511) (st' := [(.int (3 : Int32)), (.ref ob), (.int (of 0))]) (fun t kk => ?_) ?_
                · show Steps p.tables e below (T300.setTop (mkF m 505 _ [])) t
                  refine XS.iload P301.here P301.x rfl (hb hby at_505) rfl ?_
                  show Steps p.tables e below (T300.setTop (mkF m 507 _ [(.int (of 0))])) t
                  refine XS.aload P301.here P301.x rfl (hb hby at_507) rfl rfl ?_
                  show Steps p.tables e below (T300.setTop (mkF m 509 _ [(.ref ob), (.int (of 0))])) t
                  refine XS.iload P301.here P301.x rfl (hb hby at_509) rfl ?_
                  exact kk
                have f342 := (((f269.keep K283 (ninS (by first | assumption | exact Ne.symm (by assumption) | exact adr_ne (by omega) | omega) (ninS (by first | assumption | exact Ne.symm (by assumption) | exact adr_ne (by omega) | omega) (ninS (by first | assumption | exact Ne.symm (by assumption) | exact adr_ne (by omega) | omega) nin0)))).keep K292 (ninS (by first | assumption | exact Ne.symm (by assumption) | exact adr_ne (by omega) | omega) (ninS (by first | assumption | exact Ne.symm (by assumption) | exact adr_ne (by omega) | omega) nin0))).keep K307 (ninS (by first | assumption | exact Ne.symm (by assumption) | exact adr_ne (by omega) | omega) (ninS (by first | assumption | exact Ne.symm (by assumption) | exact adr_ne (by omega) | omega) (ninS (by first | assumption | exact Ne.symm (by assumption) | exact adr_ne (by omega) | omega) nin0))))
                refine wCallS P301 (m_ofd3 l Z a0 hw (of 0) x0 x1 x2 ob h306 f342 (Or.inr (Or.inl e0))) (tw61 hw) (tw62 hw) (tw63 hw) (tw64 hw) (by decide) (by rw [hml]; rfl) (lenOf pd_8 rfl) (argsL := [(.int (of 0)), (.ref ob), (.int (3 : Int32))]) (rest := []) rfl rfl (W := 0) (Nat.le_of_eq rfl) (by decide) (by decide) (by decide) (by decide) (by simp) (hb hby at_511) rfl (k' := 6) (n' := 46) rfl rfl ?_
                rintro T340 _ _ P341 - ⟨rfl, rfl⟩
                show Done _ _ _ _ _ _ _ _ _ _ _ _ _ _ _ T340 (mkF m 514 _ [(.int (1 : Int32))])
                refine Done.stepL (pc' := 531) (st' := [(.int (3 : Int32)), (.ref ob), (.int (of 1))]) (fun t kk => ?_) ?_
                · show Steps p.tables e below (T340.setTop (mkF m 514 _ [(.int (1 : Int32))])) t
                  refine XS.ifYes P341.here P341.x rfl (pc0 := 514) (pc' := 519) rfl (hb hby at_514) rfl (i0W_ne_t (by decide)) (by decide) (by decide) ?_
                  show Steps p.tables e below (T340.setTop (mkF m 519 _ [])) t
                  refine XS.iload P341.here P341.x rfl (hb hby at_519) rfl ?_
                  show Steps p.tables e below (T340.setTop (mkF m 521 _ [(.int (3 : Int32))])) t
                  refine XS.iconst P341.here P341.x rfl (hb hby at_521) ?_
                  show Steps p.tables e below (T340.setTop (mkF m 522 _ [(.int (2 : Int32)), (.int (3 : Int32))])) t
                  refine XS.icmpNo P341.here P341.x rfl (hb hby at_522) rfl (iiW_lt_f (by decide)) ?_
                  show Steps p.tables e below (T340.setTop (mkF m 525 _ [])) t
                  refine XS.iload P341.here P341.x rfl (hb hby at_525) rfl ?_
                  show Steps p.tables e below (T340.setTop (mkF m 527 _ [(.int (of 1))])) t
                  refine XS.aload P341.here P341.x rfl (hb hby at_527) rfl rfl ?_
                  show Steps p.tables e below (T340.setTop (mkF m 529 _ [(.ref ob), (.int (of 1))])) t
                  refine XS.iload P341.here P341.x rfl (hb hby at_529) rfl ?_
                  exact kk
                refine wCallS P341 (m_ofd3 l Z a0 hw (of 1) x0 x1 x2 ob h306 f342 (Or.inl e1)) (tw61 hw) (tw62 hw) (tw63 hw) (tw64 hw) (by decide) (by rw [hml]; rfl) (lenOf pd_8 rfl) (argsL := [(.int (of 1)), (.ref ob), (.int (3 : Int32))]) (rest := []) rfl rfl (W := 0) (Nat.le_of_eq rfl) (by decide) (by decide) (by decide) (by decide) (by simp) (hb hby at_531) rfl (k' := 6) (n' := 46) rfl rfl ?_
                rintro T343 _ _ P344 - ⟨rfl, rfl⟩
                show Done _ _ _ _ _ _ _ _ _ _ _ _ _ _ _ T343 (mkF m 534 _ [(.int (1 : Int32))])
                refine Done.stepL (pc' := 551) (st' := [(.int (3 : Int32)), (.ref ob), (.int (of 2))]) (fun t kk => ?_) ?_
                · show Steps p.tables e below (T343.setTop (mkF m 534 _ [(.int (1 : Int32))])) t
                  refine XS.ifYes P344.here P344.x rfl (pc0 := 534) (pc' := 539) rfl (hb hby at_534) rfl (i0W_ne_t (by decide)) (by decide) (by decide) ?_
                  show Steps p.tables e below (T343.setTop (mkF m 539 _ [])) t
                  refine XS.iload P344.here P344.x rfl (hb hby at_539) rfl ?_
                  show Steps p.tables e below (T343.setTop (mkF m 541 _ [(.int (3 : Int32))])) t
                  refine XS.iconst P344.here P344.x rfl (hb hby at_541) ?_
                  show Steps p.tables e below (T343.setTop (mkF m 542 _ [(.int (3 : Int32)), (.int (3 : Int32))])) t
                  refine XS.icmpNo P344.here P344.x rfl (hb hby at_542) rfl (iiW_lt_f (by decide)) ?_
                  show Steps p.tables e below (T343.setTop (mkF m 545 _ [])) t
                  refine XS.iload P344.here P344.x rfl (hb hby at_545) rfl ?_
                  show Steps p.tables e below (T343.setTop (mkF m 547 _ [(.int (of 2))])) t
                  refine XS.aload P344.here P344.x rfl (hb hby at_547) rfl rfl ?_
                  show Steps p.tables e below (T343.setTop (mkF m 549 _ [(.ref ob), (.int (of 2))])) t
                  refine XS.iload P344.here P344.x rfl (hb hby at_549) rfl ?_
                  exact kk
                refine wCallS P344 (m_ofd3 l Z a0 hw (of 2) x0 x1 x2 ob h306 f342 (Or.inr (Or.inr e2))) (tw61 hw) (tw62 hw) (tw63 hw) (tw64 hw) (by decide) (by rw [hml]; rfl) (lenOf pd_8 rfl) (argsL := [(.int (of 2)), (.ref ob), (.int (3 : Int32))]) (rest := []) rfl rfl (W := 0) (Nat.le_of_eq rfl) (by decide) (by decide) (by decide) (by decide) (by simp) (hb hby at_551) rfl (k' := 6) (n' := 46) rfl rfl ?_
                rintro T345 _ _ P346 - ⟨rfl, rfl⟩
                show Done _ _ _ _ _ _ _ _ _ _ _ _ _ _ _ T345 (mkF m 554 _ [(.int (1 : Int32))])
                refine Done.stepL (pc' := 610) (st' := [(.ref vb), (.double wk), (.int mo), (.int (of 0))]) (fun t kk => ?_) ?_
                · show Steps p.tables e below (T345.setTop (mkF m 554 _ [(.int (1 : Int32))])) t
                  refine XS.ifYes P346.here P346.x rfl (pc0 := 554) (pc' := 559) rfl (hb hby at_554) rfl (i0W_ne_t (by decide)) (by decide) (by decide) ?_
                  show Steps p.tables e below (T345.setTop (mkF m 559 _ [])) t
                  refine XS.iload P346.here P346.x rfl (hb hby at_559) rfl ?_
                  show Steps p.tables e below (T345.setTop (mkF m 561 _ [(.int (3 : Int32))])) t
                  refine XS.iconst P346.here P346.x rfl (hb hby at_561) ?_
                  show Steps p.tables e below (T345.setTop (mkF m 562 _ [(.int (2 : Int32)), (.int (3 : Int32))])) t
                  refine XS.icmpNo P346.here P346.x rfl (hb hby at_562) rfl (iiW_lt_f (by decide)) ?_
                  show Steps p.tables e below (T345.setTop (mkF m 565 _ [])) t
                  refine XS.iload P346.here P346.x rfl (hb hby at_565) rfl ?_
                  show Steps p.tables e below (T345.setTop (mkF m 567 _ [(.int (of 0))])) t
                  refine XS.iload P346.here P346.x rfl (hb hby at_567) rfl ?_
                  show Steps p.tables e below (T345.setTop (mkF m 569 _ [(.int (of 1)), (.int (of 0))])) t
                  refine XS.icmpYes P346.here P346.x rfl (pc0 := 569) (pc' := 574) rfl (hb hby at_569) rfl (iiW_ne_t (own_neq e0 e1 hx1 hx0 hi1 hi0 (Ne.symm pm01))) (by decide) (by decide) ?_
                  show Steps p.tables e below (T345.setTop (mkF m 574 _ [])) t
                  refine XS.iload P346.here P346.x rfl (hb hby at_574) rfl ?_
                  show Steps p.tables e below (T345.setTop (mkF m 576 _ [(.int (3 : Int32))])) t
                  refine XS.iconst P346.here P346.x rfl (hb hby at_576) ?_
                  show Steps p.tables e below (T345.setTop (mkF m 577 _ [(.int (3 : Int32)), (.int (3 : Int32))])) t
                  refine XS.icmpNo P346.here P346.x rfl (hb hby at_577) rfl (iiW_lt_f (by decide)) ?_
                  show Steps p.tables e below (T345.setTop (mkF m 580 _ [])) t
                  refine XS.iload P346.here P346.x rfl (hb hby at_580) rfl ?_
                  show Steps p.tables e below (T345.setTop (mkF m 582 _ [(.int (of 0))])) t
                  refine XS.iload P346.here P346.x rfl (hb hby at_582) rfl ?_
                  show Steps p.tables e below (T345.setTop (mkF m 584 _ [(.int (of 2)), (.int (of 0))])) t
                  refine XS.icmpNo P346.here P346.x rfl (hb hby at_584) rfl (iiW_eq_f (own_neq e0 e2 hx1 hx2 hi1 hi2 pm12)) ?_
                  show Steps p.tables e below (T345.setTop (mkF m 587 _ [])) t
                  refine XS.iload P346.here P346.x rfl (hb hby at_587) rfl ?_
                  show Steps p.tables e below (T345.setTop (mkF m 589 _ [(.int (of 1))])) t
                  refine XS.iload P346.here P346.x rfl (hb hby at_589) rfl ?_
                  show Steps p.tables e below (T345.setTop (mkF m 591 _ [(.int (of 2)), (.int (of 1))])) t
                  refine XS.icmpYes P346.here P346.x rfl (pc0 := 591) (pc' := 596) rfl (hb hby at_591) rfl (iiW_ne_t (own_neq e1 e2 hx0 hx2 hi0 hi2 pm02)) (by decide) (by decide) ?_
                  show Steps p.tables e below (T345.setTop (mkF m 596 _ [])) t
                  refine XS.iload P346.here P346.x rfl (hb hby at_596) rfl ?_
                  show Steps p.tables e below (T345.setTop (mkF m 598 _ [(.int (3 : Int32))])) t
                  refine XS.iconst P346.here P346.x rfl (hb hby at_598) ?_
                  show Steps p.tables e below (T345.setTop (mkF m 599 _ [(.int (2 : Int32)), (.int (3 : Int32))])) t
                  refine XS.icmpNo P346.here P346.x rfl (hb hby at_599) rfl (iiW_lt_f (by decide)) ?_
                  show Steps p.tables e below (T345.setTop (mkF m 602 _ [])) t
                  refine XS.iload P346.here P346.x rfl (hb hby at_602) rfl ?_
                  show Steps p.tables e below (T345.setTop (mkF m 604 _ [(.int (of 0))])) t
                  refine XS.iload P346.here P346.x rfl (hb hby at_604) rfl ?_
                  show Steps p.tables e below (T345.setTop (mkF m 606 _ [(.int mo), (.int (of 0))])) t
                  refine XS.dload P346.here P346.x rfl (hb hby at_606) rfl ?_
                  show Steps p.tables e below (T345.setTop (mkF m 608 _ [(.double wk), (.int mo), (.int (of 0))])) t
                  refine XS.aload P346.here P346.x rfl (hb hby at_608) rfl rfl ?_
                  exact kk
                have f349 := (((f270.keep K283 (ninS (by first | assumption | exact Ne.symm (by assumption) | exact adr_ne (by omega) | omega) (ninS (by first | assumption | exact Ne.symm (by assumption) | exact adr_ne (by omega) | omega) (ninS (by first | assumption | exact Ne.symm (by assumption) | exact adr_ne (by omega) | omega) nin0)))).keep K292 (ninS (by first | assumption | exact Ne.symm (by assumption) | exact adr_ne (by omega) | omega) (ninS (by first | assumption | exact Ne.symm (by assumption) | exact adr_ne (by omega) | omega) nin0))).keep K307 (ninS (by first | assumption | exact Ne.symm (by assumption) | exact adr_ne (by omega) | omega) (ninS (by first | assumption | exact Ne.symm (by assumption) | exact adr_ne (by omega) | omega) (ninS (by first | assumption | exact Ne.symm (by assumption) | exact adr_ne (by omega) | omega) nin0))))
                refine wCallS P346 (m_kyo l Z a0 hw (of 0) mo wk vb x1 i1 (oupd (oupd (oupd (fun _ => (0 : UInt64)) 0 w0) 1 w1) 2 w2) h306 f349 (own_sub e0 hx1 hi1) hx1 hi1) (tw65 hw) (tw66 hw) (tw63 hw) (tw67 hw) (by decide) (by rw [hml]; rfl) (lenOf pd_9 rfl) (argsL := [(.int (of 0)), (.int mo), (.double wk), (.ref vb)]) (rest := []) rfl rfl (W := 0) (Nat.le_of_eq rfl) (by decide) (by decide) (by decide) (by decide) (by simp) (hb hby at_610) rfl (k' := 6) (n' := 46) rfl rfl ?_
                rintro T347 _ _ P348 - ⟨rfl, rfl⟩
                show Done _ _ _ _ _ _ _ _ _ _ _ _ _ _ _ T347 (mkF m 613 _ [(.double (if x1 = mo then wk else (oupd (oupd (oupd (fun _ => (0 : UInt64)) 0 w0) 1 w1) 2 w2) i1))])
                refine Done.stepL (pc' := 621) (st' := [(.ref vb), (.double wk), (.int mo), (.int (of 1)), (.double (if x1 = mo then wk else (oupd (oupd (oupd (fun _ => (0 : UInt64)) 0 w0) 1 w1) 2 w2) i1))]) (fun t kk => ?_) ?_
                · show Steps p.tables e below (T347.setTop (mkF m 613 _ [(.double (if x1 = mo then wk else (oupd (oupd (oupd (fun _ => (0 : UInt64)) 0 w0) 1 w1) 2 w2) i1))])) t
                  refine XS.iload P348.here P348.x rfl (hb hby at_613) rfl ?_
                  show Steps p.tables e below (T347.setTop (mkF m 615 _ [(.int (of 1)), (.double (if x1 = mo then wk else (oupd (oupd (oupd (fun _ => (0 : UInt64)) 0 w0) 1 w1) 2 w2) i1))])) t
                  refine XS.iload P348.here P348.x rfl (hb hby at_615) rfl ?_
                  show Steps p.tables e below (T347.setTop (mkF m 617 _ [(.int mo), (.int (of 1)), (.double (if x1 = mo then wk else (oupd (oupd (oupd (fun _ => (0 : UInt64)) 0 w0) 1 w1) 2 w2) i1))])) t
                  refine XS.dload P348.here P348.x rfl (hb hby at_617) rfl ?_
                  show Steps p.tables e below (T347.setTop (mkF m 619 _ [(.double wk), (.int mo), (.int (of 1)), (.double (if x1 = mo then wk else (oupd (oupd (oupd (fun _ => (0 : UInt64)) 0 w0) 1 w1) 2 w2) i1))])) t
                  refine XS.aload P348.here P348.x rfl (hb hby at_619) rfl rfl ?_
                  exact kk
                refine wCallS P348 (m_kyo l Z a0 hw (of 1) mo wk vb x0 i0 (oupd (oupd (oupd (fun _ => (0 : UInt64)) 0 w0) 1 w1) 2 w2) h306 f349 (own_sub e1 hx0 hi0) hx0 hi0) (tw65 hw) (tw66 hw) (tw63 hw) (tw67 hw) (by decide) (by rw [hml]; rfl) (lenOf pd_9 rfl) (argsL := [(.int (of 1)), (.int mo), (.double wk), (.ref vb)]) (rest := [(.double (if x1 = mo then wk else (oupd (oupd (oupd (fun _ => (0 : UInt64)) 0 w0) 1 w1) 2 w2) i1))]) rfl rfl (W := 2) (Nat.le_of_eq rfl) (by decide) (by decide) (by decide) (by decide) (by simp) (hb hby at_621) rfl (k' := 6) (n' := 46) rfl rfl ?_
                rintro T350 _ _ P351 - ⟨rfl, rfl⟩
                show Done _ _ _ _ _ _ _ _ _ _ _ _ _ _ _ T350 (mkF m 624 _ [(.double (if x0 = mo then wk else (oupd (oupd (oupd (fun _ => (0 : UInt64)) 0 w0) 1 w1) 2 w2) i0)), (.double (if x1 = mo then wk else (oupd (oupd (oupd (fun _ => (0 : UInt64)) 0 w0) 1 w1) 2 w2) i1))])
                refine Done.stepL (pc' := 644) (st' := [(.ref vb), (.double wk), (.int mo), (.int (of 1))]) (fun t kk => ?_) ?_
                · show Steps p.tables e below (T350.setTop (mkF m 624 _ [(.double (if x0 = mo then wk else (oupd (oupd (oupd (fun _ => (0 : UInt64)) 0 w0) 1 w1) 2 w2) i0)), (.double (if x1 = mo then wk else (oupd (oupd (oupd (fun _ => (0 : UInt64)) 0 w0) 1 w1) 2 w2) i1))])) t
                  refine XS.dcmpS P351.here P351.x rfl (hb hby at_624) rfl (dcmpZ (dint_ite (fun _ => Dk) (fun _ => (own_ds E0 E1 E2 i1 hi1))) (dint_ite (fun _ => Dk) (fun _ => (own_ds E0 E1 E2 i0 hi0)))) ?_
                  show Steps p.tables e below (T350.setTop (mkF m 625 _ [(.int (cmpZ (if x1 = mo then p5.toInt else (own_sel V0 V1 V2 i1)) (if x0 = mo then p5.toInt else (own_sel V0 V1 V2 i0))))])) t
                  refine XS.ifYes P351.here P351.x rfl (pc0 := 625) (pc' := 630) rfl (hb hby at_625) rfl (ciW_le_t (Int.not_lt.mpr l0)) (by decide) (by decide) ?_
                  show Steps p.tables e below (T350.setTop (mkF m 630 _ [])) t
                  refine XS.iload P351.here P351.x rfl (hb hby at_630) rfl ?_
                  show Steps p.tables e below (T350.setTop (mkF m 632 _ [(.int (3 : Int32))])) t
                  refine XS.iconst P351.here P351.x rfl (hb hby at_632) ?_
                  show Steps p.tables e below (T350.setTop (mkF m 633 _ [(.int (3 : Int32)), (.int (3 : Int32))])) t
                  refine XS.icmpNo P351.here P351.x rfl (hb hby at_633) rfl (iiW_lt_f (by decide)) ?_
                  show Steps p.tables e below (T350.setTop (mkF m 636 _ [])) t
                  refine XS.iload P351.here P351.x rfl (hb hby at_636) rfl ?_
                  show Steps p.tables e below (T350.setTop (mkF m 638 _ [(.int (of 1))])) t
                  refine XS.iload P351.here P351.x rfl (hb hby at_638) rfl ?_
                  show Steps p.tables e below (T350.setTop (mkF m 640 _ [(.int mo), (.int (of 1))])) t
                  refine XS.dload P351.here P351.x rfl (hb hby at_640) rfl ?_
                  show Steps p.tables e below (T350.setTop (mkF m 642 _ [(.double wk), (.int mo), (.int (of 1))])) t
                  refine XS.aload P351.here P351.x rfl (hb hby at_642) rfl rfl ?_
                  exact kk
                refine wCallS P351 (m_kyo l Z a0 hw (of 1) mo wk vb x0 i0 (oupd (oupd (oupd (fun _ => (0 : UInt64)) 0 w0) 1 w1) 2 w2) h306 f349 (own_sub e1 hx0 hi0) hx0 hi0) (tw65 hw) (tw66 hw) (tw63 hw) (tw67 hw) (by decide) (by rw [hml]; rfl) (lenOf pd_9 rfl) (argsL := [(.int (of 1)), (.int mo), (.double wk), (.ref vb)]) (rest := []) rfl rfl (W := 0) (Nat.le_of_eq rfl) (by decide) (by decide) (by decide) (by decide) (by simp) (hb hby at_644) rfl (k' := 6) (n' := 46) rfl rfl ?_
                rintro T352 _ _ P353 - ⟨rfl, rfl⟩
                show Done _ _ _ _ _ _ _ _ _ _ _ _ _ _ _ T352 (mkF m 647 _ [(.double (if x0 = mo then wk else (oupd (oupd (oupd (fun _ => (0 : UInt64)) 0 w0) 1 w1) 2 w2) i0))])
                refine Done.stepL (pc' := 655) (st' := [(.ref vb), (.double wk), (.int mo), (.int (of 2)), (.double (if x0 = mo then wk else (oupd (oupd (oupd (fun _ => (0 : UInt64)) 0 w0) 1 w1) 2 w2) i0))]) (fun t kk => ?_) ?_
                · show Steps p.tables e below (T352.setTop (mkF m 647 _ [(.double (if x0 = mo then wk else (oupd (oupd (oupd (fun _ => (0 : UInt64)) 0 w0) 1 w1) 2 w2) i0))])) t
                  refine XS.iload P353.here P353.x rfl (hb hby at_647) rfl ?_
                  show Steps p.tables e below (T352.setTop (mkF m 649 _ [(.int (of 2)), (.double (if x0 = mo then wk else (oupd (oupd (oupd (fun _ => (0 : UInt64)) 0 w0) 1 w1) 2 w2) i0))])) t
                  refine XS.iload P353.here P353.x rfl (hb hby at_649) rfl ?_
                  show Steps p.tables e below (T352.setTop (mkF m 651 _ [(.int mo), (.int (of 2)), (.double (if x0 = mo then wk else (oupd (oupd (oupd (fun _ => (0 : UInt64)) 0 w0) 1 w1) 2 w2) i0))])) t
                  refine XS.dload P353.here P353.x rfl (hb hby at_651) rfl ?_
                  show Steps p.tables e below (T352.setTop (mkF m 653 _ [(.double wk), (.int mo), (.int (of 2)), (.double (if x0 = mo then wk else (oupd (oupd (oupd (fun _ => (0 : UInt64)) 0 w0) 1 w1) 2 w2) i0))])) t
                  refine XS.aload P353.here P353.x rfl (hb hby at_653) rfl rfl ?_
                  exact kk
                refine wCallS P353 (m_kyo l Z a0 hw (of 2) mo wk vb x2 i2 (oupd (oupd (oupd (fun _ => (0 : UInt64)) 0 w0) 1 w1) 2 w2) h306 f349 (own_sub e2 hx2 hi2) hx2 hi2) (tw65 hw) (tw66 hw) (tw63 hw) (tw67 hw) (by decide) (by rw [hml]; rfl) (lenOf pd_9 rfl) (argsL := [(.int (of 2)), (.int mo), (.double wk), (.ref vb)]) (rest := [(.double (if x0 = mo then wk else (oupd (oupd (oupd (fun _ => (0 : UInt64)) 0 w0) 1 w1) 2 w2) i0))]) rfl rfl (W := 2) (Nat.le_of_eq rfl) (by decide) (by decide) (by decide) (by decide) (by simp) (hb hby at_655) rfl (k' := 6) (n' := 46) rfl rfl ?_
                rintro T354 _ _ P355 - ⟨rfl, rfl⟩
                show Done _ _ _ _ _ _ _ _ _ _ _ _ _ _ _ T354 (mkF m 658 _ [(.double (if x2 = mo then wk else (oupd (oupd (oupd (fun _ => (0 : UInt64)) 0 w0) 1 w1) 2 w2) i2)), (.double (if x0 = mo then wk else (oupd (oupd (oupd (fun _ => (0 : UInt64)) 0 w0) 1 w1) 2 w2) i0))])
                refine Done.stepL (pc' := 665) (st' := [(.int (1 : Int32))]) (fun t kk => ?_) ?_
                · show Steps p.tables e below (T354.setTop (mkF m 658 _ [(.double (if x2 = mo then wk else (oupd (oupd (oupd (fun _ => (0 : UInt64)) 0 w0) 1 w1) 2 w2) i2)), (.double (if x0 = mo then wk else (oupd (oupd (oupd (fun _ => (0 : UInt64)) 0 w0) 1 w1) 2 w2) i0))])) t
                  refine XS.dcmpS P355.here P355.x rfl (hb hby at_658) rfl (dcmpZ (dint_ite (fun _ => Dk) (fun _ => (own_ds E0 E1 E2 i0 hi0))) (dint_ite (fun _ => Dk) (fun _ => (own_ds E0 E1 E2 i2 hi2)))) ?_
                  show Steps p.tables e below (T354.setTop (mkF m 659 _ [(.int (cmpZ (if x0 = mo then p5.toInt else (own_sel V0 V1 V2 i0)) (if x2 = mo then p5.toInt else (own_sel V0 V1 V2 i2))))])) t
                  refine XS.ifYes P355.here P355.x rfl (pc0 := 659) (pc' := 664) rfl (hb hby at_659) rfl (ciW_le_t (Int.not_lt.mpr l1)) (by decide) (by decide) ?_
                  show Steps p.tables e below (T354.setTop (mkF m 664 _ [])) t
                  refine XS.iconst P355.here P355.x rfl (hb hby at_664) ?_
                  exact kk
                exact wRet P355 (t := .boolean) hret (narrow_01 (Or.inr rfl)) (Or.inl ⟨rfl, Or.inr (Or.inl rfl), _, rfl⟩) (hb hby at_665) rfl
              · refine Done.stepL (pc' := 511) (st' := [(.int (3 : Int32)), (.ref ob), (.int (of 0))]) (fun t kk => ?_) ?_
                · show Steps p.tables e below (T300.setTop (mkF m 505 _ [])) t
                  refine XS.iload P301.here P301.x rfl (hb hby at_505) rfl ?_
                  show Steps p.tables e below (T300.setTop (mkF m 507 _ [(.int (of 0))])) t
                  refine XS.aload P301.here P301.x rfl (hb hby at_507) rfl rfl ?_
                  show Steps p.tables e below (T300.setTop (mkF m 509 _ [(.ref ob), (.int (of 0))])) t
                  refine XS.iload P301.here P301.x rfl (hb hby at_509) rfl ?_
                  exact kk
                have f358 := (((f269.keep K283 (ninS (by first | assumption | exact Ne.symm (by assumption) | exact adr_ne (by omega) | omega) (ninS (by first | assumption | exact Ne.symm (by assumption) | exact adr_ne (by omega) | omega) (ninS (by first | assumption | exact Ne.symm (by assumption) | exact adr_ne (by omega) | omega) nin0)))).keep K292 (ninS (by first | assumption | exact Ne.symm (by assumption) | exact adr_ne (by omega) | omega) (ninS (by first | assumption | exact Ne.symm (by assumption) | exact adr_ne (by omega) | omega) nin0))).keep K307 (ninS (by first | assumption | exact Ne.symm (by assumption) | exact adr_ne (by omega) | omega) (ninS (by first | assumption | exact Ne.symm (by assumption) | exact adr_ne (by omega) | omega) (ninS (by first | assumption | exact Ne.symm (by assumption) | exact adr_ne (by omega) | omega) nin0))))
                refine wCallS P301 (m_ofd3 l Z a0 hw (of 0) x0 x1 x2 ob h306 f358 (Or.inr (Or.inl e0))) (tw61 hw) (tw62 hw) (tw63 hw) (tw64 hw) (by decide) (by rw [hml]; rfl) (lenOf pd_8 rfl) (argsL := [(.int (of 0)), (.ref ob), (.int (3 : Int32))]) (rest := []) rfl rfl (W := 0) (Nat.le_of_eq rfl) (by decide) (by decide) (by decide) (by decide) (by simp) (hb hby at_511) rfl (k' := 6) (n' := 46) rfl rfl ?_
                rintro T356 _ _ P357 - ⟨rfl, rfl⟩
                show Done _ _ _ _ _ _ _ _ _ _ _ _ _ _ _ T356 (mkF m 514 _ [(.int (1 : Int32))])
                refine Done.stepL (pc' := 531) (st' := [(.int (3 : Int32)), (.ref ob), (.int (of 1))]) (fun t kk => ?_) ?_
                · show Steps p.tables e below (T356.setTop (mkF m 514 _ [(.int (1 : Int32))])) t
                  refine XS.ifYes P357.here P357.x rfl (pc0 := 514) (pc' := 519) rfl (hb hby at_514) rfl (i0W_ne_t (by decide)) (by decide) (by decide) ?_
                  show Steps p.tables e below (T356.setTop (mkF m 519 _ [])) t
                  refine XS.iload P357.here P357.x rfl (hb hby at_519) rfl ?_
                  show Steps p.tables e below (T356.setTop (mkF m 521 _ [(.int (3 : Int32))])) t
                  refine XS.iconst P357.here P357.x rfl (hb hby at_521) ?_
                  show Steps p.tables e below (T356.setTop (mkF m 522 _ [(.int (2 : Int32)), (.int (3 : Int32))])) t
                  refine XS.icmpNo P357.here P357.x rfl (hb hby at_522) rfl (iiW_lt_f (by decide)) ?_
                  show Steps p.tables e below (T356.setTop (mkF m 525 _ [])) t
                  refine XS.iload P357.here P357.x rfl (hb hby at_525) rfl ?_
                  show Steps p.tables e below (T356.setTop (mkF m 527 _ [(.int (of 1))])) t
                  refine XS.aload P357.here P357.x rfl (hb hby at_527) rfl rfl ?_
                  show Steps p.tables e below (T356.setTop (mkF m 529 _ [(.ref ob), (.int (of 1))])) t
                  refine XS.iload P357.here P357.x rfl (hb hby at_529) rfl ?_
                  exact kk
                refine wCallS P357 (m_ofd3 l Z a0 hw (of 1) x0 x1 x2 ob h306 f358 (Or.inr (Or.inr e1))) (tw61 hw) (tw62 hw) (tw63 hw) (tw64 hw) (by decide) (by rw [hml]; rfl) (lenOf pd_8 rfl) (argsL := [(.int (of 1)), (.ref ob), (.int (3 : Int32))]) (rest := []) rfl rfl (W := 0) (Nat.le_of_eq rfl) (by decide) (by decide) (by decide) (by decide) (by simp) (hb hby at_531) rfl (k' := 6) (n' := 46) rfl rfl ?_
                rintro T359 _ _ P360 - ⟨rfl, rfl⟩
                show Done _ _ _ _ _ _ _ _ _ _ _ _ _ _ _ T359 (mkF m 534 _ [(.int (1 : Int32))])
                refine Done.stepL (pc' := 551) (st' := [(.int (3 : Int32)), (.ref ob), (.int (of 2))]) (fun t kk => ?_) ?_
                · show Steps p.tables e below (T359.setTop (mkF m 534 _ [(.int (1 : Int32))])) t
                  refine XS.ifYes P360.here P360.x rfl (pc0 := 534) (pc' := 539) rfl (hb hby at_534) rfl (i0W_ne_t (by decide)) (by decide) (by decide) ?_
                  show Steps p.tables e below (T359.setTop (mkF m 539 _ [])) t
                  refine XS.iload P360.here P360.x rfl (hb hby at_539) rfl ?_
                  show Steps p.tables e below (T359.setTop (mkF m 541 _ [(.int (3 : Int32))])) t
                  refine XS.iconst P360.here P360.x rfl (hb hby at_541) ?_
                  show Steps p.tables e below (T359.setTop (mkF m 542 _ [(.int (3 : Int32)), (.int (3 : Int32))])) t
                  refine XS.icmpNo P360.here P360.x rfl (hb hby at_542) rfl (iiW_lt_f (by decide)) ?_
                  show Steps p.tables e below (T359.setTop (mkF m 545 _ [])) t
                  refine XS.iload P360.here P360.x rfl (hb hby at_545) rfl ?_
                  show Steps p.tables e below (T359.setTop (mkF m 547 _ [(.int (of 2))])) t
                  refine XS.aload P360.here P360.x rfl (hb hby at_547) rfl rfl ?_
                  show Steps p.tables e below (T359.setTop (mkF m 549 _ [(.ref ob), (.int (of 2))])) t
                  refine XS.iload P360.here P360.x rfl (hb hby at_549) rfl ?_
                  exact kk
                refine wCallS P360 (m_ofd3 l Z a0 hw (of 2) x0 x1 x2 ob h306 f358 (Or.inl e2)) (tw61 hw) (tw62 hw) (tw63 hw) (tw64 hw) (by decide) (by rw [hml]; rfl) (lenOf pd_8 rfl) (argsL := [(.int (of 2)), (.ref ob), (.int (3 : Int32))]) (rest := []) rfl rfl (W := 0) (Nat.le_of_eq rfl) (by decide) (by decide) (by decide) (by decide) (by simp) (hb hby at_551) rfl (k' := 6) (n' := 46) rfl rfl ?_
                rintro T361 _ _ P362 - ⟨rfl, rfl⟩
                show Done _ _ _ _ _ _ _ _ _ _ _ _ _ _ _ T361 (mkF m 554 _ [(.int (1 : Int32))])
                refine Done.stepL (pc' := 610) (st' := [(.ref vb), (.double wk), (.int mo), (.int (of 0))]) (fun t kk => ?_) ?_
                · show Steps p.tables e below (T361.setTop (mkF m 554 _ [(.int (1 : Int32))])) t
                  refine XS.ifYes P362.here P362.x rfl (pc0 := 554) (pc' := 559) rfl (hb hby at_554) rfl (i0W_ne_t (by decide)) (by decide) (by decide) ?_
                  show Steps p.tables e below (T361.setTop (mkF m 559 _ [])) t
                  refine XS.iload P362.here P362.x rfl (hb hby at_559) rfl ?_
                  show Steps p.tables e below (T361.setTop (mkF m 561 _ [(.int (3 : Int32))])) t
                  refine XS.iconst P362.here P362.x rfl (hb hby at_561) ?_
                  show Steps p.tables e below (T361.setTop (mkF m 562 _ [(.int (2 : Int32)), (.int (3 : Int32))])) t
                  refine XS.icmpNo P362.here P362.x rfl (hb hby at_562) rfl (iiW_lt_f (by decide)) ?_
                  show Steps p.tables e below (T361.setTop (mkF m 565 _ [])) t
                  refine XS.iload P362.here P362.x rfl (hb hby at_565) rfl ?_
                  show Steps p.tables e below (T361.setTop (mkF m 567 _ [(.int (of 0))])) t
                  refine XS.iload P362.here P362.x rfl (hb hby at_567) rfl ?_
                  show Steps p.tables e below (T361.setTop (mkF m 569 _ [(.int (of 1)), (.int (of 0))])) t
                  refine XS.icmpYes P362.here P362.x rfl (pc0 := 569) (pc' := 574) rfl (hb hby at_569) rfl (iiW_ne_t (own_neq e0 e1 hx1 hx2 hi1 hi2 pm12)) (by decide) (by decide) ?_
                  show Steps p.tables e below (T361.setTop (mkF m 574 _ [])) t
                  refine XS.iload P362.here P362.x rfl (hb hby at_574) rfl ?_
                  show Steps p.tables e below (T361.setTop (mkF m 576 _ [(.int (3 : Int32))])) t
                  refine XS.iconst P362.here P362.x rfl (hb hby at_576) ?_
                  show Steps p.tables e below (T361.setTop (mkF m 577 _ [(.int (3 : Int32)), (.int (3 : Int32))])) t
                  refine XS.icmpNo P362.here P362.x rfl (hb hby at_577) rfl (iiW_lt_f (by decide)) ?_
                  show Steps p.tables e below (T361.setTop (mkF m 580 _ [])) t
                  refine XS.iload P362.here P362.x rfl (hb hby at_580) rfl ?_
                  show Steps p.tables e below (T361.setTop (mkF m 582 _ [(.int (of 0))])) t
                  refine XS.iload P362.here P362.x rfl (hb hby at_582) rfl ?_
                  show Steps p.tables e below (T361.setTop (mkF m 584 _ [(.int (of 2)), (.int (of 0))])) t
                  refine XS.icmpNo P362.here P362.x rfl (hb hby at_584) rfl (iiW_eq_f (own_neq e0 e2 hx1 hx0 hi1 hi0 (Ne.symm pm01))) ?_
                  show Steps p.tables e below (T361.setTop (mkF m 587 _ [])) t
                  refine XS.iload P362.here P362.x rfl (hb hby at_587) rfl ?_
                  show Steps p.tables e below (T361.setTop (mkF m 589 _ [(.int (of 1))])) t
                  refine XS.iload P362.here P362.x rfl (hb hby at_589) rfl ?_
                  show Steps p.tables e below (T361.setTop (mkF m 591 _ [(.int (of 2)), (.int (of 1))])) t
                  refine XS.icmpYes P362.here P362.x rfl (pc0 := 591) (pc' := 596) rfl (hb hby at_591) rfl (iiW_ne_t (own_neq e1 e2 hx2 hx0 hi2 hi0 (Ne.symm pm02))) (by decide) (by decide) ?_
                  show Steps p.tables e below (T361.setTop (mkF m 596 _ [])) t
                  refine XS.iload P362.here P362.x rfl (hb hby at_596) rfl ?_
                  show Steps p.tables e below (T361.setTop (mkF m 598 _ [(.int (3 : Int32))])) t
                  refine XS.iconst P362.here P362.x rfl (hb hby at_598) ?_
                  show Steps p.tables e below (T361.setTop (mkF m 599 _ [(.int (2 : Int32)), (.int (3 : Int32))])) t
                  refine XS.icmpNo P362.here P362.x rfl (hb hby at_599) rfl (iiW_lt_f (by decide)) ?_
                  show Steps p.tables e below (T361.setTop (mkF m 602 _ [])) t
                  refine XS.iload P362.here P362.x rfl (hb hby at_602) rfl ?_
                  show Steps p.tables e below (T361.setTop (mkF m 604 _ [(.int (of 0))])) t
                  refine XS.iload P362.here P362.x rfl (hb hby at_604) rfl ?_
                  show Steps p.tables e below (T361.setTop (mkF m 606 _ [(.int mo), (.int (of 0))])) t
                  refine XS.dload P362.here P362.x rfl (hb hby at_606) rfl ?_
                  show Steps p.tables e below (T361.setTop (mkF m 608 _ [(.double wk), (.int mo), (.int (of 0))])) t
                  refine XS.aload P362.here P362.x rfl (hb hby at_608) rfl rfl ?_
                  exact kk
                have f365 := (((f270.keep K283 (ninS (by first | assumption | exact Ne.symm (by assumption) | exact adr_ne (by omega) | omega) (ninS (by first | assumption | exact Ne.symm (by assumption) | exact adr_ne (by omega) | omega) (ninS (by first | assumption | exact Ne.symm (by assumption) | exact adr_ne (by omega) | omega) nin0)))).keep K292 (ninS (by first | assumption | exact Ne.symm (by assumption) | exact adr_ne (by omega) | omega) (ninS (by first | assumption | exact Ne.symm (by assumption) | exact adr_ne (by omega) | omega) nin0))).keep K307 (ninS (by first | assumption | exact Ne.symm (by assumption) | exact adr_ne (by omega) | omega) (ninS (by first | assumption | exact Ne.symm (by assumption) | exact adr_ne (by omega) | omega) (ninS (by first | assumption | exact Ne.symm (by assumption) | exact adr_ne (by omega) | omega) nin0))))
                refine wCallS P362 (m_kyo l Z a0 hw (of 0) mo wk vb x1 i1 (oupd (oupd (oupd (fun _ => (0 : UInt64)) 0 w0) 1 w1) 2 w2) h306 f365 (own_sub e0 hx1 hi1) hx1 hi1) (tw65 hw) (tw66 hw) (tw63 hw) (tw67 hw) (by decide) (by rw [hml]; rfl) (lenOf pd_9 rfl) (argsL := [(.int (of 0)), (.int mo), (.double wk), (.ref vb)]) (rest := []) rfl rfl (W := 0) (Nat.le_of_eq rfl) (by decide) (by decide) (by decide) (by decide) (by simp) (hb hby at_610) rfl (k' := 6) (n' := 46) rfl rfl ?_
                rintro T363 _ _ P364 - ⟨rfl, rfl⟩
                show Done _ _ _ _ _ _ _ _ _ _ _ _ _ _ _ T363 (mkF m 613 _ [(.double (if x1 = mo then wk else (oupd (oupd (oupd (fun _ => (0 : UInt64)) 0 w0) 1 w1) 2 w2) i1))])
                refine Done.stepL (pc' := 621) (st' := [(.ref vb), (.double wk), (.int mo), (.int (of 1)), (.double (if x1 = mo then wk else (oupd (oupd (oupd (fun _ => (0 : UInt64)) 0 w0) 1 w1) 2 w2) i1))]) (fun t kk => ?_) ?_
                · show Steps p.tables e below (T363.setTop (mkF m 613 _ [(.double (if x1 = mo then wk else (oupd (oupd (oupd (fun _ => (0 : UInt64)) 0 w0) 1 w1) 2 w2) i1))])) t
                  refine XS.iload P364.here P364.x rfl (hb hby at_613) rfl ?_
                  show Steps p.tables e below (T363.setTop (mkF m 615 _ [(.int (of 1)), (.double (if x1 = mo then wk else (oupd (oupd (oupd (fun _ => (0 : UInt64)) 0 w0) 1 w1) 2 w2) i1))])) t
                  refine XS.iload P364.here P364.x rfl (hb hby at_615) rfl ?_
                  show Steps p.tables e below (T363.setTop (mkF m 617 _ [(.int mo), (.int (of 1)), (.double (if x1 = mo then wk else (oupd (oupd (oupd (fun _ => (0 : UInt64)) 0 w0) 1 w1) 2 w2) i1))])) t
                  refine XS.dload P364.here P364.x rfl (hb hby at_617) rfl ?_
                  show Steps p.tables e below (T363.setTop (mkF m 619 _ [(.double wk), (.int mo), (.int (of 1)), (.double (if x1 = mo then wk else (oupd (oupd (oupd (fun _ => (0 : UInt64)) 0 w0) 1 w1) 2 w2) i1))])) t
                  refine XS.aload P364.here P364.x rfl (hb hby at_619) rfl rfl ?_
                  exact kk
                refine wCallS P364 (m_kyo l Z a0 hw (of 1) mo wk vb x2 i2 (oupd (oupd (oupd (fun _ => (0 : UInt64)) 0 w0) 1 w1) 2 w2) h306 f365 (own_sub e1 hx2 hi2) hx2 hi2) (tw65 hw) (tw66 hw) (tw63 hw) (tw67 hw) (by decide) (by rw [hml]; rfl) (lenOf pd_9 rfl) (argsL := [(.int (of 1)), (.int mo), (.double wk), (.ref vb)]) (rest := [(.double (if x1 = mo then wk else (oupd (oupd (oupd (fun _ => (0 : UInt64)) 0 w0) 1 w1) 2 w2) i1))]) rfl rfl (W := 2) (Nat.le_of_eq rfl) (by decide) (by decide) (by decide) (by decide) (by simp) (hb hby at_621) rfl (k' := 6) (n' := 46) rfl rfl ?_
                rintro T366 _ _ P367 - ⟨rfl, rfl⟩
                show Done _ _ _ _ _ _ _ _ _ _ _ _ _ _ _ T366 (mkF m 624 _ [(.double (if x2 = mo then wk else (oupd (oupd (oupd (fun _ => (0 : UInt64)) 0 w0) 1 w1) 2 w2) i2)), (.double (if x1 = mo then wk else (oupd (oupd (oupd (fun _ => (0 : UInt64)) 0 w0) 1 w1) 2 w2) i1))])
                refine Done.stepL (pc' := 644) (st' := [(.ref vb), (.double wk), (.int mo), (.int (of 1))]) (fun t kk => ?_) ?_
                · show Steps p.tables e below (T366.setTop (mkF m 624 _ [(.double (if x2 = mo then wk else (oupd (oupd (oupd (fun _ => (0 : UInt64)) 0 w0) 1 w1) 2 w2) i2)), (.double (if x1 = mo then wk else (oupd (oupd (oupd (fun _ => (0 : UInt64)) 0 w0) 1 w1) 2 w2) i1))])) t
                  refine XS.dcmpS P367.here P367.x rfl (hb hby at_624) rfl (dcmpZ (dint_ite (fun _ => Dk) (fun _ => (own_ds E0 E1 E2 i1 hi1))) (dint_ite (fun _ => Dk) (fun _ => (own_ds E0 E1 E2 i2 hi2)))) ?_
                  show Steps p.tables e below (T366.setTop (mkF m 625 _ [(.int (cmpZ (if x1 = mo then p5.toInt else (own_sel V0 V1 V2 i1)) (if x2 = mo then p5.toInt else (own_sel V0 V1 V2 i2))))])) t
                  refine XS.ifYes P367.here P367.x rfl (pc0 := 625) (pc' := 630) rfl (hb hby at_625) rfl (ciW_le_t (Int.not_lt.mpr l0)) (by decide) (by decide) ?_
                  show Steps p.tables e below (T366.setTop (mkF m 630 _ [])) t
                  refine XS.iload P367.here P367.x rfl (hb hby at_630) rfl ?_
                  show Steps p.tables e below (T366.setTop (mkF m 632 _ [(.int (3 : Int32))])) t
                  refine XS.iconst P367.here P367.x rfl (hb hby at_632) ?_
                  show Steps p.tables e below (T366.setTop (mkF m 633 _ [(.int (3 : Int32)), (.int (3 : Int32))])) t
                  refine XS.icmpNo P367.here P367.x rfl (hb hby at_633) rfl (iiW_lt_f (by decide)) ?_
                  show Steps p.tables e below (T366.setTop (mkF m 636 _ [])) t
                  refine XS.iload P367.here P367.x rfl (hb hby at_636) rfl ?_
                  show Steps p.tables e below (T366.setTop (mkF m 638 _ [(.int (of 1))])) t
                  refine XS.iload P367.here P367.x rfl (hb hby at_638) rfl ?_
                  show Steps p.tables e below (T366.setTop (mkF m 640 _ [(.int mo), (.int (of 1))])) t
                  refine XS.dload P367.here P367.x rfl (hb hby at_640) rfl ?_
                  show Steps p.tables e below (T366.setTop (mkF m 642 _ [(.double wk), (.int mo), (.int (of 1))])) t
                  refine XS.aload P367.here P367.x rfl (hb hby at_642) rfl rfl ?_
                  exact kk
                refine wCallS P367 (m_kyo l Z a0 hw (of 1) mo wk vb x2 i2 (oupd (oupd (oupd (fun _ => (0 : UInt64)) 0 w0) 1 w1) 2 w2) h306 f365 (own_sub e1 hx2 hi2) hx2 hi2) (tw65 hw) (tw66 hw) (tw63 hw) (tw67 hw) (by decide) (by rw [hml]; rfl) (lenOf pd_9 rfl) (argsL := [(.int (of 1)), (.int mo), (.double wk), (.ref vb)]) (rest := []) rfl rfl (W := 0) (Nat.le_of_eq rfl) (by decide) (by decide) (by decide) (by decide) (by simp) (hb hby at_644) rfl (k' := 6) (n' := 46) rfl rfl ?_
                rintro T368 _ _ P369 - ⟨rfl, rfl⟩
                show Done _ _ _ _ _ _ _ _ _ _ _ _ _ _ _ T368 (mkF m 647 _ [(.double (if x2 = mo then wk else (oupd (oupd (oupd (fun _ => (0 : UInt64)) 0 w0) 1 w1) 2 w2) i2))])
                refine Done.stepL (pc' := 655) (st' := [(.ref vb), (.double wk), (.int mo), (.int (of 2)), (.double (if x2 = mo then wk else (oupd (oupd (oupd (fun _ => (0 : UInt64)) 0 w0) 1 w1) 2 w2) i2))]) (fun t kk => ?_) ?_
                · show Steps p.tables e below (T368.setTop (mkF m 647 _ [(.double (if x2 = mo then wk else (oupd (oupd (oupd (fun _ => (0 : UInt64)) 0 w0) 1 w1) 2 w2) i2))])) t
                  refine XS.iload P369.here P369.x rfl (hb hby at_647) rfl ?_
                  show Steps p.tables e below (T368.setTop (mkF m 649 _ [(.int (of 2)), (.double (if x2 = mo then wk else (oupd (oupd (oupd (fun _ => (0 : UInt64)) 0 w0) 1 w1) 2 w2) i2))])) t
                  refine XS.iload P369.here P369.x rfl (hb hby at_649) rfl ?_
                  show Steps p.tables e below (T368.setTop (mkF m 651 _ [(.int mo), (.int (of 2)), (.double (if x2 = mo then wk else (oupd (oupd (oupd (fun _ => (0 : UInt64)) 0 w0) 1 w1) 2 w2) i2))])) t
                  refine XS.dload P369.here P369.x rfl (hb hby at_651) rfl ?_
                  show Steps p.tables e below (T368.setTop (mkF m 653 _ [(.double wk), (.int mo), (.int (of 2)), (.double (if x2 = mo then wk else (oupd (oupd (oupd (fun _ => (0 : UInt64)) 0 w0) 1 w1) 2 w2) i2))])) t
                  refine XS.aload P369.here P369.x rfl (hb hby at_653) rfl rfl ?_
                  exact kk
                refine wCallS P369 (m_kyo l Z a0 hw (of 2) mo wk vb x0 i0 (oupd (oupd (oupd (fun _ => (0 : UInt64)) 0 w0) 1 w1) 2 w2) h306 f365 (own_sub e2 hx0 hi0) hx0 hi0) (tw65 hw) (tw66 hw) (tw63 hw) (tw67 hw) (by decide) (by rw [hml]; rfl) (lenOf pd_9 rfl) (argsL := [(.int (of 2)), (.int mo), (.double wk), (.ref vb)]) (rest := [(.double (if x2 = mo then wk else (oupd (oupd (oupd (fun _ => (0 : UInt64)) 0 w0) 1 w1) 2 w2) i2))]) rfl rfl (W := 2) (Nat.le_of_eq rfl) (by decide) (by decide) (by decide) (by decide) (by simp) (hb hby at_655) rfl (k' := 6) (n' := 46) rfl rfl ?_
                rintro T370 _ _ P371 - ⟨rfl, rfl⟩
                show Done _ _ _ _ _ _ _ _ _ _ _ _ _ _ _ T370 (mkF m 658 _ [(.double (if x0 = mo then wk else (oupd (oupd (oupd (fun _ => (0 : UInt64)) 0 w0) 1 w1) 2 w2) i0)), (.double (if x2 = mo then wk else (oupd (oupd (oupd (fun _ => (0 : UInt64)) 0 w0) 1 w1) 2 w2) i2))])
                refine Done.stepL (pc' := 665) (st' := [(.int (1 : Int32))]) (fun t kk => ?_) ?_
                · show Steps p.tables e below (T370.setTop (mkF m 658 _ [(.double (if x0 = mo then wk else (oupd (oupd (oupd (fun _ => (0 : UInt64)) 0 w0) 1 w1) 2 w2) i0)), (.double (if x2 = mo then wk else (oupd (oupd (oupd (fun _ => (0 : UInt64)) 0 w0) 1 w1) 2 w2) i2))])) t
                  refine XS.dcmpS P371.here P371.x rfl (hb hby at_658) rfl (dcmpZ (dint_ite (fun _ => Dk) (fun _ => (own_ds E0 E1 E2 i2 hi2))) (dint_ite (fun _ => Dk) (fun _ => (own_ds E0 E1 E2 i0 hi0)))) ?_
                  show Steps p.tables e below (T370.setTop (mkF m 659 _ [(.int (cmpZ (if x2 = mo then p5.toInt else (own_sel V0 V1 V2 i2)) (if x0 = mo then p5.toInt else (own_sel V0 V1 V2 i0))))])) t
                  refine XS.ifYes P371.here P371.x rfl (pc0 := 659) (pc' := 664) rfl (hb hby at_659) rfl (ciW_le_t (Int.not_lt.mpr l1)) (by decide) (by decide) ?_
                  show Steps p.tables e below (T370.setTop (mkF m 664 _ [])) t
                  refine XS.iconst P371.here P371.x rfl (hb hby at_664) ?_
                  exact kk
                exact wRet P371 (t := .boolean) hret (narrow_01 (Or.inr rfl)) (Or.inl ⟨rfl, Or.inr (Or.inl rfl), _, rfl⟩) (hb hby at_665) rfl
              · refine Done.stepL (pc' := 511) (st' := [(.int (3 : Int32)), (.ref ob), (.int (of 0))]) (fun t kk => ?_) ?_
                · show Steps p.tables e below (T300.setTop (mkF m 505 _ [])) t
                  refine XS.iload P301.here P301.x rfl (hb hby at_505) rfl ?_
                  show Steps p.tables e below (T300.setTop (mkF m 507 _ [(.int (of 0))])) t
                  refine XS.aload P301.here P301.x rfl (hb hby at_507) rfl rfl ?_
                  show Steps p.tables e below (T300.setTop (mkF m 509 _ [(.ref ob), (.int (of 0))])) t
                  refine XS.iload P301.here P301.x rfl (hb hby at_509) rfl ?_
                  exact kk
                have f374 := (((f269.keep K283 (ninS (by first | assumption | exact Ne.symm (by assumption) | exact adr_ne (by omega) | omega) (ninS (by first | assumption | exact Ne.symm (by assumption) | exact adr_ne (by omega) | omega) (ninS (by first | assumption | exact Ne.symm (by assumption) | exact adr_ne (by omega) | omega) nin0)))).keep K292 (ninS (by first | assumption | exact Ne.symm (by assumption) | exact adr_ne (by omega) | omega) (ninS (by first | assumption | exact Ne.symm (by assumption) | exact adr_ne (by omega) | omega) nin0))).keep K307 (ninS (by first | assumption | exact Ne.symm (by assumption) | exact adr_ne (by omega) | omega) (ninS (by first | assumption | exact Ne.symm (by assumption) | exact adr_ne (by omega) | omega) (ninS (by first | assumption | exact Ne.symm (by assumption) | exact adr_ne (by omega) | omega) nin0))))
                refine wCallS P301 (m_ofd3 l Z a0 hw (of 0) x0 x1 x2 ob h306 f374 (Or.inr (Or.inr e0))) (tw61 hw) (tw62 hw) (tw63 hw) (tw64 hw) (by decide) (by rw [hml]; rfl) (lenOf pd_8 rfl) (argsL := [(.int (of 0)), (.ref ob), (.int (3 : Int32))]) (rest := []) rfl rfl (W := 0) (Nat.le_of_eq rfl) (by decide) (by decide) (by decide) (by decide) (by simp) (hb hby at_511) rfl (k' := 6) (n' := 46) rfl rfl ?_
                rintro T372 _ _ P373 - ⟨rfl, rfl⟩
                show Done _ _ _ _ _ _ _ _ _ _ _ _ _ _ _ T372 (mkF m 514 _ [(.int (1 : Int32))])
                refine Done.stepL (pc' := 531) (st' := [(.int (3 : Int32)), (.ref ob), (.int (of 1))]) (fun t kk => ?_) ?_
                · show Steps p.tables e below (T372.setTop (mkF m 514 _ [(.int (1 : Int32))])) t
                  refine XS.ifYes P373.here P373.x rfl (pc0 := 514) (pc' := 519) rfl (hb hby at_514) rfl (i0W_ne_t (by decide)) (by decide) (by decide) ?_
                  show Steps p.tables e below (T372.setTop (mkF m 519 _ [])) t
                  refine XS.iload P373.here P373.x rfl (hb hby at_519) rfl ?_
                  show Steps p.tables e below (T372.setTop (mkF m 521 _ [(.int (3 : Int32))])) t
                  refine XS.iconst P373.here P373.x rfl (hb hby at_521) ?_
                  show Steps p.tables e below (T372.setTop (mkF m 522 _ [(.int (2 : Int32)), (.int (3 : Int32))])) t
                  refine XS.icmpNo P373.here P373.x rfl (hb hby at_522) rfl (iiW_lt_f (by decide)) ?_
                  show Steps p.tables e below (T372.setTop (mkF m 525 _ [])) t
                  refine XS.iload P373.here P373.x rfl (hb hby at_525) rfl ?_
                  show Steps p.tables e below (T372.setTop (mkF m 527 _ [(.int (of 1))])) t
                  refine XS.aload P373.here P373.x rfl (hb hby at_527) rfl rfl ?_
                  show Steps p.tables e below (T372.setTop (mkF m 529 _ [(.ref ob), (.int (of 1))])) t
                  refine XS.iload P373.here P373.x rfl (hb hby at_529) rfl ?_
                  exact kk
                refine wCallS P373 (m_ofd3 l Z a0 hw (of 1) x0 x1 x2 ob h306 f374 (Or.inl e1)) (tw61 hw) (tw62 hw) (tw63 hw) (tw64 hw) (by decide) (by rw [hml]; rfl) (lenOf pd_8 rfl) (argsL := [(.int (of 1)), (.ref ob), (.int (3 : Int32))]) (rest := []) rfl rfl (W := 0) (Nat.le_of_eq rfl) (by decide) (by decide) (by decide) (by decide) (by simp) (hb hby at_531) rfl (k' := 6) (n' := 46) rfl rfl ?_
                rintro T375 _ _ P376 - ⟨rfl, rfl⟩
                show Done _ _ _ _ _ _ _ _ _ _ _ _ _ _ _ T375 (mkF m 534 _ [(.int (1 : Int32))])
                refine Done.stepL (pc' := 551) (st' := [(.int (3 : Int32)), (.ref ob), (.int (of 2))]) (fun t kk => ?_) ?_
                · show Steps p.tables e below (T375.setTop (mkF m 534 _ [(.int (1 : Int32))])) t
                  refine XS.ifYes P376.here P376.x rfl (pc0 := 534) (pc' := 539) rfl (hb hby at_534) rfl (i0W_ne_t (by decide)) (by decide) (by decide) ?_
                  show Steps p.tables e below (T375.setTop (mkF m 539 _ [])) t
                  refine XS.iload P376.here P376.x rfl (hb hby at_539) rfl ?_
                  show Steps p.tables e below (T375.setTop (mkF m 541 _ [(.int (3 : Int32))])) t
                  refine XS.iconst P376.here P376.x rfl (hb hby at_541) ?_
                  show Steps p.tables e below (T375.setTop (mkF m 542 _ [(.int (3 : Int32)), (.int (3 : Int32))])) t
                  refine XS.icmpNo P376.here P376.x rfl (hb hby at_542) rfl (iiW_lt_f (by decide)) ?_
                  show Steps p.tables e below (T375.setTop (mkF m 545 _ [])) t
                  refine XS.iload P376.here P376.x rfl (hb hby at_545) rfl ?_
                  show Steps p.tables e below (T375.setTop (mkF m 547 _ [(.int (of 2))])) t
                  refine XS.aload P376.here P376.x rfl (hb hby at_547) rfl rfl ?_
                  show Steps p.tables e below (T375.setTop (mkF m 549 _ [(.ref ob), (.int (of 2))])) t
                  refine XS.iload P376.here P376.x rfl (hb hby at_549) rfl ?_
                  exact kk
                refine wCallS P376 (m_ofd3 l Z a0 hw (of 2) x0 x1 x2 ob h306 f374 (Or.inr (Or.inl e2))) (tw61 hw) (tw62 hw) (tw63 hw) (tw64 hw) (by decide) (by rw [hml]; rfl) (lenOf pd_8 rfl) (argsL := [(.int (of 2)), (.ref ob), (.int (3 : Int32))]) (rest := []) rfl rfl (W := 0) (Nat.le_of_eq rfl) (by decide) (by decide) (by decide) (by decide) (by simp) (hb hby at_551) rfl (k' := 6) (n' := 46) rfl rfl ?_
                rintro T377 _ _ P378 - ⟨rfl, rfl⟩
                show Done _ _ _ _ _ _ _ _ _ _ _ _ _ _ _ T377 (mkF m 554 _ [(.int (1 : Int32))])
                refine Done.stepL (pc' := 610) (st' := [(.ref vb), (.double wk), (.int mo), (.int (of 0))]) (fun t kk => ?_) ?_
                · show Steps p.tables e below (T377.setTop (mkF m 554 _ [(.int (1 : Int32))])) t
                  refine XS.ifYes P378.here P378.x rfl (pc0 := 554) (pc' := 559) rfl (hb hby at_554) rfl (i0W_ne_t (by decide)) (by decide) (by decide) ?_
                  show Steps p.tables e below (T377.setTop (mkF m 559 _ [])) t
                  refine XS.iload P378.here P378.x rfl (hb hby at_559) rfl ?_
                  show Steps p.tables e below (T377.setTop (mkF m 561 _ [(.int (3 : Int32))])) t
                  refine XS.iconst P378.here P378.x rfl (hb hby at_561) ?_
                  show Steps p.tables e below (T377.setTop (mkF m 562 _ [(.int (2 : Int32)), (.int (3 : Int32))])) t
                  refine XS.icmpNo P378.here P378.x rfl (hb hby at_562) rfl (iiW_lt_f (by decide)) ?_
                  show Steps p.tables e below (T377.setTop (mkF m 565 _ [])) t
                  refine XS.iload P378.here P378.x rfl (hb hby at_565) rfl ?_
                  show Steps p.tables e below (T377.setTop (mkF m 567 _ [(.int (of 0))])) t
                  refine XS.iload P378.here P378.x rfl (hb hby at_567) rfl ?_
                  show Steps p.tables e below (T377.setTop (mkF m 569 _ [(.int (of 1)), (.int (of 0))])) t
                  refine XS.icmpYes P378.here P378.x rfl (pc0 := 569) (pc' := 574) rfl (hb hby at_569) rfl (iiW_ne_t (own_neq e0 e1 hx2 hx0 hi2 hi0 (Ne.symm pm02))) (by decide) (by decide) ?_
                  show Steps p.tables e below (T377.setTop (mkF m 574 _ [])) t
                  refine XS.iload P378.here P378.x rfl (hb hby at_574) rfl ?_
                  show Steps p.tables e below (T377.setTop (mkF m 576 _ [(.int (3 : Int32))])) t
                  refine XS.iconst P378.here P378.x rfl (hb hby at_576) ?_
                  show Steps p.tables e below (T377.setTop (mkF m 577 _ [(.int (3 : Int32)), (.int (3 : Int32))])) t
                  refine XS.icmpNo P378.here P378.x rfl (hb hby at_577) rfl (iiW_lt_f (by decide)) ?_
                  show Steps p.tables e below (T377.setTop (mkF m 580 _ [])) t
                  refine XS.iload P378.here P378.x rfl (hb hby at_580) rfl ?_
                  show Steps p.tables e below (T377.setTop (mkF m 582 _ [(.int (of 0))])) t
                  refine XS.iload P378.here P378.x rfl (hb hby at_582) rfl ?_
                  show Steps p.tables e below (T377.setTop (mkF m 584 _ [(.int (of 2)), (.int (of 0))])) t
                  refine XS.icmpNo P378.here P378.x rfl (hb hby at_584) rfl (iiW_eq_f (own_neq e0 e2 hx2 hx1 hi2 hi1 (Ne.symm pm12))) ?_
                  show Steps p.tables e below (T377.setTop (mkF m 587 _ [])) t
                  refine XS.iload P378.here P378.x rfl (hb hby at_587) rfl ?_
                  show Steps p.tables e below (T377.setTop (mkF m 589 _ [(.int (of 1))])) t
                  refine XS.iload P378.here P378.x rfl (hb hby at_589) rfl ?_
                  show Steps p.tables e below (T377.setTop (mkF m 591 _ [(.int (of 2)), (.int (of 1))])) t
                  refine XS.icmpYes P378.here P378.x rfl (pc0 := 591) (pc' := 596) rfl (hb hby at_591) rfl (iiW_ne_t (own_neq e1 e2 hx0 hx1 hi0 hi1 pm01)) (by decide) (by decide) ?_
                  show Steps p.tables e below (T377.setTop (mkF m 596 _ [])) t
                  refine XS.iload P378.here P378.x rfl (hb hby at_596) rfl ?_
                  show Steps p.tables e below (T377.setTop (mkF m 598 _ [(.int (3 : Int32))])) t
                  refine XS.iconst P378.here P378.x rfl (hb hby at_598) ?_
                  show Steps p.tables e below (T377.setTop (mkF m 599 _ [(.int (2 : Int32)), (.int (3 : Int32))])) t
                  refine XS.icmpNo P378.here P378.x rfl (hb hby at_599) rfl (iiW_lt_f (by decide)) ?_
                  show Steps p.tables e below (T377.setTop (mkF m 602 _ [])) t
                  refine XS.iload P378.here P378.x rfl (hb hby at_602) rfl ?_
                  show Steps p.tables e below (T377.setTop (mkF m 604 _ [(.int (of 0))])) t
                  refine XS.iload P378.here P378.x rfl (hb hby at_604) rfl ?_
                  show Steps p.tables e below (T377.setTop (mkF m 606 _ [(.int mo), (.int (of 0))])) t
                  refine XS.dload P378.here P378.x rfl (hb hby at_606) rfl ?_
                  show Steps p.tables e below (T377.setTop (mkF m 608 _ [(.double wk), (.int mo), (.int (of 0))])) t
                  refine XS.aload P378.here P378.x rfl (hb hby at_608) rfl rfl ?_
                  exact kk
                have f381 := (((f270.keep K283 (ninS (by first | assumption | exact Ne.symm (by assumption) | exact adr_ne (by omega) | omega) (ninS (by first | assumption | exact Ne.symm (by assumption) | exact adr_ne (by omega) | omega) (ninS (by first | assumption | exact Ne.symm (by assumption) | exact adr_ne (by omega) | omega) nin0)))).keep K292 (ninS (by first | assumption | exact Ne.symm (by assumption) | exact adr_ne (by omega) | omega) (ninS (by first | assumption | exact Ne.symm (by assumption) | exact adr_ne (by omega) | omega) nin0))).keep K307 (ninS (by first | assumption | exact Ne.symm (by assumption) | exact adr_ne (by omega) | omega) (ninS (by first | assumption | exact Ne.symm (by assumption) | exact adr_ne (by omega) | omega) (ninS (by first | assumption | exact Ne.symm (by assumption) | exact adr_ne (by omega) | omega) nin0))))
                refine wCallS P378 (m_kyo l Z a0 hw (of 0) mo wk vb x2 i2 (oupd (oupd (oupd (fun _ => (0 : UInt64)) 0 w0) 1 w1) 2 w2) h306 f381 (own_sub e0 hx2 hi2) hx2 hi2) (tw65 hw) (tw66 hw) (tw63 hw) (tw67 hw) (by decide) (by rw [hml]; rfl) (lenOf pd_9 rfl) (argsL := [(.int (of 0)), (.int mo), (.double wk), (.ref vb)]) (rest := []) rfl rfl (W := 0) (Nat.le_of_eq rfl) (by decide) (by decide) (by decide) (by decide) (by simp) (hb hby at_610) rfl (k' := 6) (n' := 46) rfl rfl ?_
                rintro T379 _ _ P380 - ⟨rfl, rfl⟩
                show Done _ _ _ _ _ _ _ _ _ _ _ _ _ _ _ T379 (mkF m 613 _ [(.double (if x2 = mo then wk else (oupd (oupd (oupd (fun _ => (0 : UInt64)) 0 w0) 1 w1) 2 w2) i2))])
                refine Done.stepL (pc' := 621) (st' := [(.ref vb), (.double wk), (.int mo), (.int (of 1)), (.double (if x2 = mo then wk else (oupd (oupd (oupd (fun _ => (0 : UInt64)) 0 w0) 1 w1) 2 w2) i2))]) (fun t kk => ?_) ?_
                · show Steps p.tables e below (T379.setTop (mkF m 613 _ [(.double (if x2 = mo then wk else (oupd (oupd (oupd (fun _ => (0 : UInt64)) 0 w0) 1 w1) 2 w2) i2))])) t
                  refine XS.iload P380.here P380.x rfl (hb hby at_613) rfl ?_
                  show Steps p.tables e below (T379.setTop (mkF m 615 _ [(.int (of 1)), (.double (if x2 = mo then wk else (oupd (oupd (oupd (fun _ => (0 : UInt64)) 0 w0) 1 w1) 2 w2) i2))])) t
                  refine XS.iload P380.here P380.x rfl (hb hby at_615) rfl ?_
                  show Steps p.tables e below (T379.setTop (mkF m 617 _ [(.int mo), (.int (of 1)), (.double (if x2 = mo then wk else (oupd (oupd (oupd (fun _ => (0 : UInt64)) 0 w0) 1 w1) 2 w2) i2))])) t
                  refine XS.dload P380.here P380.x rfl (hb hby at_617) rfl ?_
                  show Steps p.tables e below (T379.setTop (mkF m 619 _ [(.double wk), (.int mo), (.int (of 1)), (.double (if x2 = mo then wk else (oupd (oupd (oupd (fun _ => (0 : UInt64)) 0 w0) 1 w1) 2 w2) i2))])) t
                  refine XS.aload P380.here P380.x rfl (hb hby at_619) rfl rfl ?_
                  exact kk
                refine wCallS P380 (m_kyo l Z a0 hw (of 1) mo wk vb x0 i0 (oupd (oupd (oupd (fun _ => (0 : UInt64)) 0 w0) 1 w1) 2 w2) h306 f381 (own_sub e1 hx0 hi0) hx0 hi0) (tw65 hw) (tw66 hw) (tw63 hw) (tw67 hw) (by decide) (by rw [hml]; rfl) (lenOf pd_9 rfl) (argsL := [(.int (of 1)), (.int mo), (.double wk), (.ref vb)]) (rest := [(.double (if x2 = mo then wk else (oupd (oupd (oupd (fun _ => (0 : UInt64)) 0 w0) 1 w1) 2 w2) i2))]) rfl rfl (W := 2) (Nat.le_of_eq rfl) (by decide) (by decide) (by decide) (by decide) (by simp) (hb hby at_621) rfl (k' := 6) (n' := 46) rfl rfl ?_
                rintro T382 _ _ P383 - ⟨rfl, rfl⟩
                show Done _ _ _ _ _ _ _ _ _ _ _ _ _ _ _ T382 (mkF m 624 _ [(.double (if x0 = mo then wk else (oupd (oupd (oupd (fun _ => (0 : UInt64)) 0 w0) 1 w1) 2 w2) i0)), (.double (if x2 = mo then wk else (oupd (oupd (oupd (fun _ => (0 : UInt64)) 0 w0) 1 w1) 2 w2) i2))])
                refine Done.stepL (pc' := 644) (st' := [(.ref vb), (.double wk), (.int mo), (.int (of 1))]) (fun t kk => ?_) ?_
                · show Steps p.tables e below (T382.setTop (mkF m 624 _ [(.double (if x0 = mo then wk else (oupd (oupd (oupd (fun _ => (0 : UInt64)) 0 w0) 1 w1) 2 w2) i0)), (.double (if x2 = mo then wk else (oupd (oupd (oupd (fun _ => (0 : UInt64)) 0 w0) 1 w1) 2 w2) i2))])) t
                  refine XS.dcmpS P383.here P383.x rfl (hb hby at_624) rfl (dcmpZ (dint_ite (fun _ => Dk) (fun _ => (own_ds E0 E1 E2 i2 hi2))) (dint_ite (fun _ => Dk) (fun _ => (own_ds E0 E1 E2 i0 hi0)))) ?_
                  show Steps p.tables e below (T382.setTop (mkF m 625 _ [(.int (cmpZ (if x2 = mo then p5.toInt else (own_sel V0 V1 V2 i2)) (if x0 = mo then p5.toInt else (own_sel V0 V1 V2 i0))))])) t
                  refine XS.ifYes P383.here P383.x rfl (pc0 := 625) (pc' := 630) rfl (hb hby at_625) rfl (ciW_le_t (Int.not_lt.mpr l0)) (by decide) (by decide) ?_
                  show Steps p.tables e below (T382.setTop (mkF m 630 _ [])) t
                  refine XS.iload P383.here P383.x rfl (hb hby at_630) rfl ?_
                  show Steps p.tables e below (T382.setTop (mkF m 632 _ [(.int (3 : Int32))])) t
                  refine XS.iconst P383.here P383.x rfl (hb hby at_632) ?_
                  show Steps p.tables e below (T382.setTop (mkF m 633 _ [(.int (3 : Int32)), (.int (3 : Int32))])) t
                  refine XS.icmpNo P383.here P383.x rfl (hb hby at_633) rfl (iiW_lt_f (by decide)) ?_
                  show Steps p.tables e below (T382.setTop (mkF m 636 _ [])) t
                  refine XS.iload P383.here P383.x rfl (hb hby at_636) rfl ?_
                  show Steps p.tables e below (T382.setTop (mkF m 638 _ [(.int (of 1))])) t
                  refine XS.iload P383.here P383.x rfl (hb hby at_638) rfl ?_
                  show Steps p.tables e below (T382.setTop (mkF m 640 _ [(.int mo), (.int (of 1))])) t
                  refine XS.dload P383.here P383.x rfl (hb hby at_640) rfl ?_
                  show Steps p.tables e below (T382.setTop (mkF m 642 _ [(.double wk), (.int mo), (.int (of 1))])) t
                  refine XS.aload P383.here P383.x rfl (hb hby at_642) rfl rfl ?_
                  exact kk
                refine wCallS P383 (m_kyo l Z a0 hw (of 1) mo wk vb x0 i0 (oupd (oupd (oupd (fun _ => (0 : UInt64)) 0 w0) 1 w1) 2 w2) h306 f381 (own_sub e1 hx0 hi0) hx0 hi0) (tw65 hw) (tw66 hw) (tw63 hw) (tw67 hw) (by decide) (by rw [hml]; rfl) (lenOf pd_9 rfl) (argsL := [(.int (of 1)), (.int mo), (.double wk), (.ref vb)]) (rest := []) rfl rfl (W := 0) (Nat.le_of_eq rfl) (by decide) (by decide) (by decide) (by decide) (by simp) (hb hby at_644) rfl (k' := 6) (n' := 46) rfl rfl ?_
                rintro T384 _ _ P385 - ⟨rfl, rfl⟩
                show Done _ _ _ _ _ _ _ _ _ _ _ _ _ _ _ T384 (mkF m 647 _ [(.double (if x0 = mo then wk else (oupd (oupd (oupd (fun _ => (0 : UInt64)) 0 w0) 1 w1) 2 w2) i0))])
                refine Done.stepL (pc' := 655) (st' := [(.ref vb), (.double wk), (.int mo), (.int (of 2)), (.double (if x0 = mo then wk else (oupd (oupd (oupd (fun _ => (0 : UInt64)) 0 w0) 1 w1) 2 w2) i0))]) (fun t kk => ?_) ?_
                · show Steps p.tables e below (T384.setTop (mkF m 647 _ [(.double (if x0 = mo then wk else (oupd (oupd (oupd (fun _ => (0 : UInt64)) 0 w0) 1 w1) 2 w2) i0))])) t
                  refine XS.iload P385.here P385.x rfl (hb hby at_647) rfl ?_
                  show Steps p.tables e below (T384.setTop (mkF m 649 _ [(.int (of 2)), (.double (if x0 = mo then wk else (oupd (oupd (oupd (fun _ => (0 : UInt64)) 0 w0) 1 w1) 2 w2) i0))])) t
                  refine XS.iload P385.here P385.x rfl (hb hby at_649) rfl ?_
                  show Steps p.tables e below (T384.setTop (mkF m 651 _ [(.int mo), (.int (of 2)), (.double (if x0 = mo then wk else (oupd (oupd (oupd (fun _ => (0 : UInt64)) 0 w0) 1 w1) 2 w2) i0))])) t
                  refine XS.dload P385.here P385.x rfl (hb hby at_651) rfl ?_
                  show Steps p.tables e below (T384.setTop (mkF m 653 _ [(.double wk), (.int mo), (.int (of 2)), (.double (if x0 = mo then wk else (oupd (oupd (oupd (fun _ => (0 : UInt64)) 0 w0) 1 w1) 2 w2) i0))])) t
                  refine XS.aload P385.here P385.x rfl (hb hby at_653) rfl rfl ?_
                  exact kk
                refine wCallS P385 (m_kyo l Z a0 hw (of 2) mo wk vb x1 i1 (oupd (oupd (oupd (fun _ => (0 : UInt64)) 0 w0) 1 w1) 2 w2) h306 f381 (own_sub e2 hx1 hi1) hx1 hi1) (tw65 hw) (tw66 hw) (tw63 hw) (tw67 hw) (by decide) (by rw [hml]; rfl) (lenOf pd_9 rfl) (argsL := [(.int (of 2)), (.int mo), (.double wk), (.ref vb)]) (rest := [(.double (if x0 = mo then wk else (oupd (oupd (oupd (fun _ => (0 : UInt64)) 0 w0) 1 w1) 2 w2) i0))]) rfl rfl (W := 2) (Nat.le_of_eq rfl) (by decide) (by decide) (by decide) (by decide) (by simp) (hb hby at_655) rfl (k' := 6) (n' := 46) rfl rfl ?_
                rintro T386 _ _ P387 - ⟨rfl, rfl⟩
                show Done _ _ _ _ _ _ _ _ _ _ _ _ _ _ _ T386 (mkF m 658 _ [(.double (if x1 = mo then wk else (oupd (oupd (oupd (fun _ => (0 : UInt64)) 0 w0) 1 w1) 2 w2) i1)), (.double (if x0 = mo then wk else (oupd (oupd (oupd (fun _ => (0 : UInt64)) 0 w0) 1 w1) 2 w2) i0))])
                refine Done.stepL (pc' := 665) (st' := [(.int (1 : Int32))]) (fun t kk => ?_) ?_
                · show Steps p.tables e below (T386.setTop (mkF m 658 _ [(.double (if x1 = mo then wk else (oupd (oupd (oupd (fun _ => (0 : UInt64)) 0 w0) 1 w1) 2 w2) i1)), (.double (if x0 = mo then wk else (oupd (oupd (oupd (fun _ => (0 : UInt64)) 0 w0) 1 w1) 2 w2) i0))])) t
                  refine XS.dcmpS P387.here P387.x rfl (hb hby at_658) rfl (dcmpZ (dint_ite (fun _ => Dk) (fun _ => (own_ds E0 E1 E2 i0 hi0))) (dint_ite (fun _ => Dk) (fun _ => (own_ds E0 E1 E2 i1 hi1)))) ?_
                  show Steps p.tables e below (T386.setTop (mkF m 659 _ [(.int (cmpZ (if x0 = mo then p5.toInt else (own_sel V0 V1 V2 i0)) (if x1 = mo then p5.toInt else (own_sel V0 V1 V2 i1))))])) t
                  refine XS.ifYes P387.here P387.x rfl (pc0 := 659) (pc' := 664) rfl (hb hby at_659) rfl (ciW_le_t (Int.not_lt.mpr l1)) (by decide) (by decide) ?_
                  show Steps p.tables e below (T386.setTop (mkF m 664 _ [])) t
                  refine XS.iconst P387.here P387.x rfl (hb hby at_664) ?_
                  exact kk
                exact wRet P387 (t := .boolean) hret (narrow_01 (Or.inr rfl)) (Or.inl ⟨rfl, Or.inr (Or.inl rfl), _, rfl⟩) (hb hby at_665) rfl
              · refine Done.stepL (pc' := 511) (st' := [(.int (3 : Int32)), (.ref ob), (.int (of 0))]) (fun t kk => ?_) ?_
                · show Steps p.tables e below (T300.setTop (mkF m 505 _ [])) t
                  refine XS.iload P301.here P301.x rfl (hb hby at_505) rfl ?_
                  show Steps p.tables e below (T300.setTop (mkF m 507 _ [(.int (of 0))])) t
                  refine XS.aload P301.here P301.x rfl (hb hby at_507) rfl rfl ?_
                  show Steps p.tables e below (T300.setTop (mkF m 509 _ [(.ref ob), (.int (of 0))])) t
                  refine XS.iload P301.here P301.x rfl (hb hby at_509) rfl ?_
                  exact kk
                have f390 := (((f269.keep K283 (ninS (by first | assumption | exact Ne.symm (by assumption) | exact adr_ne (by omega) | omega) (ninS (by first | assumption | exact Ne.symm (by assumption) | exact adr_ne (by omega) | omega) (ninS (by first | assumption | exact Ne.symm (by assumption) | exact adr_ne (by omega) | omega) nin0)))).keep K292 (ninS (by first | assumption | exact Ne.symm (by assumption) | exact adr_ne (by omega) | omega) (ninS (by first | assumption | exact Ne.symm (by assumption) | exact adr_ne (by omega) | omega) nin0))).keep K307 (ninS (by first | assumption | exact Ne.symm (by assumption) | exact adr_ne (by omega) | omega) (ninS (by first | assumption | exact Ne.symm (by assumption) | exact adr_ne (by omega) | omega) (ninS (by first | assumption | exact Ne.symm (by assumption) | exact adr_ne (by omega) | omega) nin0))))
                refine wCallS P301 (m_ofd3 l Z a0 hw (of 0) x0 x1 x2 ob h306 f390 (Or.inr (Or.inr e0))) (tw61 hw) (tw62 hw) (tw63 hw) (tw64 hw) (by decide) (by rw [hml]; rfl) (lenOf pd_8 rfl) (argsL := [(.int (of 0)), (.ref ob), (.int (3 : Int32))]) (rest := []) rfl rfl (W := 0) (Nat.le_of_eq rfl) (by decide) (by decide) (by decide) (by decide) (by simp) (hb hby at_511) rfl (k' := 6) (n' := 46) rfl rfl ?_
                rintro T388 _ _ P389 - ⟨rfl, rfl⟩
                show Done _ _ _ _ _ _ _ _ _ _ _ _ _ _ _ T388 (mkF m 514 _ [(.int (1 : Int32))])
                refine Done.stepL (pc' := 531) (st' := [(.int (3 : Int32)), (.ref ob), (.int (of 1))]) (fun t kk => ?_) ?_
                · show Steps p.tables e below (T388.setTop (mkF m 514 _ [(.int (1 : Int32))])) t
                  refine XS.ifYes P389.here P389.x rfl (pc0 := 514) (pc' := 519) rfl (hb hby at_514) rfl (i0W_ne_t (by decide)) (by decide) (by decide) ?_
                  show Steps p.tables e below (T388.setTop (mkF m 519 _ [])) t
                  refine XS.iload P389.here P389.x rfl (hb hby at_519) rfl ?_
                  show Steps p.tables e below (T388.setTop (mkF m 521 _ [(.int (3 : Int32))])) t
                  refine XS.iconst P389.here P389.x rfl (hb hby at_521) ?_
                  show Steps p.tables e below (T388.setTop (mkF m 522 _ [(.int (2 : Int32)), (.int (3 : Int32))])) t
                  refine XS.icmpNo P389.here P389.x rfl (hb hby at_522) rfl (iiW_lt_f (by decide)) ?_
                  show Steps p.tables e below (T388.setTop (mkF m 525 _ [])) t
                  refine XS.iload P389.here P389.x rfl (hb hby at_525) rfl ?_
                  show Steps p.tables e below (T388.setTop (mkF m 527 _ [(.int (of 1))])) t
                  refine XS.aload P389.here P389.x rfl (hb hby at_527) rfl rfl ?_
                  show Steps p.tables e below (T388.setTop (mkF m 529 _ [(.ref ob), (.int (of 1))])) t
                  refine XS.iload P389.here P389.x rfl (hb hby at_529) rfl ?_
                  exact kk
                refine wCallS P389 (m_ofd3 l Z a0 hw (of 1) x0 x1 x2 ob h306 f390 (Or.inr (Or.inl e1))) (tw61 hw) (tw62 hw) (tw63 hw) (tw64 hw) (by decide) (by rw [hml]; rfl) (lenOf pd_8 rfl) (argsL := [(.int (of 1)), (.ref ob), (.int (3 : Int32))]) (rest := []) rfl rfl (W := 0) (Nat.le_of_eq rfl) (by decide) (by decide) (by decide) (by decide) (by simp) (hb hby at_531) rfl (k' := 6) (n' := 46) rfl rfl ?_
                rintro T391 _ _ P392 - ⟨rfl, rfl⟩
                show Done _ _ _ _ _ _ _ _ _ _ _ _ _ _ _ T391 (mkF m 534 _ [(.int (1 : Int32))])
                refine Done.stepL (pc' := 551) (st' := [(.int (3 : Int32)), (.ref ob), (.int (of 2))]) (fun t kk => ?_) ?_
                · show Steps p.tables e below (T391.setTop (mkF m 534 _ [(.int (1 : Int32))])) t
                  refine XS.ifYes P392.here P392.x rfl (pc0 := 534) (pc' := 539) rfl (hb hby at_534) rfl (i0W_ne_t (by decide)) (by decide) (by decide) ?_
                  show Steps p.tables e below (T391.setTop (mkF m 539 _ [])) t
                  refine XS.iload P392.here P392.x rfl (hb hby at_539) rfl ?_
                  show Steps p.tables e below (T391.setTop (mkF m 541 _ [(.int (3 : Int32))])) t
                  refine XS.iconst P392.here P392.x rfl (hb hby at_541) ?_
                  show Steps p.tables e below (T391.setTop (mkF m 542 _ [(.int (3 : Int32)), (.int (3 : Int32))])) t
                  refine XS.icmpNo P392.here P392.x rfl (hb hby at_542) rfl (iiW_lt_f (by decide)) ?_
                  show Steps p.tables e below (T391.setTop (mkF m 545 _ [])) t
                  refine XS.iload P392.here P392.x rfl (hb hby at_545) rfl ?_
                  show Steps p.tables e below (T391.setTop (mkF m 547 _ [(.int (of 2))])) t
                  refine XS.aload P392.here P392.x rfl (hb hby at_547) rfl rfl ?_
                  show Steps p.tables e below (T391.setTop (mkF m 549 _ [(.ref ob), (.int (of 2))])) t
                  refine XS.iload P392.here P392.x rfl (hb hby at_549) rfl ?_
                  exact kk
                refine wCallS P392 (m_ofd3 l Z a0 hw (of 2) x0 x1 x2 ob h306 f390 (Or.inl e2)) (tw61 hw) (tw62 hw) (tw63 hw) (tw64 hw) (by decide) (by rw [hml]; rfl) (lenOf pd_8 rfl) (argsL := [(.int (of 2)), (.ref ob), (.int (3 : Int32))]) (rest := []) rfl rfl (W := 0) (Nat.le_of_eq rfl) (by decide) (by decide) (by decide) (by decide) (by simp) (hb hby at_551) rfl (k' := 6) (n' := 46) rfl rfl ?_
                rintro T393 _ _ P394 - ⟨rfl, rfl⟩
                show Done _ _ _ _ _ _ _ _ _ _ _ _ _ _ _ T393 (mkF m 554 _ [(.int (1 : Int32))])
                refine Done.stepL (pc' := 610) (st' := [(.ref vb), (.double wk), (.int mo), (.int (of 0))]) (fun t kk => ?_) ?_
                · show Steps p.tables e below (T393.setTop (mkF m 554 _ [(.int (1 : Int32))])) t
                  refine XS.ifYes P394.here P394.x rfl (pc0 := 554) (pc' := 559) rfl (hb hby at_554) rfl (i0W_ne_t (by decide)) (by decide) (by decide) ?_
                  show Steps p.tables e below (T393.setTop (mkF m 559 _ [])) t
                  refine XS.iload P394.here P394.x rfl (hb hby at_559) rfl ?_
                  show Steps p.tables e below (T393.setTop (mkF m 561 _ [(.int (3 : Int32))])) t
                  refine XS.iconst P394.here P394.x rfl (hb hby at_561) ?_
                  show Steps p.tables e below (T393.setTop (mkF m 562 _ [(.int (2 : Int32)), (.int (3 : Int32))])) t
                  refine XS.icmpNo P394.here P394.x rfl (hb hby at_562) rfl (iiW_lt_f (by decide)) ?_
                  show Steps p.tables e below (T393.setTop (mkF m 565 _ [])) t
                  refine XS.iload P394.here P394.x rfl (hb hby at_565) rfl ?_
                  show Steps p.tables e below (T393.setTop (mkF m 567 _ [(.int (of 0))])) t
                  refine XS.iload P394.here P394.x rfl (hb hby at_567) rfl ?_
                  show Steps p.tables e below (T393.setTop (mkF m 569 _ [(.int (of 1)), (.int (of 0))])) t
                  refine XS.icmpYes P394.here P394.x rfl (pc0 := 569) (pc' := 574) rfl (hb hby at_569) rfl (iiW_ne_t (own_neq e0 e1 hx2 hx1 hi2 hi1 (Ne.symm pm12))) (by decide) (by decide) ?_
                  show Steps p.tables e below (T393.setTop (mkF m 574 _ [])) t
                  refine XS.iload P394.here P394.x rfl (hb hby at_574) rfl ?_
                  show Steps p.tables e below (T393.setTop (mkF m 576 _ [(.int (3 : Int32))])) t
                  refine XS.iconst P394.here P394.x rfl (hb hby at_576) ?_
                  show Steps p.tables e below (T393.setTop (mkF m 577 _ [(.int (3 : Int32)), (.int (3 : Int32))])) t
                  refine XS.icmpNo P394.here P394.x rfl (hb hby at_577) rfl (iiW_lt_f (by decide)) ?_
                  show Steps p.tables e below (T393.setTop (mkF m 580 _ [])) t
                  refine XS.iload P394.here P394.x rfl (hb hby at_580) rfl ?_
                  show Steps p.tables e below (T393.setTop (mkF m 582 _ [(.int (of 0))])) t
                  refine XS.iload P394.here P394.x rfl (hb hby at_582) rfl ?_
                  show Steps p.tables e below (T393.setTop (mkF m 584 _ [(.int (of 2)), (.int (of 0))])) t
                  refine XS.icmpNo P394.here P394.x rfl (hb hby at_584) rfl (iiW_eq_f (own_neq e0 e2 hx2 hx0 hi2 hi0 (Ne.symm pm02))) ?_
                  show Steps p.tables e below (T393.setTop (mkF m 587 _ [])) t
                  refine XS.iload P394.here P394.x rfl (hb hby at_587) rfl ?_
                  show Steps p.tables e below (T393.setTop (mkF m 589 _ [(.int (of 1))])) t
                  refine XS.iload P394.here P394.x rfl (hb hby at_589) rfl ?_
                  show Steps p.tables e below (T393.setTop (mkF m 591 _ [(.int (of 2)), (.int (of 1))])) t
                  refine XS.icmpYes P394.here P394.x rfl (pc0 := 591) (pc' := 596) rfl (hb hby at_591) rfl (iiW_ne_t (own_neq e1 e2 hx1 hx0 hi1 hi0 (Ne.symm pm01))) (by decide) (by decide) ?_
                  show Steps p.tables e below (T393.setTop (mkF m 596 _ [])) t
                  refine XS.iload P394.here P394.x rfl (hb hby at_596) rfl ?_
                  show Steps p.tables e below (T393.setTop (mkF m 598 _ [(.int (3 : Int32))])) t
                  refine XS.iconst P394.here P394.x rfl (hb hby at_598) ?_
                  show Steps p.tables e below (T393.setTop (mkF m 599 _ [(.int (2 : Int32)), (.int (3 : Int32))])) t
                  refine XS.icmpNo P394.here P394.x rfl (hb hby at_599) rfl (iiW_lt_f (by decide)) ?_
                  show Steps p.tables e below (T393.setTop (mkF m 602 _ [])) t
                  refine XS.iload P394.here P394.x rfl (hb hby at_602) rfl ?_
                  show Steps p.tables e below (T393.setTop (mkF m 604 _ [(.int (of 0))])) t
                  refine XS.iload P394.here P394.x rfl (hb hby at_604) rfl ?_
                  show Steps p.tables e below (T393.setTop (mkF m 606 _ [(.int mo), (.int (of 0))])) t
                  refine XS.dload P394.here P394.x rfl (hb hby at_606) rfl ?_
                  show Steps p.tables e below (T393.setTop (mkF m 608 _ [(.double wk), (.int mo), (.int (of 0))])) t
                  refine XS.aload P394.here P394.x rfl (hb hby at_608) rfl rfl ?_
                  exact kk
                have f397 := (((f270.keep K283 (ninS (by first | assumption | exact Ne.symm (by assumption) | exact adr_ne (by omega) | omega) (ninS (by first | assumption | exact Ne.symm (by assumption) | exact adr_ne (by omega) | omega) (ninS (by first | assumption | exact Ne.symm (by assumption) | exact adr_ne (by omega) | omega) nin0)))).keep K292 (ninS (by first | assumption | exact Ne.symm (by assumption) | exact adr_ne (by omega) | omega) (ninS (by first | assumption | exact Ne.symm (by assumption) | exact adr_ne (by omega) | omega) nin0))).keep K307 (ninS (by first | assumption | exact Ne.symm (by assumption) | exact adr_ne (by omega) | omega) (ninS (by first | assumption | exact Ne.symm (by assumption) | exact adr_ne (by omega) | omega) (ninS (by first | assumption | exact Ne.symm (by assumption) | exact adr_ne (by omega) | omega) nin0))))
                refine wCallS P394 (m_kyo l Z a0 hw (of 0) mo wk vb x2 i2 (oupd (oupd (oupd (fun _ => (0 : UInt64)) 0 w0) 1 w1) 2 w2) h306 f397 (own_sub e0 hx2 hi2) hx2 hi2) (tw65 hw) (tw66 hw) (tw63 hw) (tw67 hw) (by decide) (by rw [hml]; rfl) (lenOf pd_9 rfl) (argsL := [(.int (of 0)), (.int mo), (.double wk), (.ref vb)]) (rest := []) rfl rfl (W := 0) (Nat.le_of_eq rfl) (by decide) (by decide) (by decide) (by decide) (by simp) (hb hby at_610) rfl (k' := 6) (n' := 46) rfl rfl ?_
                rintro T395 _ _ P396 - ⟨rfl, rfl⟩
                show Done _ _ _ _ _ _ _ _ _ _ _ _ _ _ _ T395 (mkF m 613 _ [(.double (if x2 = mo then wk else (oupd (oupd (oupd (fun _ => (0 : UInt64)) 0 w0) 1 w1) 2 w2) i2))])
                refine Done.stepL (pc' := 621) (st' := [(.ref vb), (.double wk), (.int mo), (.int (of 1)), (.double (if x2 = mo then wk else (oupd (oupd (oupd (fun _ => (0 : UInt64)) 0 w0) 1 w1) 2 w2) i2))]) (fun t kk => ?_) ?_
                · show Steps p.tables e below (T395.setTop (mkF m 613 _ [(.double (if x2 = mo then wk else (oupd (oupd (oupd (fun _ => (0 : UInt64)) 0 w0) 1 w1) 2 w2) i2))])) t
                  refine XS.iload P396.here P396.x rfl (hb hby at_613) rfl ?_
                  show Steps p.tables e below (T395.setTop (mkF m 615 _ [(.int (of 1)), (.double (if x2 = mo then wk else (oupd (oupd (oupd (fun _ => (0 : UInt64)) 0 w0) 1 w1) 2 w2) i2))])) t
                  refine XS.iload P396.here P396.x rfl (hb hby at_615) rfl ?_
                  show Steps p.tables e below (T395.setTop (mkF m 617 _ [(.int mo), (.int (of 1)), (.double (if x2 = mo then wk else (oupd (oupd (oupd (fun _ => (0 : UInt64)) 0 w0) 1 w1) 2 w2) i2))])) t
                  refine XS.dload P396.here P396.x rfl (hb hby at_617) rfl ?_
                  show Steps p.tables e below (T395.setTop (mkF m 619 _ [(.double wk), (.int mo), (.int (of 1)), (.double (if x2 = mo then wk else (oupd (oupd (oupd (fun _ => (0 : UInt64)) 0 w0) 1 w1) 2 w2) i2))])) t
                  refine XS.aload P396.here P396.x rfl (hb hby at_619) rfl rfl ?_
                  exact kk
                refine wCallS P396 (m_kyo l Z a0 hw (of 1) mo wk vb x1 i1 (oupd (oupd (oupd (fun _ => (0 : UInt64)) 0 w0) 1 w1) 2 w2) h306 f397 (own_sub e1 hx1 hi1) hx1 hi1) (tw65 hw) (tw66 hw) (tw63 hw) (tw67 hw) (by decide) (by rw [hml]; rfl) (lenOf pd_9 rfl) (argsL := [(.int (of 1)), (.int mo), (.double wk), (.ref vb)]) (rest := [(.double (if x2 = mo then wk else (oupd (oupd (oupd (fun _ => (0 : UInt64)) 0 w0) 1 w1) 2 w2) i2))]) rfl rfl (W := 2) (Nat.le_of_eq rfl) (by decide) (by decide) (by decide) (by decide) (by simp) (hb hby at_621) rfl (k' := 6) (n' := 46) rfl rfl ?_
                rintro T398 _ _ P399 - ⟨rfl, rfl⟩
                show Done _ _ _ _ _ _ _ _ _ _ _ _ _ _ _ T398 (mkF m 624 _ [(.double (if x1 = mo then wk else (oupd (oupd (oupd (fun _ => (0 : UInt64)) 0 w0) 1 w1) 2 w2) i1)), (.double (if x2 = mo then wk else (oupd (oupd (oupd (fun _ => (0 : UInt64)) 0 w0) 1 w1) 2 w2) i2))])
                refine Done.stepL (pc' := 644) (st' := [(.ref vb), (.double wk), (.int mo), (.int (of 1))]) (fun t kk => ?_) ?_
                · show Steps p.tables e below (T398.setTop (mkF m 624 _ [(.double (if x1 = mo then wk else (oupd (oupd (oupd (fun _ => (0 : UInt64)) 0 w0) 1 w1) 2 w2) i1)), (.double (if x2 = mo then wk else (oupd (oupd (oupd (fun _ => (0 : UInt64)) 0 w0) 1 w1) 2 w2) i2))])) t
                  refine XS.dcmpS P399.here P399.x rfl (hb hby at_624) rfl (dcmpZ (dint_ite (fun _ => Dk) (fun _ => (own_ds E0 E1 E2 i2 hi2))) (dint_ite (fun _ => Dk) (fun _ => (own_ds E0 E1 E2 i1 hi1)))) ?_
                  show Steps p.tables e below (T398.setTop (mkF m 625 _ [(.int (cmpZ (if x2 = mo then p5.toInt else (own_sel V0 V1 V2 i2)) (if x1 = mo then p5.toInt else (own_sel V0 V1 V2 i1))))])) t
                  refine XS.ifYes P399.here P399.x rfl (pc0 := 625) (pc' := 630) rfl (hb hby at_625) rfl (ciW_le_t (Int.not_lt.mpr l0)) (by decide) (by decide) ?_
                  show Steps p.tables e below (T398.setTop (mkF m 630 _ [])) t
                  refine XS.iload P399.here P399.x rfl (hb hby at_630) rfl ?_
                  show Steps p.tables e below (T398.setTop (mkF m 632 _ [(.int (3 : Int32))])) t
                  refine XS.iconst P399.here P399.x rfl (hb hby at_632) ?_
                  show Steps p.tables e below (T398.setTop (mkF m 633 _ [(.int (3 : Int32)), (.int (3 : Int32))])) t
                  refine XS.icmpNo P399.here P399.x rfl (hb hby at_633) rfl (iiW_lt_f (by decide)) ?_
                  show Steps p.tables e below (T398.setTop (mkF m 636 _ [])) t
                  refine XS.iload P399.here P399.x rfl (hb hby at_636) rfl ?_
                  show Steps p.tables e below (T398.setTop (mkF m 638 _ [(.int (of 1))])) t
                  refine XS.iload P399.here P399.x rfl (hb hby at_638) rfl ?_
                  show Steps p.tables e below (T398.setTop (mkF m 640 _ [(.int mo), (.int (of 1))])) t
                  refine XS.dload P399.here P399.x rfl (hb hby at_640) rfl ?_
                  show Steps p.tables e below (T398.setTop (mkF m 642 _ [(.double wk), (.int mo), (.int (of 1))])) t
                  refine XS.aload P399.here P399.x rfl (hb hby at_642) rfl rfl ?_
                  exact kk
                refine wCallS P399 (m_kyo l Z a0 hw (of 1) mo wk vb x1 i1 (oupd (oupd (oupd (fun _ => (0 : UInt64)) 0 w0) 1 w1) 2 w2) h306 f397 (own_sub e1 hx1 hi1) hx1 hi1) (tw65 hw) (tw66 hw) (tw63 hw) (tw67 hw) (by decide) (by rw [hml]; rfl) (lenOf pd_9 rfl) (argsL := [(.int (of 1)), (.int mo), (.double wk), (.ref vb)]) (rest := []) rfl rfl (W := 0) (Nat.le_of_eq rfl) (by decide) (by decide) (by decide) (by decide) (by simp) (hb hby at_644) rfl (k' := 6) (n' := 46) rfl rfl ?_
                rintro T400 _ _ P401 - ⟨rfl, rfl⟩
                show Done _ _ _ _ _ _ _ _ _ _ _ _ _ _ _ T400 (mkF m 647 _ [(.double (if x1 = mo then wk else (oupd (oupd (oupd (fun _ => (0 : UInt64)) 0 w0) 1 w1) 2 w2) i1))])
                refine Done.stepL (pc' := 655) (st' := [(.ref vb), (.double wk), (.int mo), (.int (of 2)), (.double (if x1 = mo then wk else (oupd (oupd (oupd (fun _ => (0 : UInt64)) 0 w0) 1 w1) 2 w2) i1))]) (fun t kk => ?_) ?_
                · show Steps p.tables e below (T400.setTop (mkF m 647 _ [(.double (if x1 = mo then wk else (oupd (oupd (oupd (fun _ => (0 : UInt64)) 0 w0) 1 w1) 2 w2) i1))])) t
                  refine XS.iload P401.here P401.x rfl (hb hby at_647) rfl ?_
                  show Steps p.tables e below (T400.setTop (mkF m 649 _ [(.int (of 2)), (.double (if x1 = mo then wk else (oupd (oupd (oupd (fun _ => (0 : UInt64)) 0 w0) 1 w1) 2 w2) i1))])) t
                  refine XS.iload P401.here P401.x rfl (hb hby at_649) rfl ?_
                  show Steps p.tables e below (T400.setTop (mkF m 651 _ [(.int mo), (.int (of 2)), (.double (if x1 = mo then wk else (oupd (oupd (oupd (fun _ => (0 : UInt64)) 0 w0) 1 w1) 2 w2) i1))])) t
                  refine XS.dload P401.here P401.x rfl (hb hby at_651) rfl ?_
                  show Steps p.tables e below (T400.setTop (mkF m 653 _ [(.double wk), (.int mo), (.int (of 2)), (.double (if x1 = mo then wk else (oupd (oupd (oupd (fun _ => (0 : UInt64)) 0 w0) 1 w1) 2 w2) i1))])) t
                  refine XS.aload P401.here P401.x rfl (hb hby at_653) rfl rfl ?_
                  exact kk
                refine wCallS P401 (m_kyo l Z a0 hw (of 2) mo wk vb x0 i0 (oupd (oupd (oupd (fun _ => (0 : UInt64)) 0 w0) 1 w1) 2 w2) h306 f397 (own_sub e2 hx0 hi0) hx0 hi0) (tw65 hw) (tw66 hw) (tw63 hw) (tw67 hw) (by decide) (by rw [hml]; rfl) (lenOf pd_9 rfl) (argsL := [(.int (of 2)), (.int mo), (.double wk), (.ref vb)]) (rest := [(.double (if x1 = mo then wk else (oupd (oupd (oupd (fun _ => (0 : UInt64)) 0 w0) 1 w1) 2 w2) i1))]) rfl rfl (W := 2) (Nat.le_of_eq rfl) (by decide) (by decide) (by decide) (by decide) (by simp) (hb hby at_655) rfl (k' := 6) (n' := 46) rfl rfl ?_
                rintro T402 _ _ P403 - ⟨rfl, rfl⟩
                show Done _ _ _ _ _ _ _ _ _ _ _ _ _ _ _ T402 (mkF m 658 _ [(.double (if x0 = mo then wk else (oupd (oupd (oupd (fun _ => (0 : UInt64)) 0 w0) 1 w1) 2 w2) i0)), (.double (if x1 = mo then wk else (oupd (oupd (oupd (fun _ => (0 : UInt64)) 0 w0) 1 w1) 2 w2) i1))])
                refine Done.stepL (pc' := 665) (st' := [(.int (1 : Int32))]) (fun t kk => ?_) ?_
                · show Steps p.tables e below (T402.setTop (mkF m 658 _ [(.double (if x0 = mo then wk else (oupd (oupd (oupd (fun _ => (0 : UInt64)) 0 w0) 1 w1) 2 w2) i0)), (.double (if x1 = mo then wk else (oupd (oupd (oupd (fun _ => (0 : UInt64)) 0 w0) 1 w1) 2 w2) i1))])) t
                  refine XS.dcmpS P403.here P403.x rfl (hb hby at_658) rfl (dcmpZ (dint_ite (fun _ => Dk) (fun _ => (own_ds E0 E1 E2 i1 hi1))) (dint_ite (fun _ => Dk) (fun _ => (own_ds E0 E1 E2 i0 hi0)))) ?_
                  show Steps p.tables e below (T402.setTop (mkF m 659 _ [(.int (cmpZ (if x1 = mo then p5.toInt else (own_sel V0 V1 V2 i1)) (if x0 = mo then p5.toInt else (own_sel V0 V1 V2 i0))))])) t
                  refine XS.ifYes P403.here P403.x rfl (pc0 := 659) (pc' := 664) rfl (hb hby at_659) rfl (ciW_le_t (Int.not_lt.mpr l1)) (by decide) (by decide) ?_
                  show Steps p.tables e below (T402.setTop (mkF m 664 _ [])) t
                  refine XS.iconst P403.here P403.x rfl (hb hby at_664) ?_
                  exact kk
                exact wRet P403 (t := .boolean) hret (narrow_01 (Or.inr rfl)) (Or.inl ⟨rfl, Or.inr (Or.inl rfl), _, rfl⟩) (hb hby at_665) rfl
            refine Done.stepL (pc' := 376) (st' := [(.int (2 : Int32)), (.ref ob)]) (fun t kk => ?_) ?_
            · show Steps p.tables e below (T271.setTop (mkF m 373 _ [])) t
              refine XS.aload P272.here P272.x rfl (hb hby at_373) rfl rfl ?_
              show Steps p.tables e below (T271.setTop (mkF m 375 _ [(.ref ob)])) t
              refine XS.iconst P272.here P272.x rfl (hb hby at_375) ?_
              exact kk
            have f404 := (f269.keep K283 (ninS (by first | assumption | exact Ne.symm (by assumption) | exact adr_ne (by omega) | omega) (ninS (by first | assumption | exact Ne.symm (by assumption) | exact adr_ne (by omega) | omega) (ninS (by first | assumption | exact Ne.symm (by assumption) | exact adr_ne (by omega) | omega) nin0))))
            refine wIaload P272 f404 (j := (2 : Int32)) (i := 2) rfl (by decide) (v := (.int x2)) rfl (hb hby at_376) rfl ?_
            show Done _ _ _ _ _ _ _ _ _ _ _ _ _ _ _ T271 (mkF m 377 _ [(.int x2)])
            refine Done.stepL (pc' := 379) (st' := [(.int mo), (.int x2)]) (fun t kk => ?_) ?_
            · show Steps p.tables e below (T271.setTop (mkF m 377 _ [(.int x2)])) t
              refine XS.iload P272.here P272.x rfl (hb hby at_377) rfl ?_
              exact kk
            by_cases q2 : x2 = mo
            · refine Done.stepL (pc' := 404) (st' := []) (fun t kk => ?_) ?_
              · show Steps p.tables e below (T271.setTop (mkF m 379 _ [(.int mo), (.int x2)])) t
                refine XS.icmpYes P272.here P272.x rfl (pc0 := 379) (pc' := 404) rfl (hb hby at_379) rfl (iiW_eq_t q2) (by decide) (by decide) ?_
                exact kk
              exact t404 M2 m2 D2 (by rw [if_pos q2])
            · refine Done.stepL (pc' := 387) (st' := [(.int (2 : Int32)), (.ref ob), (.ref vb)]) (fun t kk => ?_) ?_
              · show Steps p.tables e below (T271.setTop (mkF m 379 _ [(.int mo), (.int x2)])) t
                refine XS.icmpNo P272.here P272.x rfl (hb hby at_379) rfl (iiW_eq_f (show ¬ (x2 = mo) from q2)) ?_
                show Steps p.tables e below (T271.setTop (mkF m 382 _ [])) t
                refine XS.aload P272.here P272.x rfl (hb hby at_382) rfl rfl ?_
                show Steps p.tables e below (T271.setTop (mkF m 384 _ [(.ref vb)])) t
                refine XS.aload P272.here P272.x rfl (hb hby at_384) rfl rfl ?_
                show Steps p.tables e below (T271.setTop (mkF m 386 _ [(.ref ob), (.ref vb)])) t
                refine XS.iconst P272.here P272.x rfl (hb hby at_386) ?_
                exact kk
              refine wIaload P272 f404 (j := (2 : Int32)) (i := 2) rfl (by decide) (v := (.int x2)) rfl (hb hby at_387) rfl ?_
              show Done _ _ _ _ _ _ _ _ _ _ _ _ _ _ _ T271 (mkF m 388 _ [(.int x2), (.ref vb)])
              have f405 := (f270.keep K283 (ninS (by first | assumption | exact Ne.symm (by assumption) | exact adr_ne (by omega) | omega) (ninS (by first | assumption | exact Ne.symm (by assumption) | exact adr_ne (by omega) | omega) (ninS (by first | assumption | exact Ne.symm (by assumption) | exact adr_ne (by omega) | omega) nin0))))
              refine wDaload P272 f405 (j := x2) (i := i2) hx2 hi2 (v := (.double ((oupd (oupd (oupd (fun _ => (0 : UInt64)) 0 w0) 1 w1) 2 w2) i2))) rfl (hb hby at_388) rfl ?_
              show Done _ _ _ _ _ _ _ _ _ _ _ _ _ _ _ T271 (mkF m 389 _ [(.double ((oupd (oupd (oupd (fun _ => (0 : UInt64)) 0 w0) 1 w1) 2 w2) i2))])
              refine Done.stepL (pc' := 392) (st' := [(.int (cmpZ (own_sel V0 V1 V2 i2) M2))]) (fun t kk => ?_) ?_
              · show Steps p.tables e below (T271.setTop (mkF m 389 _ [(.double ((oupd (oupd (oupd (fun _ => (0 : UInt64)) 0 w0) 1 w1) 2 w2) i2))])) t
                refine XS.dload P272.here P272.x rfl (hb hby at_389) rfl ?_
                show Steps p.tables e below (T271.setTop (mkF m 391 _ [(.double m2), (.double ((oupd (oupd (oupd (fun _ => (0 : UInt64)) 0 w0) 1 w1) 2 w2) i2))])) t
                refine XS.dcmpS P272.here P272.x rfl (hb hby at_391) rfl (dcmpZ (own_ds E0 E1 E2 i2 hi2) D2) ?_
                exact kk
              by_cases r2 : ¬ (M2 < (own_sel V0 V1 V2 i2))
              · refine Done.stepL (pc' := 404) (st' := []) (fun t kk => ?_) ?_
                · show Steps p.tables e below (T271.setTop (mkF m 392 _ [(.int (cmpZ (own_sel V0 V1 V2 i2) M2))])) t
                  refine XS.ifYes P272.here P272.x rfl (pc0 := 392) (pc' := 404) rfl (hb hby at_392) rfl (ciW_le_t r2) (by decide) (by decide) ?_
                  exact kk
                exact t404 M2 m2 D2 (by rw [if_neg q2, if_neg r2])
              · refine Done.stepL (pc' := 400) (st' := [(.int (2 : Int32)), (.ref ob), (.ref vb)]) (fun t kk => ?_) ?_
                · show Steps p.tables e below (T271.setTop (mkF m 392 _ [(.int (cmpZ (own_sel V0 V1 V2 i2) M2))])) t
                  refine XS.ifNo P272.here P272.x rfl (hb hby at_392) rfl (ciW_le_f (show ¬ (¬ (M2 < (own_sel V0 V1 V2 i2))) from r2)) ?_
                  show Steps p.tables e below (T271.setTop (mkF m 395 _ [])) t
                  refine XS.aload P272.here P272.x rfl (hb hby at_395) rfl rfl ?_
                  show Steps p.tables e below (T271.setTop (mkF m 397 _ [(.ref vb)])) t
                  refine XS.aload P272.here P272.x rfl (hb hby at_397) rfl rfl ?_
                  show Steps p.tables e below (T271.setTop (mkF m 399 _ [(.ref ob), (.ref vb)])) t
                  refine XS.iconst P272.here P272.x rfl (hb hby at_399) ?_
                  exact kk
                refine wIaload P272 f404 (j := (2 : Int32)) (i := 2) rfl (by decide) (v := (.int x2)) rfl (hb hby at_400) rfl ?_
                show Done _ _ _ _ _ _ _ _ _ _ _ _ _ _ _ T271 (mkF m 401 _ [(.int x2), (.ref vb)])
                refine wDaload P272 f405 (j := x2) (i := i2) hx2 hi2 (v := (.double ((oupd (oupd (oupd (fun _ => (0 : UInt64)) 0 w0) 1 w1) 2 w2) i2))) rfl (hb hby at_401) rfl ?_
                show Done _ _ _ _ _ _ _ _ _ _ _ _ _ _ _ T271 (mkF m 402 _ [(.double ((oupd (oupd (oupd (fun _ => (0 : UInt64)) 0 w0) 1 w1) 2 w2) i2))])
                refine Done.step (T' := T271) (g' := (mkF m 404 #[.val (.int p0), .val (.int p1), .val (.int p2), .val (.int p3), .val (.int p4), .val (.int p5), .val (.double w0), .second, .val (.double w1), .second, .val (.double w2), .second, .val (.ref vb), .val (.int z13), .val (.int z14), .val (.int z15), .val (.int z16), .val (.int z17), .val (.ref ob), .val (.int (p4 &&& (2147483647 : Int32))), .val (.int (3 : Int32)), .val (.int cv), .val (.double wk), .second, .val (.ref b212), .val (.int mo), .val (.double ((oupd (oupd (oupd (fun _ => (0 : UInt64)) 0 w0) 1 w1) 2 w2) i2)), .second, .unset, .unset, .unset, .unset, .unset] [])) (fun t kk => ?_) ?_
                · show Steps p.tables e below (T271.setTop (mkF m 402 _ [(.double ((oupd (oupd (oupd (fun _ => (0 : UInt64)) 0 w0) 1 w1) 2 w2) i2))])) t
                  refine XS.dstore P272.here P272.x rfl (hb hby at_402) rfl (l' := #[.val (.int p0), .val (.int p1), .val (.int p2), .val (.int p3), .val (.int p4), .val (.int p5), .val (.double w0), .second, .val (.double w1), .second, .val (.double w2), .second, .val (.ref vb), .val (.int z13), .val (.int z14), .val (.int z15), .val (.int z16), .val (.int z17), .val (.ref ob), .val (.int (p4 &&& (2147483647 : Int32))), .val (.int (3 : Int32)), .val (.int cv), .val (.double wk), .second, .val (.ref b212), .val (.int mo), .val (.double ((oupd (oupd (oupd (fun _ => (0 : UInt64)) 0 w0) 1 w1) 2 w2) i2)), .second, .unset, .unset, .unset, .unset, .unset]) rfl ?_
                  exact kk
                exact t404 (own_sel V0 V1 V2 i2) ((oupd (oupd (oupd (fun _ => (0 : UInt64)) 0 w0) 1 w1) 2 w2) i2) (own_ds E0 E1 E2 i2 hi2) (by rw [if_neg q2, if_pos (Decidable.not_not.mp r2)])
          refine Done.stepL (pc' := 339) (st' := [(.int (1 : Int32)), (.ref ob)]) (fun t kk => ?_) ?_
          · show Steps p.tables e below (T271.setTop (mkF m 336 _ [])) t
            refine XS.aload P272.here P272.x rfl (hb hby at_336) rfl rfl ?_
            show Steps p.tables e below (T271.setTop (mkF m 338 _ [(.ref ob)])) t
            refine XS.iconst P272.here P272.x rfl (hb hby at_338) ?_
            exact kk
          have f406 := (f269.keep K283 (ninS (by first | assumption | exact Ne.symm (by assumption) | exact adr_ne (by omega) | omega) (ninS (by first | assumption | exact Ne.symm (by assumption) | exact adr_ne (by omega) | omega) (ninS (by first | assumption | exact Ne.symm (by assumption) | exact adr_ne (by omega) | omega) nin0))))
          refine wIaload P272 f406 (j := (1 : Int32)) (i := 1) rfl (by decide) (v := (.int x1)) rfl (hb hby at_339) rfl ?_
          show Done _ _ _ _ _ _ _ _ _ _ _ _ _ _ _ T271 (mkF m 340 _ [(.int x1)])
          refine Done.stepL (pc' := 342) (st' := [(.int mo), (.int x1)]) (fun t kk => ?_) ?_
          · show Steps p.tables e below (T271.setTop (mkF m 340 _ [(.int x1)])) t
            refine XS.iload P272.here P272.x rfl (hb hby at_340) rfl ?_
            exact kk
          by_cases q1 : x1 = mo
          · refine Done.stepL (pc' := 367) (st' := []) (fun t kk => ?_) ?_
            · show Steps p.tables e below (T271.setTop (mkF m 342 _ [(.int mo), (.int x1)])) t
              refine XS.icmpYes P272.here P272.x rfl (pc0 := 342) (pc' := 367) rfl (hb hby at_342) rfl (iiW_eq_t q1) (by decide) (by decide) ?_
              exact kk
            exact t367 M1 m1 D1 (by rw [if_pos q1])
          · refine Done.stepL (pc' := 350) (st' := [(.int (1 : Int32)), (.ref ob), (.ref vb)]) (fun t kk => ?_) ?_
            · show Steps p.tables e below (T271.setTop (mkF m 342 _ [(.int mo), (.int x1)])) t
              refine XS.icmpNo P272.here P272.x rfl (hb hby at_342) rfl (iiW_eq_f (show ¬ (x1 = mo) from q1)) ?_
              show Steps p.tables e below (T271.setTop (mkF m 345 _ [])) t
              refine XS.aload P272.here P272.x rfl (hb hby at_345) rfl rfl ?_
              show Steps p.tables e below (T271.setTop (mkF m 347 _ [(.ref vb)])) t
              refine XS.aload P272.here P272.x rfl (hb hby at_347) rfl rfl ?_
              show Steps p.tables e below (T271.setTop (mkF m 349 _ [(.ref ob), (.ref vb)])) t
              refine XS.iconst P272.here P272.x rfl (hb hby at_349) ?_
              exact kk
            refine wIaload P272 f406 (j := (1 : Int32)) (i := 1) rfl (by decide) (v := (.int x1)) rfl (hb hby at_350) rfl ?_
            show Done _ _ _ _ _ _ _ _ _ _ _ _ _ _ _ T271 (mkF m 351 _ [(.int x1), (.ref vb)])
            have f407 := (f270.keep K283 (ninS (by first | assumption | exact Ne.symm (by assumption) | exact adr_ne (by omega) | omega) (ninS (by first | assumption | exact Ne.symm (by assumption) | exact adr_ne (by omega) | omega) (ninS (by first | assumption | exact Ne.symm (by assumption) | exact adr_ne (by omega) | omega) nin0))))
            refine wDaload P272 f407 (j := x1) (i := i1) hx1 hi1 (v := (.double ((oupd (oupd (oupd (fun _ => (0 : UInt64)) 0 w0) 1 w1) 2 w2) i1))) rfl (hb hby at_351) rfl ?_
            show Done _ _ _ _ _ _ _ _ _ _ _ _ _ _ _ T271 (mkF m 352 _ [(.double ((oupd (oupd (oupd (fun _ => (0 : UInt64)) 0 w0) 1 w1) 2 w2) i1))])
            refine Done.stepL (pc' := 355) (st' := [(.int (cmpZ (own_sel V0 V1 V2 i1) M1))]) (fun t kk => ?_) ?_
            · show Steps p.tables e below (T271.setTop (mkF m 352 _ [(.double ((oupd (oupd (oupd (fun _ => (0 : UInt64)) 0 w0) 1 w1) 2 w2) i1))])) t
              refine XS.dload P272.here P272.x rfl (hb hby at_352) rfl ?_
              show Steps p.tables e below (T271.setTop (mkF m 354 _ [(.double m1), (.double ((oupd (oupd (oupd (fun _ => (0 : UInt64)) 0 w0) 1 w1) 2 w2) i1))])) t
              refine XS.dcmpS P272.here P272.x rfl (hb hby at_354) rfl (dcmpZ (own_ds E0 E1 E2 i1 hi1) D1) ?_
              exact kk
            by_cases r1 : ¬ (M1 < (own_sel V0 V1 V2 i1))
            · refine Done.stepL (pc' := 367) (st' := []) (fun t kk => ?_) ?_
              · show Steps p.tables e below (T271.setTop (mkF m 355 _ [(.int (cmpZ (own_sel V0 V1 V2 i1) M1))])) t
                refine XS.ifYes P272.here P272.x rfl (pc0 := 355) (pc' := 367) rfl (hb hby at_355) rfl (ciW_le_t r1) (by decide) (by decide) ?_
                exact kk
              exact t367 M1 m1 D1 (by rw [if_neg q1, if_neg r1])
            · refine Done.stepL (pc' := 363) (st' := [(.int (1 : Int32)), (.ref ob), (.ref vb)]) (fun t kk => ?_) ?_
              · show Steps p.tables e below (T271.setTop (mkF m 355 _ [(.int (cmpZ (own_sel V0 V1 V2 i1) M1))])) t
                refine XS.ifNo P272.here P272.x rfl (hb hby at_355) rfl (ciW_le_f (show ¬ (¬ (M1 < (own_sel V0 V1 V2 i1))) from r1)) ?_
                show Steps p.tables e below (T271.setTop (mkF m 358 _ [])) t
                refine XS.aload P272.here P272.x rfl (hb hby at_358) rfl rfl ?_
                show Steps p.tables e below (T271.setTop (mkF m 360 _ [(.ref vb)])) t
                refine XS.aload P272.here P272.x rfl (hb hby at_360) rfl rfl ?_
                show Steps p.tables e below (T271.setTop (mkF m 362 _ [(.ref ob), (.ref vb)])) t
                refine XS.iconst P272.here P272.x rfl (hb hby at_362) ?_
                exact kk
              refine wIaload P272 f406 (j := (1 : Int32)) (i := 1) rfl (by decide) (v := (.int x1)) rfl (hb hby at_363) rfl ?_
              show Done _ _ _ _ _ _ _ _ _ _ _ _ _ _ _ T271 (mkF m 364 _ [(.int x1), (.ref vb)])
              refine wDaload P272 f407 (j := x1) (i := i1) hx1 hi1 (v := (.double ((oupd (oupd (oupd (fun _ => (0 : UInt64)) 0 w0) 1 w1) 2 w2) i1))) rfl (hb hby at_364) rfl ?_
              show Done _ _ _ _ _ _ _ _ _ _ _ _ _ _ _ T271 (mkF m 365 _ [(.double ((oupd (oupd (oupd (fun _ => (0 : UInt64)) 0 w0) 1 w1) 2 w2) i1))])
              refine Done.step (T' := T271) (g' := (mkF m 367 #[.val (.int p0), .val (.int p1), .val (.int p2), .val (.int p3), .val (.int p4), .val (.int p5), .val (.double w0), .second, .val (.double w1), .second, .val (.double w2), .second, .val (.ref vb), .val (.int z13), .val (.int z14), .val (.int z15), .val (.int z16), .val (.int z17), .val (.ref ob), .val (.int (p4 &&& (2147483647 : Int32))), .val (.int (3 : Int32)), .val (.int cv), .val (.double wk), .second, .val (.ref b212), .val (.int mo), .val (.double ((oupd (oupd (oupd (fun _ => (0 : UInt64)) 0 w0) 1 w1) 2 w2) i1)), .second, .unset, .unset, .unset, .unset, .unset] [])) (fun t kk => ?_) ?_
              · show Steps p.tables e below (T271.setTop (mkF m 365 _ [(.double ((oupd (oupd (oupd (fun _ => (0 : UInt64)) 0 w0) 1 w1) 2 w2) i1))])) t
                refine XS.dstore P272.here P272.x rfl (hb hby at_365) rfl (l' := #[.val (.int p0), .val (.int p1), .val (.int p2), .val (.int p3), .val (.int p4), .val (.int p5), .val (.double w0), .second, .val (.double w1), .second, .val (.double w2), .second, .val (.ref vb), .val (.int z13), .val (.int z14), .val (.int z15), .val (.int z16), .val (.int z17), .val (.ref ob), .val (.int (p4 &&& (2147483647 : Int32))), .val (.int (3 : Int32)), .val (.int cv), .val (.double wk), .second, .val (.ref b212), .val (.int mo), .val (.double ((oupd (oupd (oupd (fun _ => (0 : UInt64)) 0 w0) 1 w1) 2 w2) i1)), .second, .unset, .unset, .unset, .unset, .unset]) rfl ?_
                exact kk
              exact t367 (own_sel V0 V1 V2 i1) ((oupd (oupd (oupd (fun _ => (0 : UInt64)) 0 w0) 1 w1) 2 w2) i1) (own_ds E0 E1 E2 i1 hi1) (by rw [if_neg q1, if_pos (Decidable.not_not.mp r1)])
        refine Done.stepL (pc' := 302) (st' := [(.int (0 : Int32)), (.ref ob)]) (fun t kk => ?_) ?_
        · show Steps p.tables e below (T271.setTop (mkF m 299 _ [])) t
          refine XS.aload P272.here P272.x rfl (hb hby at_299) rfl rfl ?_
          show Steps p.tables e below (T271.setTop (mkF m 301 _ [(.ref ob)])) t
          refine XS.iconst P272.here P272.x rfl (hb hby at_301) ?_
          exact kk
        have f408 := (f269.keep K283 (ninS (by first | assumption | exact Ne.symm (by assumption) | exact adr_ne (by omega) | omega) (ninS (by first | assumption | exact Ne.symm (by assumption) | exact adr_ne (by omega) | omega) (ninS (by first | assumption | exact Ne.symm (by assumption) | exact adr_ne (by omega) | omega) nin0))))
        refine wIaload P272 f408 (j := (0 : Int32)) (i := 0) rfl (by decide) (v := (.int x0)) rfl (hb hby at_302) rfl ?_
        show Done _ _ _ _ _ _ _ _ _ _ _ _ _ _ _ T271 (mkF m 303 _ [(.int x0)])
        refine Done.stepL (pc' := 305) (st' := [(.int mo), (.int x0)]) (fun t kk => ?_) ?_
        · show Steps p.tables e below (T271.setTop (mkF m 303 _ [(.int x0)])) t
          refine XS.iload P272.here P272.x rfl (hb hby at_303) rfl ?_
          exact kk
        by_cases q0 : x0 = mo
        · refine Done.stepL (pc' := 330) (st' := []) (fun t kk => ?_) ?_
          · show Steps p.tables e below (T271.setTop (mkF m 305 _ [(.int mo), (.int x0)])) t
            refine XS.icmpYes P272.here P272.x rfl (pc0 := 305) (pc' := 330) rfl (hb hby at_305) rfl (iiW_eq_t q0) (by decide) (by decide) ?_
            exact kk
          exact t330 p5.toInt wk Dk (by rw [if_pos q0])
        · refine Done.stepL (pc' := 313) (st' := [(.int (0 : Int32)), (.ref ob), (.ref vb)]) (fun t kk => ?_) ?_
          · show Steps p.tables e below (T271.setTop (mkF m 305 _ [(.int mo), (.int x0)])) t
            refine XS.icmpNo P272.here P272.x rfl (hb hby at_305) rfl (iiW_eq_f (show ¬ (x0 = mo) from q0)) ?_
            show Steps p.tables e below (T271.setTop (mkF m 308 _ [])) t
            refine XS.aload P272.here P272.x rfl (hb hby at_308) rfl rfl ?_
            show Steps p.tables e below (T271.setTop (mkF m 310 _ [(.ref vb)])) t
            refine XS.aload P272.here P272.x rfl (hb hby at_310) rfl rfl ?_
            show Steps p.tables e below (T271.setTop (mkF m 312 _ [(.ref ob), (.ref vb)])) t
            refine XS.iconst P272.here P272.x rfl (hb hby at_312) ?_
            exact kk
          refine wIaload P272 f408 (j := (0 : Int32)) (i := 0) rfl (by decide) (v := (.int x0)) rfl (hb hby at_313) rfl ?_
          show Done _ _ _ _ _ _ _ _ _ _ _ _ _ _ _ T271 (mkF m 314 _ [(.int x0), (.ref vb)])
          have f409 := (f270.keep K283 (ninS (by first | assumption | exact Ne.symm (by assumption) | exact adr_ne (by omega) | omega) (ninS (by first | assumption | exact Ne.symm (by assumption) | exact adr_ne (by omega) | omega) (ninS (by first | assumption | exact Ne.symm (by assumption) | exact adr_ne (by omega) | omega) nin0))))
          refine wDaload P272 f409 (j := x0) (i := i0) hx0 hi0 (v := (.double ((oupd (oupd (oupd (fun _ => (0 : UInt64)) 0 w0) 1 w1) 2 w2) i0))) rfl (hb hby at_314) rfl ?_
          show Done _ _ _ _ _ _ _ _ _ _ _ _ _ _ _ T271 (mkF m 315 _ [(.double ((oupd (oupd (oupd (fun _ => (0 : UInt64)) 0 w0) 1 w1) 2 w2) i0))])
          refine Done.stepL (pc' := 318) (st' := [(.int (cmpZ (own_sel V0 V1 V2 i0) p5.toInt))]) (fun t kk => ?_) ?_
          · show Steps p.tables e below (T271.setTop (mkF m 315 _ [(.double ((oupd (oupd (oupd (fun _ => (0 : UInt64)) 0 w0) 1 w1) 2 w2) i0))])) t
            refine XS.dload P272.here P272.x rfl (hb hby at_315) rfl ?_
            show Steps p.tables e below (T271.setTop (mkF m 317 _ [(.double wk), (.double ((oupd (oupd (oupd (fun _ => (0 : UInt64)) 0 w0) 1 w1) 2 w2) i0))])) t
            refine XS.dcmpS P272.here P272.x rfl (hb hby at_317) rfl (dcmpZ (own_ds E0 E1 E2 i0 hi0) Dk) ?_
            exact kk
          by_cases r0 : ¬ (p5.toInt < (own_sel V0 V1 V2 i0))
          · refine Done.stepL (pc' := 330) (st' := []) (fun t kk => ?_) ?_
            · show Steps p.tables e below (T271.setTop (mkF m 318 _ [(.int (cmpZ (own_sel V0 V1 V2 i0) p5.toInt))])) t
              refine XS.ifYes P272.here P272.x rfl (pc0 := 318) (pc' := 330) rfl (hb hby at_318) rfl (ciW_le_t r0) (by decide) (by decide) ?_
              exact kk
            exact t330 p5.toInt wk Dk (by rw [if_neg q0, if_neg r0])
          · refine Done.stepL (pc' := 326) (st' := [(.int (0 : Int32)), (.ref ob), (.ref vb)]) (fun t kk => ?_) ?_
            · show Steps p.tables e below (T271.setTop (mkF m 318 _ [(.int (cmpZ (own_sel V0 V1 V2 i0) p5.toInt))])) t
              refine XS.ifNo P272.here P272.x rfl (hb hby at_318) rfl (ciW_le_f (show ¬ (¬ (p5.toInt < (own_sel V0 V1 V2 i0))) from r0)) ?_
              show Steps p.tables e below (T271.setTop (mkF m 321 _ [])) t
              refine XS.aload P272.here P272.x rfl (hb hby at_321) rfl rfl ?_
              show Steps p.tables e below (T271.setTop (mkF m 323 _ [(.ref vb)])) t
              refine XS.aload P272.here P272.x rfl (hb hby at_323) rfl rfl ?_
              show Steps p.tables e below (T271.setTop (mkF m 325 _ [(.ref ob), (.ref vb)])) t
              refine XS.iconst P272.here P272.x rfl (hb hby at_325) ?_
              exact kk
            refine wIaload P272 f408 (j := (0 : Int32)) (i := 0) rfl (by decide) (v := (.int x0)) rfl (hb hby at_326) rfl ?_
            show Done _ _ _ _ _ _ _ _ _ _ _ _ _ _ _ T271 (mkF m 327 _ [(.int x0), (.ref vb)])
            refine wDaload P272 f409 (j := x0) (i := i0) hx0 hi0 (v := (.double ((oupd (oupd (oupd (fun _ => (0 : UInt64)) 0 w0) 1 w1) 2 w2) i0))) rfl (hb hby at_327) rfl ?_
            show Done _ _ _ _ _ _ _ _ _ _ _ _ _ _ _ T271 (mkF m 328 _ [(.double ((oupd (oupd (oupd (fun _ => (0 : UInt64)) 0 w0) 1 w1) 2 w2) i0))])
            refine Done.step (T' := T271) (g' := (mkF m 330 #[.val (.int p0), .val (.int p1), .val (.int p2), .val (.int p3), .val (.int p4), .val (.int p5), .val (.double w0), .second, .val (.double w1), .second, .val (.double w2), .second, .val (.ref vb), .val (.int z13), .val (.int z14), .val (.int z15), .val (.int z16), .val (.int z17), .val (.ref ob), .val (.int (p4 &&& (2147483647 : Int32))), .val (.int (3 : Int32)), .val (.int cv), .val (.double wk), .second, .val (.ref b212), .val (.int mo), .val (.double ((oupd (oupd (oupd (fun _ => (0 : UInt64)) 0 w0) 1 w1) 2 w2) i0)), .second, .unset, .unset, .unset, .unset, .unset] [])) (fun t kk => ?_) ?_
            · show Steps p.tables e below (T271.setTop (mkF m 328 _ [(.double ((oupd (oupd (oupd (fun _ => (0 : UInt64)) 0 w0) 1 w1) 2 w2) i0))])) t
              refine XS.dstore P272.here P272.x rfl (hb hby at_328) rfl (l' := #[.val (.int p0), .val (.int p1), .val (.int p2), .val (.int p3), .val (.int p4), .val (.int p5), .val (.double w0), .second, .val (.double w1), .second, .val (.double w2), .second, .val (.ref vb), .val (.int z13), .val (.int z14), .val (.int z15), .val (.int z16), .val (.int z17), .val (.ref ob), .val (.int (p4 &&& (2147483647 : Int32))), .val (.int (3 : Int32)), .val (.int cv), .val (.double wk), .second, .val (.ref b212), .val (.int mo), .val (.double ((oupd (oupd (oupd (fun _ => (0 : UInt64)) 0 w0) 1 w1) 2 w2) i0)), .second, .unset, .unset, .unset, .unset, .unset]) rfl ?_
              exact kk
            exact t330 (own_sel V0 V1 V2 i0) ((oupd (oupd (oupd (fun _ => (0 : UInt64)) 0 w0) 1 w1) 2 w2) i0) (own_ds E0 E1 E2 i0 hi0) (by rw [if_neg q0, if_pos (Decidable.not_not.mp r0)])
      refine Done.stepL (pc' := 250) (st' := [(.int (0 : Int32)), (.ref ob)]) (fun t kk => ?_) ?_
      · show Steps p.tables e below (T271.setTop (mkF m 247 _ [])) t
        refine XS.aload P272.here P272.x rfl (hb hby at_247) rfl rfl ?_
        show Steps p.tables e below (T271.setTop (mkF m 249 _ [(.ref ob)])) t
        refine XS.iconst P272.here P272.x rfl (hb hby at_249) ?_
        exact kk
      have f410 := (f269.keep K283 (ninS (by first | assumption | exact Ne.symm (by assumption) | exact adr_ne (by omega) | omega) (ninS (by first | assumption | exact Ne.symm (by assumption) | exact adr_ne (by omega) | omega) (ninS (by first | assumption | exact Ne.symm (by assumption) | exact adr_ne (by omega) | omega) nin0))))
      refine wIaload P272 f410 (j := (0 : Int32)) (i := 0) rfl (by decide) (v := (.int x0)) rfl (hb hby at_250) rfl ?_
      show Done _ _ _ _ _ _ _ _ _ _ _ _ _ _ _ T271 (mkF m 251 _ [(.int x0)])
      refine Done.step (T' := T271) (g' := (mkF m 262 #[.val (.int p0), .val (.int p1), .val (.int p2), .val (.int p3), .val (.int p4), .val (.int p5), .val (.double w0), .second, .val (.double w1), .second, .val (.double w2), .second, .val (.ref vb), .val (.int z13), .val (.int z14), .val (.int z15), .val (.int z16), .val (.int z17), .val (.ref ob), .val (.int (p4 &&& (2147483647 : Int32))), .val (.int (3 : Int32)), .val (.int cv), .val (.double wk), .second, .val (.ref b212), .val (.int x0), .unset, .unset, .unset, .unset, .unset, .unset, .unset] [(.int (1 : Int32)), (.ref ob)])) (fun t kk => ?_) ?_
      · show Steps p.tables e below (T271.setTop (mkF m 251 _ [(.int x0)])) t
        refine XS.istore P272.here P272.x rfl (hb hby at_251) rfl (l' := #[.val (.int p0), .val (.int p1), .val (.int p2), .val (.int p3), .val (.int p4), .val (.int p5), .val (.double w0), .second, .val (.double w1), .second, .val (.double w2), .second, .val (.ref vb), .val (.int z13), .val (.int z14), .val (.int z15), .val (.int z16), .val (.int z17), .val (.ref ob), .val (.int (p4 &&& (2147483647 : Int32))), .val (.int (3 : Int32)), .val (.int cv), .val (.double wk), .second, .val (.ref b212), .val (.int x0), .unset, .unset, .unset, .unset, .unset, .unset, .unset]) rfl ?_
        show Steps p.tables e below (T271.setTop (mkF m 253 _ [])) t
        refine XS.iload P272.here P272.x rfl (hb hby at_253) rfl ?_
        show Steps p.tables e below (T271.setTop (mkF m 255 _ [(.int (3 : Int32))])) t
        refine XS.iconst P272.here P272.x rfl (hb hby at_255) ?_
        show Steps p.tables e below (T271.setTop (mkF m 256 _ [(.int (2 : Int32)), (.int (3 : Int32))])) t
        refine XS.icmpNo P272.here P272.x rfl (hb hby at_256) rfl (iiW_lt_f (by decide)) ?_
        show Steps p.tables e below (T271.setTop (mkF m 259 _ [])) t
        refine XS.aload P272.here P272.x rfl (hb hby at_259) rfl rfl ?_
        show Steps p.tables e below (T271.setTop (mkF m 261 _ [(.ref ob)])) t
        refine XS.iconst P272.here P272.x rfl (hb hby at_261) ?_
        exact kk
      refine wIaload P272 f410 (j := (1 : Int32)) (i := 1) rfl (by decide) (v := (.int x1)) rfl (hb hby at_262) rfl ?_
      show Done _ _ _ _ _ _ _ _ _ _ _ _ _ _ _ T271 (mkF m 263 _ [(.int x1)])
      refine Done.stepL (pc' := 265) (st' := [(.int x0), (.int x1)]) (fun t kk => ?_) ?_
      · show Steps p.tables e below (T271.setTop (mkF m 263 _ [(.int x1)])) t
        refine XS.iload P272.here P272.x rfl (hb hby at_263) rfl ?_
        exact kk
      by_cases b1 : ¬ (x0 < x1)
      · refine Done.stepL (pc' := 283) (st' := [(.int (2 : Int32)), (.ref ob)]) (fun t kk => ?_) ?_
        · show Steps p.tables e below (T271.setTop (mkF m 265 _ [(.int x0), (.int x1)])) t
          refine XS.icmpYes P272.here P272.x rfl (pc0 := 265) (pc' := 274) rfl (hb hby at_265) rfl (iiW_le_t b1) (by decide) (by decide) ?_
          show Steps p.tables e below (T271.setTop (mkF m 274 _ [])) t
          refine XS.iload P272.here P272.x rfl (hb hby at_274) rfl ?_
          show Steps p.tables e below (T271.setTop (mkF m 276 _ [(.int (3 : Int32))])) t
          refine XS.iconst P272.here P272.x rfl (hb hby at_276) ?_
          show Steps p.tables e below (T271.setTop (mkF m 277 _ [(.int (3 : Int32)), (.int (3 : Int32))])) t
          refine XS.icmpNo P272.here P272.x rfl (hb hby at_277) rfl (iiW_lt_f (by decide)) ?_
          show Steps p.tables e below (T271.setTop (mkF m 280 _ [])) t
          refine XS.aload P272.here P272.x rfl (hb hby at_280) rfl rfl ?_
          show Steps p.tables e below (T271.setTop (mkF m 282 _ [(.ref ob)])) t
          refine XS.iconst P272.here P272.x rfl (hb hby at_282) ?_
          exact kk
        refine wIaload P272 f410 (j := (2 : Int32)) (i := 2) rfl (by decide) (v := (.int x2)) rfl (hb hby at_283) rfl ?_
        show Done _ _ _ _ _ _ _ _ _ _ _ _ _ _ _ T271 (mkF m 284 _ [(.int x2)])
        refine Done.stepL (pc' := 286) (st' := [(.int x0), (.int x2)]) (fun t kk => ?_) ?_
        · show Steps p.tables e below (T271.setTop (mkF m 284 _ [(.int x2)])) t
          refine XS.iload P272.here P272.x rfl (hb hby at_284) rfl ?_
          exact kk
        by_cases b2 : ¬ (x0 < x2)
        · refine Done.stepL (pc' := 295) (st' := []) (fun t kk => ?_) ?_
          · show Steps p.tables e below (T271.setTop (mkF m 286 _ [(.int x0), (.int x2)])) t
            refine XS.icmpYes P272.here P272.x rfl (pc0 := 286) (pc' := 295) rfl (hb hby at_286) rfl (iiW_le_t b2) (by decide) (by decide) ?_
            exact kk
          exact tail2 _ (by rw [if_neg b1, if_neg b2])
        · refine Done.stepL (pc' := 292) (st' := [(.int (2 : Int32)), (.ref ob)]) (fun t kk => ?_) ?_
          · show Steps p.tables e below (T271.setTop (mkF m 286 _ [(.int x0), (.int x2)])) t
            refine XS.icmpNo P272.here P272.x rfl (hb hby at_286) rfl (iiW_le_f (show ¬ (¬ (x0 < x2)) from b2)) ?_
            show Steps p.tables e below (T271.setTop (mkF m 289 _ [])) t
            refine XS.aload P272.here P272.x rfl (hb hby at_289) rfl rfl ?_
            show Steps p.tables e below (T271.setTop (mkF m 291 _ [(.ref ob)])) t
            refine XS.iconst P272.here P272.x rfl (hb hby at_291) ?_
            exact kk
          refine wIaload P272 f410 (j := (2 : Int32)) (i := 2) rfl (by decide) (v := (.int x2)) rfl (hb hby at_292) rfl ?_
          show Done _ _ _ _ _ _ _ _ _ _ _ _ _ _ _ T271 (mkF m 293 _ [(.int x2)])
          refine Done.step (T' := T271) (g' := (mkF m 295 #[.val (.int p0), .val (.int p1), .val (.int p2), .val (.int p3), .val (.int p4), .val (.int p5), .val (.double w0), .second, .val (.double w1), .second, .val (.double w2), .second, .val (.ref vb), .val (.int z13), .val (.int z14), .val (.int z15), .val (.int z16), .val (.int z17), .val (.ref ob), .val (.int (p4 &&& (2147483647 : Int32))), .val (.int (3 : Int32)), .val (.int cv), .val (.double wk), .second, .val (.ref b212), .val (.int x2), .unset, .unset, .unset, .unset, .unset, .unset, .unset] [])) (fun t kk => ?_) ?_
          · show Steps p.tables e below (T271.setTop (mkF m 293 _ [(.int x2)])) t
            refine XS.istore P272.here P272.x rfl (hb hby at_293) rfl (l' := #[.val (.int p0), .val (.int p1), .val (.int p2), .val (.int p3), .val (.int p4), .val (.int p5), .val (.double w0), .second, .val (.double w1), .second, .val (.double w2), .second, .val (.ref vb), .val (.int z13), .val (.int z14), .val (.int z15), .val (.int z16), .val (.int z17), .val (.ref ob), .val (.int (p4 &&& (2147483647 : Int32))), .val (.int (3 : Int32)), .val (.int cv), .val (.double wk), .second, .val (.ref b212), .val (.int x2), .unset, .unset, .unset, .unset, .unset, .unset, .unset]) rfl ?_
            exact kk
          exact tail2 _ (by rw [if_neg b1, if_pos (Decidable.not_not.mp b2)])
      · refine Done.stepL (pc' := 271) (st' := [(.int (1 : Int32)), (.ref ob)]) (fun t kk => ?_) ?_
        · show Steps p.tables e below (T271.setTop (mkF m 265 _ [(.int x0), (.int x1)])) t
          refine XS.icmpNo P272.here P272.x rfl (hb hby at_265) rfl (iiW_le_f (show ¬ (¬ (x0 < x1)) from b1)) ?_
          show Steps p.tables e below (T271.setTop (mkF m 268 _ [])) t
          refine XS.aload P272.here P272.x rfl (hb hby at_268) rfl rfl ?_
          show Steps p.tables e below (T271.setTop (mkF m 270 _ [(.ref ob)])) t
          refine XS.iconst P272.here P272.x rfl (hb hby at_270) ?_
          exact kk
        refine wIaload P272 f410 (j := (1 : Int32)) (i := 1) rfl (by decide) (v := (.int x1)) rfl (hb hby at_271) rfl ?_
        show Done _ _ _ _ _ _ _ _ _ _ _ _ _ _ _ T271 (mkF m 272 _ [(.int x1)])
        refine Done.step (T' := T271) (g' := (mkF m 283 #[.val (.int p0), .val (.int p1), .val (.int p2), .val (.int p3), .val (.int p4), .val (.int p5), .val (.double w0), .second, .val (.double w1), .second, .val (.double w2), .second, .val (.ref vb), .val (.int z13), .val (.int z14), .val (.int z15), .val (.int z16), .val (.int z17), .val (.ref ob), .val (.int (p4 &&& (2147483647 : Int32))), .val (.int (3 : Int32)), .val (.int cv), .val (.double wk), .second, .val (.ref b212), .val (.int x1), .unset, .unset, .unset, .unset, .unset, .unset, .unset] [(.int (2 : Int32)), (.ref ob)])) (fun t kk => ?_) ?_
        · show Steps p.tables e below (T271.setTop (mkF m 272 _ [(.int x1)])) t
          refine XS.istore P272.here P272.x rfl (hb hby at_272) rfl (l' := #[.val (.int p0), .val (.int p1), .val (.int p2), .val (.int p3), .val (.int p4), .val (.int p5), .val (.double w0), .second, .val (.double w1), .second, .val (.double w2), .second, .val (.ref vb), .val (.int z13), .val (.int z14), .val (.int z15), .val (.int z16), .val (.int z17), .val (.ref ob), .val (.int (p4 &&& (2147483647 : Int32))), .val (.int (3 : Int32)), .val (.int cv), .val (.double wk), .second, .val (.ref b212), .val (.int x1), .unset, .unset, .unset, .unset, .unset, .unset, .unset]) rfl ?_
          show Steps p.tables e below (T271.setTop (mkF m 274 _ [])) t
          refine XS.iload P272.here P272.x rfl (hb hby at_274) rfl ?_
          show Steps p.tables e below (T271.setTop (mkF m 276 _ [(.int (3 : Int32))])) t
          refine XS.iconst P272.here P272.x rfl (hb hby at_276) ?_
          show Steps p.tables e below (T271.setTop (mkF m 277 _ [(.int (3 : Int32)), (.int (3 : Int32))])) t
          refine XS.icmpNo P272.here P272.x rfl (hb hby at_277) rfl (iiW_lt_f (by decide)) ?_
          show Steps p.tables e below (T271.setTop (mkF m 280 _ [])) t
          refine XS.aload P272.here P272.x rfl (hb hby at_280) rfl rfl ?_
          show Steps p.tables e below (T271.setTop (mkF m 282 _ [(.ref ob)])) t
          refine XS.iconst P272.here P272.x rfl (hb hby at_282) ?_
          exact kk
        refine wIaload P272 f410 (j := (2 : Int32)) (i := 2) rfl (by decide) (v := (.int x2)) rfl (hb hby at_283) rfl ?_
        show Done _ _ _ _ _ _ _ _ _ _ _ _ _ _ _ T271 (mkF m 284 _ [(.int x2)])
        refine Done.stepL (pc' := 286) (st' := [(.int x1), (.int x2)]) (fun t kk => ?_) ?_
        · show Steps p.tables e below (T271.setTop (mkF m 284 _ [(.int x2)])) t
          refine XS.iload P272.here P272.x rfl (hb hby at_284) rfl ?_
          exact kk
        by_cases b2 : ¬ (x1 < x2)
        · refine Done.stepL (pc' := 295) (st' := []) (fun t kk => ?_) ?_
          · show Steps p.tables e below (T271.setTop (mkF m 286 _ [(.int x1), (.int x2)])) t
            refine XS.icmpYes P272.here P272.x rfl (pc0 := 286) (pc' := 295) rfl (hb hby at_286) rfl (iiW_le_t b2) (by decide) (by decide) ?_
            exact kk
          exact tail2 _ (by rw [if_pos (Decidable.not_not.mp b1), if_neg b2])
        · refine Done.stepL (pc' := 292) (st' := [(.int (2 : Int32)), (.ref ob)]) (fun t kk => ?_) ?_
          · show Steps p.tables e below (T271.setTop (mkF m 286 _ [(.int x1), (.int x2)])) t
            refine XS.icmpNo P272.here P272.x rfl (hb hby at_286) rfl (iiW_le_f (show ¬ (¬ (x1 < x2)) from b2)) ?_
            show Steps p.tables e below (T271.setTop (mkF m 289 _ [])) t
            refine XS.aload P272.here P272.x rfl (hb hby at_289) rfl rfl ?_
            show Steps p.tables e below (T271.setTop (mkF m 291 _ [(.ref ob)])) t
            refine XS.iconst P272.here P272.x rfl (hb hby at_291) ?_
            exact kk
          refine wIaload P272 f410 (j := (2 : Int32)) (i := 2) rfl (by decide) (v := (.int x2)) rfl (hb hby at_292) rfl ?_
          show Done _ _ _ _ _ _ _ _ _ _ _ _ _ _ _ T271 (mkF m 293 _ [(.int x2)])
          refine Done.step (T' := T271) (g' := (mkF m 295 #[.val (.int p0), .val (.int p1), .val (.int p2), .val (.int p3), .val (.int p4), .val (.int p5), .val (.double w0), .second, .val (.double w1), .second, .val (.double w2), .second, .val (.ref vb), .val (.int z13), .val (.int z14), .val (.int z15), .val (.int z16), .val (.int z17), .val (.ref ob), .val (.int (p4 &&& (2147483647 : Int32))), .val (.int (3 : Int32)), .val (.int cv), .val (.double wk), .second, .val (.ref b212), .val (.int x2), .unset, .unset, .unset, .unset, .unset, .unset, .unset] [])) (fun t kk => ?_) ?_
          · show Steps p.tables e below (T271.setTop (mkF m 293 _ [(.int x2)])) t
            refine XS.istore P272.here P272.x rfl (hb hby at_293) rfl (l' := #[.val (.int p0), .val (.int p1), .val (.int p2), .val (.int p3), .val (.int p4), .val (.int p5), .val (.double w0), .second, .val (.double w1), .second, .val (.double w2), .second, .val (.ref vb), .val (.int z13), .val (.int z14), .val (.int z15), .val (.int z16), .val (.int z17), .val (.ref ob), .val (.int (p4 &&& (2147483647 : Int32))), .val (.int (3 : Int32)), .val (.int cv), .val (.double wk), .second, .val (.ref b212), .val (.int x2), .unset, .unset, .unset, .unset, .unset, .unset, .unset]) rfl ?_
            exact kk
          exact tail2 _ (by rw [if_pos (Decidable.not_not.mp b1), if_pos (Decidable.not_not.mp b2)])
  generalize g_qv : ((p3 &&& (2147483647 : Int32)) - ((p3 &&& (2147483647 : Int32)) / (6 : Int32)) * (6 : Int32)) = qv
  have hqv : qv = 0 ∨ qv = 1 ∨ qv = 2 ∨ qv = 3 ∨ qv = 4 ∨ qv = 5 := by rw [← g_qv]; exact own_qv p3
  show Done _ _ _ _ _ _ _ _ _ _ _ _ _ _ _ T20 (mkF m 59 _ [])
  rcases hqv with rfl | rfl | rfl | rfl | rfl | rfl
  · refine Done.step (T' := T20) (g' := (mkF m 71 #[.val (.int p0), .val (.int p1), .val (.int p2), .val (.int p3), .val (.int p4), .val (.int p5), .val (.double w0), .second, .val (.double w1), .second, .val (.double w2), .second, .val (.ref b4), .val (.int (0 : Int32)), .val (.int ((0 : Int32) / (2 : Int32))), .val (.int ((0 : Int32) - ((0 : Int32) / (2 : Int32)) * (2 : Int32))), .unset, .unset, .unset, .unset, .unset, .unset, .unset, .unset, .unset, .unset, .unset, .unset, .unset, .unset, .unset, .unset, .unset] [])) (fun t kk => ?_) ?_
    · show Steps p.tables e below (T20.setTop (mkF m 59 _ [])) t
      refine XS.iload P21.here P21.x rfl (hb hby at_59) rfl ?_
      show Steps p.tables e below (T20.setTop (mkF m 61 _ [(.int (0 : Int32))])) t
      refine XS.iconst P21.here P21.x rfl (hb hby at_61) ?_
      show Steps p.tables e below (T20.setTop (mkF m 62 _ [(.int (2 : Int32)), (.int (0 : Int32))])) t
      refine XS.idiv P21.here P21.x rfl (hb hby at_62) rfl (by decide) ?_
      show Steps p.tables e below (T20.setTop (mkF m 63 _ [(.int ((0 : Int32) / (2 : Int32)))])) t
      refine XS.istore P21.here P21.x rfl (hb hby at_63) rfl (l' := #[.val (.int p0), .val (.int p1), .val (.int p2), .val (.int p3), .val (.int p4), .val (.int p5), .val (.double w0), .second, .val (.double w1), .second, .val (.double w2), .second, .val (.ref b4), .val (.int (0 : Int32)), .val (.int ((0 : Int32) / (2 : Int32))), .unset, .unset, .unset, .unset, .unset, .unset, .unset, .unset, .unset, .unset, .unset, .unset, .unset, .unset, .unset, .unset, .unset, .unset]) rfl ?_
      show Steps p.tables e below (T20.setTop (mkF m 65 _ [])) t
      refine XS.iload P21.here P21.x rfl (hb hby at_65) rfl ?_
      show Steps p.tables e below (T20.setTop (mkF m 67 _ [(.int (0 : Int32))])) t
      refine XS.iconst P21.here P21.x rfl (hb hby at_67) ?_
      show Steps p.tables e below (T20.setTop (mkF m 68 _ [(.int (2 : Int32)), (.int (0 : Int32))])) t
      refine XS.irem P21.here P21.x rfl (hb hby at_68) rfl (by decide) ?_
      show Steps p.tables e below (T20.setTop (mkF m 69 _ [(.int ((0 : Int32) - ((0 : Int32) / (2 : Int32)) * (2 : Int32)))])) t
      refine XS.istore P21.here P21.x rfl (hb hby at_69) rfl (l' := #[.val (.int p0), .val (.int p1), .val (.int p2), .val (.int p3), .val (.int p4), .val (.int p5), .val (.double w0), .second, .val (.double w1), .second, .val (.double w2), .second, .val (.ref b4), .val (.int (0 : Int32)), .val (.int ((0 : Int32) / (2 : Int32))), .val (.int ((0 : Int32) - ((0 : Int32) / (2 : Int32)) * (2 : Int32))), .unset, .unset, .unset, .unset, .unset, .unset, .unset, .unset, .unset, .unset, .unset, .unset, .unset, .unset, .unset, .unset, .unset]) rfl ?_
      exact kk
    try rw [show ((0 : Int32) / (2 : Int32)) = (0 : Int32) from by decide]
    show Done _ _ _ _ _ _ _ _ _ _ _ _ _ _ _ T20 (mkF m 71 #[.val (.int p0), .val (.int p1), .val (.int p2), .val (.int p3), .val (.int p4), .val (.int p5), .val (.double w0), .second, .val (.double w1), .second, .val (.double w2), .second, .val (.ref b4), .val (.int (0 : Int32)), .val (.int (0 : Int32)), .val (.int ((0 : Int32) - ((0 : Int32) / (2 : Int32)) * (2 : Int32))), .unset, .unset, .unset, .unset, .unset, .unset, .unset, .unset, .unset, .unset, .unset, .unset, .unset, .unset, .unset, .unset, .unset] [])
    try rw [show ((0 : Int32) - ((0 : Int32) / (2 : Int32)) * (2 : Int32)) = (0 : Int32) from by decide]
    show Done _ _ _ _ _ _ _ _ _ _ _ _ _ _ _ T20 (mkF m 71 #[.val (.int p0), .val (.int p1), .val (.int p2), .val (.int p3), .val (.int p4), .val (.int p5), .val (.double w0), .second, .val (.double w1), .second, .val (.double w2), .second, .val (.ref b4), .val (.int (0 : Int32)), .val (.int (0 : Int32)), .val (.int (0 : Int32)), .unset, .unset, .unset, .unset, .unset, .unset, .unset, .unset, .unset, .unset, .unset, .unset, .unset, .unset, .unset, .unset, .unset] [])
    refine Done.step (T' := T20) (g' := (mkF m 97 #[.val (.int p0), .val (.int p1), .val (.int p2), .val (.int p3), .val (.int p4), .val (.int p5), .val (.double w0), .second, .val (.double w1), .second, .val (.double w2), .second, .val (.ref b4), .val (.int (0 : Int32)), .val (.int (0 : Int32)), .val (.int (0 : Int32)), .val (.int (1 : Int32)), .val (.int (2 : Int32)), .unset, .unset, .unset, .unset, .unset, .unset, .unset, .unset, .unset, .unset, .unset, .unset, .unset, .unset, .unset] [(.int (3 : Int32))])) (fun t kk => ?_) ?_
    · show Steps p.tables e below (T20.setTop (mkF m 71 _ [])) t
      refine XS.iload P21.here P21.x rfl (hb hby at_71) rfl ?_
      show Steps p.tables e below (T20.setTop (mkF m 73 _ [(.int (0 : Int32))])) t
      refine XS.ifNo P21.here P21.x rfl (hb hby at_73) rfl (i0W_ne_f (by decide)) ?_
      show Steps p.tables e below (T20.setTop (mkF m 76 _ [])) t
      refine XS.iconst P21.here P21.x rfl (hb hby at_76) ?_
      show Steps p.tables e below (T20.setTop (mkF m 77 _ [(.int (1 : Int32))])) t
      refine XS.goto P21.here P21.x rfl (pc0 := 77) (pc' := 81) rfl (hb hby at_77) (by decide) (by decide) ?_
      show Steps p.tables e below (T20.setTop (mkF m 81 _ [(.int (1 : Int32))])) t
      refine XS.istore P21.here P21.x rfl (hb hby at_81) rfl (l' := #[.val (.int p0), .val (.int p1), .val (.int p2), .val (.int p3), .val (.int p4), .val (.int p5), .val (.double w0), .second, .val (.double w1), .second, .val (.double w2), .second, .val (.ref b4), .val (.int (0 : Int32)), .val (.int (0 : Int32)), .val (.int (0 : Int32)), .val (.int (1 : Int32)), .unset, .unset, .unset, .unset, .unset, .unset, .unset, .unset, .unset, .unset, .unset, .unset, .unset, .unset, .unset, .unset]) rfl ?_
      show Steps p.tables e below (T20.setTop (mkF m 83 _ [])) t
      refine XS.iload P21.here P21.x rfl (hb hby at_83) rfl ?_
      show Steps p.tables e below (T20.setTop (mkF m 85 _ [(.int (0 : Int32))])) t
      refine XS.iconst P21.here P21.x rfl (hb hby at_85) ?_
      show Steps p.tables e below (T20.setTop (mkF m 86 _ [(.int (2 : Int32)), (.int (0 : Int32))])) t
      refine XS.icmpYes P21.here P21.x rfl (pc0 := 86) (pc' := 93) rfl (hb hby at_86) rfl (iiW_ne_t (by decide)) (by decide) (by decide) ?_
      show Steps p.tables e below (T20.setTop (mkF m 93 _ [])) t
      refine XS.iconst P21.here P21.x rfl (hb hby at_93) ?_
      show Steps p.tables e below (T20.setTop (mkF m 94 _ [(.int (2 : Int32))])) t
      refine XS.istore P21.here P21.x rfl (hb hby at_94) rfl (l' := #[.val (.int p0), .val (.int p1), .val (.int p2), .val (.int p3), .val (.int p4), .val (.int p5), .val (.double w0), .second, .val (.double w1), .second, .val (.double w2), .second, .val (.ref b4), .val (.int (0 : Int32)), .val (.int (0 : Int32)), .val (.int (0 : Int32)), .val (.int (1 : Int32)), .val (.int (2 : Int32)), .unset, .unset, .unset, .unset, .unset, .unset, .unset, .unset, .unset, .unset, .unset, .unset, .unset, .unset, .unset]) rfl ?_
      show Steps p.tables e below (T20.setTop (mkF m 96 _ [])) t
      refine XS.iconst P21.here P21.x rfl (hb hby at_96) ?_
      exact kk
    refine wNewA (aty := .int) P21 (tw2 hw) (hb hby at_97) rfl (N := 3) rfl (cap := 3) (Nat.le_refl _) (by decide) (by decide) (by decide) (ad := "[I") (by decide) (ty := .int) (dv := (.int (0 : Int32))) rfl rfl (k' := 2) (n' := 6) rfl rfl (fun T411 h413 b414 g415 lt416 P412 E417 A418 X419 => ?_)
    have ge_b414 : h0.size ≤ b414 := by have := P21.ge; omega
    show Done _ _ _ _ _ _ _ _ _ _ _ _ _ _ _ T411 (mkF m 99 _ [(.ref b414)])
    refine Done.stepL (pc' := 103) (st' := [(.int (0 : Int32)), (.int (0 : Int32)), (.ref b414), (.ref b414)]) (fun t kk => ?_) ?_
    · show Steps p.tables e below (T411.setTop (mkF m 99 _ [(.ref b414)])) t
      refine XS.dup P412.here P412.x rfl (hb hby at_99) rfl rfl ?_
      show Steps p.tables e below (T411.setTop (mkF m 100 _ [(.ref b414), (.ref b414)])) t
      refine XS.iconst P412.here P412.x rfl (hb hby at_100) ?_
      show Steps p.tables e below (T411.setTop (mkF m 101 _ [(.int (0 : Int32)), (.ref b414), (.ref b414)])) t
      refine XS.iload P412.here P412.x rfl (hb hby at_101) rfl ?_
      exact kk
    refine wIastore P412 (f := (fun _ => (0 : Int32))) A418 (j := (0 : Int32)) (i := 0) rfl (by decide) (Or.inr ge_b414) (hb hby at_103) rfl (fun T420 h422 P421 W423 A424 => ?_)
    have szh422 : h422.size = h413.size := W423.size
    show Done _ _ _ _ _ _ _ _ _ _ _ _ _ _ _ T420 (mkF m 104 _ [(.ref b414)])
    refine Done.stepL (pc' := 118) (st' := [(.int (1 : Int32)), (.int (1 : Int32)), (.ref b414), (.ref b414)]) (fun t kk => ?_) ?_
    · show Steps p.tables e below (T420.setTop (mkF m 104 _ [(.ref b414)])) t
      refine XS.dup P421.here P421.x rfl (hb hby at_104) rfl rfl ?_
      show Steps p.tables e below (T420.setTop (mkF m 105 _ [(.ref b414), (.ref b414)])) t
      refine XS.iconst P421.here P421.x rfl (hb hby at_105) ?_
      show Steps p.tables e below (T420.setTop (mkF m 106 _ [(.int (1 : Int32)), (.ref b414), (.ref b414)])) t
      refine XS.iload P421.here P421.x rfl (hb hby at_106) rfl ?_
      show Steps p.tables e below (T420.setTop (mkF m 108 _ [(.int (0 : Int32)), (.int (1 : Int32)), (.ref b414), (.ref b414)])) t
      refine XS.ifNo P421.here P421.x rfl (hb hby at_108) rfl (i0W_ne_f (by decide)) ?_
      show Steps p.tables e below (T420.setTop (mkF m 111 _ [(.int (1 : Int32)), (.ref b414), (.ref b414)])) t
      refine XS.iload P421.here P421.x rfl (hb hby at_111) rfl ?_
      show Steps p.tables e below (T420.setTop (mkF m 113 _ [(.int (1 : Int32)), (.int (1 : Int32)), (.ref b414), (.ref b414)])) t
      refine XS.goto P421.here P421.x rfl (pc0 := 113) (pc' := 118) rfl (hb hby at_113) (by decide) (by decide) ?_
      exact kk
    refine wIastore P421 (f := (oupd (fun _ => (0 : Int32)) 0 (0 : Int32))) A424 (j := (1 : Int32)) (i := 1) rfl (by decide) (Or.inr ge_b414) (hb hby at_118) rfl (fun T425 h427 P426 W428 A429 => ?_)
    have szh427 : h427.size = h422.size := W428.size
    show Done _ _ _ _ _ _ _ _ _ _ _ _ _ _ _ T425 (mkF m 119 _ [(.ref b414)])
    refine Done.stepL (pc' := 133) (st' := [(.int (2 : Int32)), (.int (2 : Int32)), (.ref b414), (.ref b414)]) (fun t kk => ?_) ?_
    · show Steps p.tables e below (T425.setTop (mkF m 119 _ [(.ref b414)])) t
      refine XS.dup P426.here P426.x rfl (hb hby at_119) rfl rfl ?_
      show Steps p.tables e below (T425.setTop (mkF m 120 _ [(.ref b414), (.ref b414)])) t
      refine XS.iconst P426.here P426.x rfl (hb hby at_120) ?_
      show Steps p.tables e below (T425.setTop (mkF m 121 _ [(.int (2 : Int32)), (.ref b414), (.ref b414)])) t
      refine XS.iload P426.here P426.x rfl (hb hby at_121) rfl ?_
      show Steps p.tables e below (T425.setTop (mkF m 123 _ [(.int (0 : Int32)), (.int (2 : Int32)), (.ref b414), (.ref b414)])) t
      refine XS.ifNo P426.here P426.x rfl (hb hby at_123) rfl (i0W_ne_f (by decide)) ?_
      show Steps p.tables e below (T425.setTop (mkF m 126 _ [(.int (2 : Int32)), (.ref b414), (.ref b414)])) t
      refine XS.iload P426.here P426.x rfl (hb hby at_126) rfl ?_
      show Steps p.tables e below (T425.setTop (mkF m 128 _ [(.int (2 : Int32)), (.int (2 : Int32)), (.ref b414), (.ref b414)])) t
      refine XS.goto P426.here P426.x rfl (pc0 := 128) (pc' := 133) rfl (hb hby at_128) (by decide) (by decide) ?_
      exact kk
    refine wIastore P426 (f := (oupd (oupd (fun _ => (0 : Int32)) 0 (0 : Int32)) 1 (1 : Int32))) A429 (j := (2 : Int32)) (i := 2) rfl (by decide) (Or.inr ge_b414) (hb hby at_133) rfl (fun T430 h432 P431 W433 A434 => ?_)
    have szh432 : h432.size = h427.size := W433.size
    show Done _ _ _ _ _ _ _ _ _ _ _ _ _ _ _ T430 (mkF m 134 _ [(.ref b414)])
    refine Done.step (T' := T430) (g' := (mkF m 136 #[.val (.int p0), .val (.int p1), .val (.int p2), .val (.int p3), .val (.int p4), .val (.int p5), .val (.double w0), .second, .val (.double w1), .second, .val (.double w2), .second, .val (.ref b4), .val (.int (0 : Int32)), .val (.int (0 : Int32)), .val (.int (0 : Int32)), .val (.int (1 : Int32)), .val (.int (2 : Int32)), .val (.ref b414), .unset, .unset, .unset, .unset, .unset, .unset, .unset, .unset, .unset, .unset, .unset, .unset, .unset, .unset] [])) (fun t kk => ?_) ?_
    · show Steps p.tables e below (T430.setTop (mkF m 134 _ [(.ref b414)])) t
      refine XS.astore P431.here P431.x rfl (hb hby at_134) rfl rfl (l' := #[.val (.int p0), .val (.int p1), .val (.int p2), .val (.int p3), .val (.int p4), .val (.int p5), .val (.double w0), .second, .val (.double w1), .second, .val (.double w2), .second, .val (.ref b4), .val (.int (0 : Int32)), .val (.int (0 : Int32)), .val (.int (0 : Int32)), .val (.int (1 : Int32)), .val (.int (2 : Int32)), .val (.ref b414), .unset, .unset, .unset, .unset, .unset, .unset, .unset, .unset, .unset, .unset, .unset, .unset, .unset, .unset]) rfl ?_
      exact kk
    have f435 := ((((A24.ext E417).other W423 (by first | assumption | exact Ne.symm (by assumption) | exact adr_ne (by omega) | omega)).other W428 (by first | assumption | exact Ne.symm (by assumption) | exact adr_ne (by omega) | omega)).other W433 (by first | assumption | exact Ne.symm (by assumption) | exact adr_ne (by omega) | omega))
    exact tail1 _ _ _ _ _ _ _ _ _ (0 : Int32) (1 : Int32) (2 : Int32) 0 1 2 P431 f435 A434  (by decide) (by decide) (by decide) (by decide) (by decide) (by decide) (by decide) (by decide) (by decide)
  · refine Done.step (T' := T20) (g' := (mkF m 71 #[.val (.int p0), .val (.int p1), .val (.int p2), .val (.int p3), .val (.int p4), .val (.int p5), .val (.double w0), .second, .val (.double w1), .second, .val (.double w2), .second, .val (.ref b4), .val (.int (1 : Int32)), .val (.int ((1 : Int32) / (2 : Int32))), .val (.int ((1 : Int32) - ((1 : Int32) / (2 : Int32)) * (2 : Int32))), .unset, .unset, .unset, .unset, .unset, .unset, .unset, .unset, .unset, .unset, .unset, .unset, .unset, .unset, .unset, .unset, .unset] [])) (fun t kk => ?_) ?_
    · show Steps p.tables e below (T20.setTop (mkF m 59 _ [])) t
      refine XS.iload P21.here P21.x rfl (hb hby at_59) rfl ?_
      show Steps p.tables e below (T20.setTop (mkF m 61 _ [(.int (1 : Int32))])) t
      refine XS.iconst P21.here P21.x rfl (hb hby at_61) ?_
      show Steps p.tables e below (T20.setTop (mkF m 62 _ [(.int (2 : Int32)), (.int (1 : Int32))])) t
      refine XS.idiv P21.here P21.x rfl (hb hby at_62) rfl (by decide) ?_
      show Steps p.tables e below (T20.setTop (mkF m 63 _ [(.int ((1 : Int32) / (2 : Int32)))])) t
      refine XS.istore P21.here P21.x rfl (hb hby at_63) rfl (l' := #[.val (.int p0), .val (.int p1), .val (.int p2), .val (.int p3), .val (.int p4), .val (.int p5), .val (.double w0), .second, .val (.double w1), .second, .val (.double w2), .second, .val (.ref b4), .val (.int (1 : Int32)), .val (.int ((1 : Int32) / (2 : Int32))), .unset, .unset, .unset, .unset, .unset, .unset, .unset, .unset, .unset, .unset, .unset, .unset, .unset, .unset, .unset, .unset, .unset, .unset]) rfl ?_
      show Steps p.tables e below (T20.setTop (mkF m 65 _ [])) t
      refine XS.iload P21.here P21.x rfl (hb hby at_65) rfl ?_
      show Steps p.tables e below (T20.setTop (mkF m 67 _ [(.int (1 : Int32))])) t
      refine XS.iconst P21.here P21.x rfl (hb hby at_67) ?_
      show Steps p.tables e below (T20.setTop (mkF m 68 _ [(.int (2 : Int32)), (.int (1 : Int32))])) t
      refine XS.irem P21.here P21.x rfl (hb hby at_68) rfl (by decide) ?_
      show Steps p.tables e below (T20.setTop (mkF m 69 _ [(.int ((1 : Int32) - ((1 : Int32) / (2 : Int32)) * (2 : Int32)))])) t
      refine XS.istore P21.here P21.x rfl (hb hby at_69) rfl (l' := #[.val (.int p0), .val (.int p1), .val (.int p2), .val (.int p3), .val (.int p4), .val (.int p5), .val (.double w0), .second, .val (.double w1), .second, .val (.double w2), .second, .val (.ref b4), .val (.int (1 : Int32)), .val (.int ((1 : Int32) / (2 : Int32))), .val (.int ((1 : Int32) - ((1 : Int32) / (2 : Int32)) * (2 : Int32))), .unset, .unset, .unset, .unset, .unset, .unset, .unset, .unset, .unset, .unset, .unset, .unset, .unset, .unset, .unset, .unset, .unset]) rfl ?_
      exact kk
    try rw [show ((1 : Int32) / (2 : Int32)) = (0 : Int32) from by decide]
    show Done _ _ _ _ _ _ _ _ _ _ _ _ _ _ _ T20 (mkF m 71 #[.val (.int p0), .val (.int p1), .val (.int p2), .val (.int p3), .val (.int p4), .val (.int p5), .val (.double w0), .second, .val (.double w1), .second, .val (.double w2), .second, .val (.ref b4), .val (.int (1 : Int32)), .val (.int (0 : Int32)), .val (.int ((1 : Int32) - ((1 : Int32) / (2 : Int32)) * (2 : Int32))), .unset, .unset, .unset, .unset, .unset, .unset, .unset, .unset, .unset, .unset, .unset, .unset, .unset, .unset, .unset, .unset, .unset] [])
    try rw [show ((1 : Int32) - ((1 : Int32) / (2 : Int32)) * (2 : Int32)) = (1 : Int32) from by decide]
    show Done _ _ _ _ _ _ _ _ _ _ _ _ _ _ _ T20 (mkF m 71 #[.val (.int p0), .val (.int p1), .val (.int p2), .val (.int p3), .val (.int p4), .val (.int p5), .val (.double w0), .second, .val (.double w1), .second, .val (.double w2), .second, .val (.ref b4), .val (.int (1 : Int32)), .val (.int (0 : Int32)), .val (.int (1 : Int32)), .unset, .unset, .unset, .unset, .unset, .unset, .unset, .unset, .unset, .unset, .unset, .unset, .unset, .unset, .unset, .unset, .unset] [])
    refine Done.step (T' := T20) (g' := (mkF m 97 #[.val (.int p0), .val (.int p1), .val (.int p2), .val (.int p3), .val (.int p4), .val (.int p5), .val (.double w0), .second, .val (.double w1), .second, .val (.double w2), .second, .val (.ref b4), .val (.int (1 : Int32)), .val (.int (0 : Int32)), .val (.int (1 : Int32)), .val (.int (1 : Int32)), .val (.int (2 : Int32)), .unset, .unset, .unset, .unset, .unset, .unset, .unset, .unset, .unset, .unset, .unset, .unset, .unset, .unset, .unset] [(.int (3 : Int32))])) (fun t kk => ?_) ?_
    · show Steps p.tables e below (T20.setTop (mkF m 71 _ [])) t
      refine XS.iload P21.here P21.x rfl (hb hby at_71) rfl ?_
      show Steps p.tables e below (T20.setTop (mkF m 73 _ [(.int (0 : Int32))])) t
      refine XS.ifNo P21.here P21.x rfl (hb hby at_73) rfl (i0W_ne_f (by decide)) ?_
      show Steps p.tables e below (T20.setTop (mkF m 76 _ [])) t
      refine XS.iconst P21.here P21.x rfl (hb hby at_76) ?_
      show Steps p.tables e below (T20.setTop (mkF m 77 _ [(.int (1 : Int32))])) t
      refine XS.goto P21.here P21.x rfl (pc0 := 77) (pc' := 81) rfl (hb hby at_77) (by decide) (by decide) ?_
      show Steps p.tables e below (T20.setTop (mkF m 81 _ [(.int (1 : Int32))])) t
      refine XS.istore P21.here P21.x rfl (hb hby at_81) rfl (l' := #[.val (.int p0), .val (.int p1), .val (.int p2), .val (.int p3), .val (.int p4), .val (.int p5), .val (.double w0), .second, .val (.double w1), .second, .val (.double w2), .second, .val (.ref b4), .val (.int (1 : Int32)), .val (.int (0 : Int32)), .val (.int (1 : Int32)), .val (.int (1 : Int32)), .unset, .unset, .unset, .unset, .unset, .unset, .unset, .unset, .unset, .unset, .unset, .unset, .unset, .unset, .unset, .unset]) rfl ?_
      show Steps p.tables e below (T20.setTop (mkF m 83 _ [])) t
      refine XS.iload P21.here P21.x rfl (hb hby at_83) rfl ?_
      show Steps p.tables e below (T20.setTop (mkF m 85 _ [(.int (0 : Int32))])) t
      refine XS.iconst P21.here P21.x rfl (hb hby at_85) ?_
      show Steps p.tables e below (T20.setTop (mkF m 86 _ [(.int (2 : Int32)), (.int (0 : Int32))])) t
      refine XS.icmpYes P21.here P21.x rfl (pc0 := 86) (pc' := 93) rfl (hb hby at_86) rfl (iiW_ne_t (by decide)) (by decide) (by decide) ?_
      show Steps p.tables e below (T20.setTop (mkF m 93 _ [])) t
      refine XS.iconst P21.here P21.x rfl (hb hby at_93) ?_
      show Steps p.tables e below (T20.setTop (mkF m 94 _ [(.int (2 : Int32))])) t
      refine XS.istore P21.here P21.x rfl (hb hby at_94) rfl (l' := #[.val (.int p0), .val (.int p1), .val (.int p2), .val (.int p3), .val (.int p4), .val (.int p5), .val (.double w0), .second, .val (.double w1), .second, .val (.double w2), .second, .val (.ref b4), .val (.int (1 : Int32)), .val (.int (0 : Int32)), .val (.int (1 : Int32)), .val (.int (1 : Int32)), .val (.int (2 : Int32)), .unset, .unset, .unset, .unset, .unset, .unset, .unset, .unset, .unset, .unset, .unset, .unset, .unset, .unset, .unset]) rfl ?_
      show Steps p.tables e below (T20.setTop (mkF m 96 _ [])) t
      refine XS.iconst P21.here P21.x rfl (hb hby at_96) ?_
      exact kk
    refine wNewA (aty := .int) P21 (tw2 hw) (hb hby at_97) rfl (N := 3) rfl (cap := 3) (Nat.le_refl _) (by decide) (by decide) (by decide) (ad := "[I") (by decide) (ty := .int) (dv := (.int (0 : Int32))) rfl rfl (k' := 2) (n' := 6) rfl rfl (fun T436 h438 b439 g440 lt441 P437 E442 A443 X444 => ?_)
    have ge_b439 : h0.size ≤ b439 := by have := P21.ge; omega
    show Done _ _ _ _ _ _ _ _ _ _ _ _ _ _ _ T436 (mkF m 99 _ [(.ref b439)])
    refine Done.stepL (pc' := 103) (st' := [(.int (0 : Int32)), (.int (0 : Int32)), (.ref b439), (.ref b439)]) (fun t kk => ?_) ?_
    · show Steps p.tables e below (T436.setTop (mkF m 99 _ [(.ref b439)])) t
      refine XS.dup P437.here P437.x rfl (hb hby at_99) rfl rfl ?_
      show Steps p.tables e below (T436.setTop (mkF m 100 _ [(.ref b439), (.ref b439)])) t
      refine XS.iconst P437.here P437.x rfl (hb hby at_100) ?_
      show Steps p.tables e below (T436.setTop (mkF m 101 _ [(.int (0 : Int32)), (.ref b439), (.ref b439)])) t
      refine XS.iload P437.here P437.x rfl (hb hby at_101) rfl ?_
      exact kk
    refine wIastore P437 (f := (fun _ => (0 : Int32))) A443 (j := (0 : Int32)) (i := 0) rfl (by decide) (Or.inr ge_b439) (hb hby at_103) rfl (fun T445 h447 P446 W448 A449 => ?_)
    have szh447 : h447.size = h438.size := W448.size
    show Done _ _ _ _ _ _ _ _ _ _ _ _ _ _ _ T445 (mkF m 104 _ [(.ref b439)])
    refine Done.stepL (pc' := 118) (st' := [(.int (2 : Int32)), (.int (1 : Int32)), (.ref b439), (.ref b439)]) (fun t kk => ?_) ?_
    · show Steps p.tables e below (T445.setTop (mkF m 104 _ [(.ref b439)])) t
      refine XS.dup P446.here P446.x rfl (hb hby at_104) rfl rfl ?_
      show Steps p.tables e below (T445.setTop (mkF m 105 _ [(.ref b439), (.ref b439)])) t
      refine XS.iconst P446.here P446.x rfl (hb hby at_105) ?_
      show Steps p.tables e below (T445.setTop (mkF m 106 _ [(.int (1 : Int32)), (.ref b439), (.ref b439)])) t
      refine XS.iload P446.here P446.x rfl (hb hby at_106) rfl ?_
      show Steps p.tables e below (T445.setTop (mkF m 108 _ [(.int (1 : Int32)), (.int (1 : Int32)), (.ref b439), (.ref b439)])) t
      refine XS.ifYes P446.here P446.x rfl (pc0 := 108) (pc' := 116) rfl (hb hby at_108) rfl (i0W_ne_t (by decide)) (by decide) (by decide) ?_
      show Steps p.tables e below (T445.setTop (mkF m 116 _ [(.int (1 : Int32)), (.ref b439), (.ref b439)])) t
      refine XS.iload P446.here P446.x rfl (hb hby at_116) rfl ?_
      exact kk
    refine wIastore P446 (f := (oupd (fun _ => (0 : Int32)) 0 (0 : Int32))) A449 (j := (1 : Int32)) (i := 1) rfl (by decide) (Or.inr ge_b439) (hb hby at_118) rfl (fun T450 h452 P451 W453 A454 => ?_)
    have szh452 : h452.size = h447.size := W453.size
    show Done _ _ _ _ _ _ _ _ _ _ _ _ _ _ _ T450 (mkF m 119 _ [(.ref b439)])
    refine Done.stepL (pc' := 133) (st' := [(.int (1 : Int32)), (.int (2 : Int32)), (.ref b439), (.ref b439)]) (fun t kk => ?_) ?_
    · show Steps p.tables e below (T450.setTop (mkF m 119 _ [(.ref b439)])) t
      refine XS.dup P451.here P451.x rfl (hb hby at_119) rfl rfl ?_
      show Steps p.tables e below (T450.setTop (mkF m 120 _ [(.ref b439), (.ref b439)])) t
      refine XS.iconst P451.here P451.x rfl (hb hby at_120) ?_
      show Steps p.tables e below (T450.setTop (mkF m 121 _ [(.int (2 : Int32)), (.ref b439), (.ref b439)])) t
      refine XS.iload P451.here P451.x rfl (hb hby at_121) rfl ?_
      show Steps p.tables e below (T450.setTop (mkF m 123 _ [(.int (1 : Int32)), (.int (2 : Int32)), (.ref b439), (.ref b439)])) t
      refine XS.ifYes P451.here P451.x rfl (pc0 := 123) (pc' := 131) rfl (hb hby at_123) rfl (i0W_ne_t (by decide)) (by decide) (by decide) ?_
      show Steps p.tables e below (T450.setTop (mkF m 131 _ [(.int (2 : Int32)), (.ref b439), (.ref b439)])) t
      refine XS.iload P451.here P451.x rfl (hb hby at_131) rfl ?_
      exact kk
    refine wIastore P451 (f := (oupd (oupd (fun _ => (0 : Int32)) 0 (0 : Int32)) 1 (2 : Int32))) A454 (j := (2 : Int32)) (i := 2) rfl (by decide) (Or.inr ge_b439) (hb hby at_133) rfl (fun T455 h457 P456 W458 A459 => ?_)
    have szh457 : h457.size = h452.size := W458.size
    show Done _ _ _ _ _ _ _ _ _ _ _ _ _ _ _ T455 (mkF m 134 _ [(.ref b439)])
    refine Done.step (T' := T455) (g' := (mkF m 136 #[.val (.int p0), .val (.int p1), .val (.int p2), .val (.int p3), .val (.int p4), .val (.int p5), .val (.double w0), .second, .val (.double w1), .second, .val (.double w2), .second, .val (.ref b4), .val (.int (1 : Int32)), .val (.int (0 : Int32)), .val (.int (1 : Int32)), .val (.int (1 : Int32)), .val (.int (2 : Int32)), .val (.ref b439), .unset, .unset, .unset, .unset, .unset, .unset, .unset, .unset, .unset, .unset, .unset, .unset, .unset, .unset] [])) (fun t kk => ?_) ?_
    · show Steps p.tables e below (T455.setTop (mkF m 134 _ [(.ref b439)])) t
      refine XS.astore P456.here P456.x rfl (hb hby at_134) rfl rfl (l' := #[.val (.int p0), .val (.int p1), .val (.int p2), .val (.int p3), .val (.int p4), .val (.int p5), .val (.double w0), .second, .val (.double w1), .second, .val (.double w2), .second, .val (.ref b4), .val (.int (1 : Int32)), .val (.int (0 : Int32)), .val (.int (1 : Int32)), .val (.int (1 : Int32)), .val (.int (2 : Int32)), .val (.ref b439), .unset, .unset, .unset, .unset, .unset, .unset, .unset, .unset, .unset, .unset, .unset, .unset, .unset, .unset]) rfl ?_
      exact kk
    have f460 := ((((A24.ext E442).other W448 (by first | assumption | exact Ne.symm (by assumption) | exact adr_ne (by omega) | omega)).other W453 (by first | assumption | exact Ne.symm (by assumption) | exact adr_ne (by omega) | omega)).other W458 (by first | assumption | exact Ne.symm (by assumption) | exact adr_ne (by omega) | omega))
    exact tail1 _ _ _ _ _ _ _ _ _ (0 : Int32) (2 : Int32) (1 : Int32) 0 2 1 P456 f460 A459  (by decide) (by decide) (by decide) (by decide) (by decide) (by decide) (by decide) (by decide) (by decide)
  · refine Done.step (T' := T20) (g' := (mkF m 71 #[.val (.int p0), .val (.int p1), .val (.int p2), .val (.int p3), .val (.int p4), .val (.int p5), .val (.double w0), .second, .val (.double w1), .second, .val (.double w2), .second, .val (.ref b4), .val (.int (2 : Int32)), .val (.int ((2 : Int32) / (2 : Int32))), .val (.int ((2 : Int32) - ((2 : Int32) / (2 : Int32)) * (2 : Int32))), .unset, .unset, .unset, .unset, .unset, .unset, .unset, .unset, .unset, .unset, .unset, .unset, .unset, .unset, .unset, .unset, .unset] [])) (fun t kk => ?_) ?_
    · show Steps p.tables e below (T20.setTop (mkF m 59 _ [])) t
      refine XS.iload P21.here P21.x rfl (hb hby at_59) rfl ?_
      show Steps p.tables e below (T20.setTop (mkF m 61 _ [(.int (2 : Int32))])) t
      refine XS.iconst P21.here P21.x rfl (hb hby at_61) ?_
      show Steps p.tables e below (T20.setTop (mkF m 62 _ [(.int (2 : Int32)), (.int (2 : Int32))])) t
      refine XS.idiv P21.here P21.x rfl (hb hby at_62) rfl (by decide) ?_
      show Steps p.tables e below (T20.setTop (mkF m 63 _ [(.int ((2 : Int32) / (2 : Int32)))])) t
      refine XS.istore P21.here P21.x rfl (hb hby at_63) rfl (l' := #[.val (.int p0), .val (.int p1), .val (.int p2), .val (.int p3), .val (.int p4), .val (.int p5), .val (.double w0), .second, .val (.double w1), .second, .val (.double w2), .second, .val (.ref b4), .val (.int (2 : Int32)), .val (.int ((2 : Int32) / (2 : Int32))), .unset, .unset, .unset, .unset, .unset, .unset, .unset, .unset, .unset, .unset, .unset, .unset, .unset, .unset, .unset, .unset, .unset, .unset]) rfl ?_
      show Steps p.tables e below (T20.setTop (mkF m 65 _ [])) t
      refine XS.iload P21.here P21.x rfl (hb hby at_65) rfl ?_
      show Steps p.tables e below (T20.setTop (mkF m 67 _ [(.int (2 : Int32))])) t
      refine XS.iconst P21.here P21.x rfl (hb hby at_67) ?_
      show Steps p.tables e below (T20.setTop (mkF m 68 _ [(.int (2 : Int32)), (.int (2 : Int32))])) t
      refine XS.irem P21.here P21.x rfl (hb hby at_68) rfl (by decide) ?_
      show Steps p.tables e below (T20.setTop (mkF m 69 _ [(.int ((2 : Int32) - ((2 : Int32) / (2 : Int32)) * (2 : Int32)))])) t
      refine XS.istore P21.here P21.x rfl (hb hby at_69) rfl (l' := #[.val (.int p0), .val (.int p1), .val (.int p2), .val (.int p3), .val (.int p4), .val (.int p5), .val (.double w0), .second, .val (.double w1), .second, .val (.double w2), .second, .val (.ref b4), .val (.int (2 : Int32)), .val (.int ((2 : Int32) / (2 : Int32))), .val (.int ((2 : Int32) - ((2 : Int32) / (2 : Int32)) * (2 : Int32))), .unset, .unset, .unset, .unset, .unset, .unset, .unset, .unset, .unset, .unset, .unset, .unset, .unset, .unset, .unset, .unset, .unset]) rfl ?_
      exact kk
    try rw [show ((2 : Int32) / (2 : Int32)) = (1 : Int32) from by decide]
    show Done _ _ _ _ _ _ _ _ _ _ _ _ _ _ _ T20 (mkF m 71 #[.val (.int p0), .val (.int p1), .val (.int p2), .val (.int p3), .val (.int p4), .val (.int p5), .val (.double w0), .second, .val (.double w1), .second, .val (.double w2), .second, .val (.ref b4), .val (.int (2 : Int32)), .val (.int (1 : Int32)), .val (.int ((2 : Int32) - ((2 : Int32) / (2 : Int32)) * (2 : Int32))), .unset, .unset, .unset, .unset, .unset, .unset, .unset, .unset, .unset, .unset, .unset, .unset, .unset, .unset, .unset, .unset, .unset] [])
    try rw [show ((2 : Int32) - ((2 : Int32) / (2 : Int32)) * (2 : Int32)) = (0 : Int32) from by decide]
    show Done _ _ _ _ _ _ _ _ _ _ _ _ _ _ _ T20 (mkF m 71 #[.val (.int p0), .val (.int p1), .val (.int p2), .val (.int p3), .val (.int p4), .val (.int p5), .val (.double w0), .second, .val (.double w1), .second, .val (.double w2), .second, .val (.ref b4), .val (.int (2 : Int32)), .val (.int (1 : Int32)), .val (.int (0 : Int32)), .unset, .unset, .unset, .unset, .unset, .unset, .unset, .unset, .unset, .unset, .unset, .unset, .unset, .unset, .unset, .unset, .unset] [])
    refine Done.step (T' := T20) (g' := (mkF m 97 #[.val (.int p0), .val (.int p1), .val (.int p2), .val (.int p3), .val (.int p4), .val (.int p5), .val (.double w0), .second, .val (.double w1), .second, .val (.double w2), .second, .val (.ref b4), .val (.int (2 : Int32)), .val (.int (1 : Int32)), .val (.int (0 : Int32)), .val (.int (0 : Int32)), .val (.int (2 : Int32)), .unset, .unset, .unset, .unset, .unset, .unset, .unset, .unset, .unset, .unset, .unset, .unset, .unset, .unset, .unset] [(.int (3 : Int32))])) (fun t kk => ?_) ?_
    · show Steps p.tables e below (T20.setTop (mkF m 71 _ [])) t
      refine XS.iload P21.here P21.x rfl (hb hby at_71) rfl ?_
      show Steps p.tables e below (T20.setTop (mkF m 73 _ [(.int (1 : Int32))])) t
      refine XS.ifYes P21.here P21.x rfl (pc0 := 73) (pc' := 80) rfl (hb hby at_73) rfl (i0W_ne_t (by decide)) (by decide) (by decide) ?_
      show Steps p.tables e below (T20.setTop (mkF m 80 _ [])) t
      refine XS.iconst P21.here P21.x rfl (hb hby at_80) ?_
      show Steps p.tables e below (T20.setTop (mkF m 81 _ [(.int (0 : Int32))])) t
      refine XS.istore P21.here P21.x rfl (hb hby at_81) rfl (l' := #[.val (.int p0), .val (.int p1), .val (.int p2), .val (.int p3), .val (.int p4), .val (.int p5), .val (.double w0), .second, .val (.double w1), .second, .val (.double w2), .second, .val (.ref b4), .val (.int (2 : Int32)), .val (.int (1 : Int32)), .val (.int (0 : Int32)), .val (.int (0 : Int32)), .unset, .unset, .unset, .unset, .unset, .unset, .unset, .unset, .unset, .unset, .unset, .unset, .unset, .unset, .unset, .unset]) rfl ?_
      show Steps p.tables e below (T20.setTop (mkF m 83 _ [])) t
      refine XS.iload P21.here P21.x rfl (hb hby at_83) rfl ?_
      show Steps p.tables e below (T20.setTop (mkF m 85 _ [(.int (1 : Int32))])) t
      refine XS.iconst P21.here P21.x rfl (hb hby at_85) ?_
      show Steps p.tables e below (T20.setTop (mkF m 86 _ [(.int (2 : Int32)), (.int (1 : Int32))])) t
      refine XS.icmpYes P21.here P21.x rfl (pc0 := 86) (pc' := 93) rfl (hb hby at_86) rfl (iiW_ne_t (by decide)) (by decide) (by decide) ?_
      show Steps p.tables e below (T20.setTop (mkF m 93 _ [])) t
      refine XS.iconst P21.here P21.x rfl (hb hby at_93) ?_
      show Steps p.tables e below (T20.setTop (mkF m 94 _ [(.int (2 : Int32))])) t
      refine XS.istore P21.here P21.x rfl (hb hby at_94) rfl (l' := #[.val (.int p0), .val (.int p1), .val (.int p2), .val (.int p3), .val (.int p4), .val (.int p5), .val (.double w0), .second, .val (.double w1), .second, .val (.double w2), .second, .val (.ref b4), .val (.int (2 : Int32)), .val (.int (1 : Int32)), .val (.int (0 : Int32)), .val (.int (0 : Int32)), .val (.int (2 : Int32)), .unset, .unset, .unset, .unset, .unset, .unset, .unset, .unset, .unset, .unset, .unset, .unset, .unset, .unset, .unset]) rfl ?_
      show Steps p.tables e below (T20.setTop (mkF m 96 _ [])) t
      refine XS.iconst P21.here P21.x rfl (hb hby at_96) ?_
      exact kk
    refine wNewA (aty := .int) P21 (tw2 hw) (hb hby at_97) rfl (N := 3) rfl (cap := 3) (Nat.le_refl _) (by decide) (by decide) (by decide) (ad := "[I") (by decide) (ty := .int) (dv := (.int (0 : Int32))) rfl rfl (k' := 2) (n' := 6) rfl rfl (fun T461 h463 b464 g465 lt466 P462 E467 A468 X469 => ?_)
    have ge_b464 : h0.size ≤ b464 := by have := P21.ge; omega
    show Done _ _ _ _ _ _ _ _ _ _ _ _ _ _ _ T461 (mkF m 99 _ [(.ref b464)])
    refine Done.stepL (pc' := 103) (st' := [(.int (1 : Int32)), (.int (0 : Int32)), (.ref b464), (.ref b464)]) (fun t kk => ?_) ?_
    · show Steps p.tables e below (T461.setTop (mkF m 99 _ [(.ref b464)])) t
      refine XS.dup P462.here P462.x rfl (hb hby at_99) rfl rfl ?_
      show Steps p.tables e below (T461.setTop (mkF m 100 _ [(.ref b464), (.ref b464)])) t
      refine XS.iconst P462.here P462.x rfl (hb hby at_100) ?_
      show Steps p.tables e below (T461.setTop (mkF m 101 _ [(.int (0 : Int32)), (.ref b464), (.ref b464)])) t
      refine XS.iload P462.here P462.x rfl (hb hby at_101) rfl ?_
      exact kk
    refine wIastore P462 (f := (fun _ => (0 : Int32))) A468 (j := (0 : Int32)) (i := 0) rfl (by decide) (Or.inr ge_b464) (hb hby at_103) rfl (fun T470 h472 P471 W473 A474 => ?_)
    have szh472 : h472.size = h463.size := W473.size
    show Done _ _ _ _ _ _ _ _ _ _ _ _ _ _ _ T470 (mkF m 104 _ [(.ref b464)])
    refine Done.stepL (pc' := 118) (st' := [(.int (0 : Int32)), (.int (1 : Int32)), (.ref b464), (.ref b464)]) (fun t kk => ?_) ?_
    · show Steps p.tables e below (T470.setTop (mkF m 104 _ [(.ref b464)])) t
      refine XS.dup P471.here P471.x rfl (hb hby at_104) rfl rfl ?_
      show Steps p.tables e below (T470.setTop (mkF m 105 _ [(.ref b464), (.ref b464)])) t
      refine XS.iconst P471.here P471.x rfl (hb hby at_105) ?_
      show Steps p.tables e below (T470.setTop (mkF m 106 _ [(.int (1 : Int32)), (.ref b464), (.ref b464)])) t
      refine XS.iload P471.here P471.x rfl (hb hby at_106) rfl ?_
      show Steps p.tables e below (T470.setTop (mkF m 108 _ [(.int (0 : Int32)), (.int (1 : Int32)), (.ref b464), (.ref b464)])) t
      refine XS.ifNo P471.here P471.x rfl (hb hby at_108) rfl (i0W_ne_f (by decide)) ?_
      show Steps p.tables e below (T470.setTop (mkF m 111 _ [(.int (1 : Int32)), (.ref b464), (.ref b464)])) t
      refine XS.iload P471.here P471.x rfl (hb hby at_111) rfl ?_
      show Steps p.tables e below (T470.setTop (mkF m 113 _ [(.int (0 : Int32)), (.int (1 : Int32)), (.ref b464), (.ref b464)])) t
      refine XS.goto P471.here P471.x rfl (pc0 := 113) (pc' := 118) rfl (hb hby at_113) (by decide) (by decide) ?_
      exact kk
    refine wIastore P471 (f := (oupd (fun _ => (0 : Int32)) 0 (1 : Int32))) A474 (j := (1 : Int32)) (i := 1) rfl (by decide) (Or.inr ge_b464) (hb hby at_118) rfl (fun T475 h477 P476 W478 A479 => ?_)
    have szh477 : h477.size = h472.size := W478.size
    show Done _ _ _ _ _ _ _ _ _ _ _ _ _ _ _ T475 (mkF m 119 _ [(.ref b464)])
    refine Done.stepL (pc' := 133) (st' := [(.int (2 : Int32)), (.int (2 : Int32)), (.ref b464), (.ref b464)]) (fun t kk => ?_) ?_
    · show Steps p.tables e below (T475.setTop (mkF m 119 _ [(.ref b464)])) t
      refine XS.dup P476.here P476.x rfl (hb hby at_119) rfl rfl ?_
      show Steps p.tables e below (T475.setTop (mkF m 120 _ [(.ref b464), (.ref b464)])) t
      refine XS.iconst P476.here P476.x rfl (hb hby at_120) ?_
      show Steps p.tables e below (T475.setTop (mkF m 121 _ [(.int (2 : Int32)), (.ref b464), (.ref b464)])) t
      refine XS.iload P476.here P476.x rfl (hb hby at_121) rfl ?_
      show Steps p.tables e below (T475.setTop (mkF m 123 _ [(.int (0 : Int32)), (.int (2 : Int32)), (.ref b464), (.ref b464)])) t
      refine XS.ifNo P476.here P476.x rfl (hb hby at_123) rfl (i0W_ne_f (by decide)) ?_
      show Steps p.tables e below (T475.setTop (mkF m 126 _ [(.int (2 : Int32)), (.ref b464), (.ref b464)])) t
      refine XS.iload P476.here P476.x rfl (hb hby at_126) rfl ?_
      show Steps p.tables e below (T475.setTop (mkF m 128 _ [(.int (2 : Int32)), (.int (2 : Int32)), (.ref b464), (.ref b464)])) t
      refine XS.goto P476.here P476.x rfl (pc0 := 128) (pc' := 133) rfl (hb hby at_128) (by decide) (by decide) ?_
      exact kk
    refine wIastore P476 (f := (oupd (oupd (fun _ => (0 : Int32)) 0 (1 : Int32)) 1 (0 : Int32))) A479 (j := (2 : Int32)) (i := 2) rfl (by decide) (Or.inr ge_b464) (hb hby at_133) rfl (fun T480 h482 P481 W483 A484 => ?_)
    have szh482 : h482.size = h477.size := W483.size
    show Done _ _ _ _ _ _ _ _ _ _ _ _ _ _ _ T480 (mkF m 134 _ [(.ref b464)])
    refine Done.step (T' := T480) (g' := (mkF m 136 #[.val (.int p0), .val (.int p1), .val (.int p2), .val (.int p3), .val (.int p4), .val (.int p5), .val (.double w0), .second, .val (.double w1), .second, .val (.double w2), .second, .val (.ref b4), .val (.int (2 : Int32)), .val (.int (1 : Int32)), .val (.int (0 : Int32)), .val (.int (0 : Int32)), .val (.int (2 : Int32)), .val (.ref b464), .unset, .unset, .unset, .unset, .unset, .unset, .unset, .unset, .unset, .unset, .unset, .unset, .unset, .unset] [])) (fun t kk => ?_) ?_
    · show Steps p.tables e below (T480.setTop (mkF m 134 _ [(.ref b464)])) t
      refine XS.astore P481.here P481.x rfl (hb hby at_134) rfl rfl (l' := #[.val (.int p0), .val (.int p1), .val (.int p2), .val (.int p3), .val (.int p4), .val (.int p5), .val (.double w0), .second, .val (.double w1), .second, .val (.double w2), .second, .val (.ref b4), .val (.int (2 : Int32)), .val (.int (1 : Int32)), .val (.int (0 : Int32)), .val (.int (0 : Int32)), .val (.int (2 : Int32)), .val (.ref b464), .unset, .unset, .unset, .unset, .unset, .unset, .unset, .unset, .unset, .unset, .unset, .unset, .unset, .unset]) rfl ?_
      exact kk
    have f485 := ((((A24.ext E467).other W473 (by first | assumption | exact Ne.symm (by assumption) | exact adr_ne (by omega) | omega)).other W478 (by first | assumption | exact Ne.symm (by assumption) | exact adr_ne (by omega) | omega)).other W483 (by first | assumption | exact Ne.symm (by assumption) | exact adr_ne (by omega) | omega))
    exact tail1 _ _ _ _ _ _ _ _ _ (1 : Int32) (0 : Int32) (2 : Int32) 1 0 2 P481 f485 A484  (by decide) (by decide) (by decide) (by decide) (by decide) (by decide) (by decide) (by decide) (by decide)
  · refine Done.step (T' := T20) (g' := (mkF m 71 #[.val (.int p0), .val (.int p1), .val (.int p2), .val (.int p3), .val (.int p4), .val (.int p5), .val (.double w0), .second, .val (.double w1), .second, .val (.double w2), .second, .val (.ref b4), .val (.int (3 : Int32)), .val (.int ((3 : Int32) / (2 : Int32))), .val (.int ((3 : Int32) - ((3 : Int32) / (2 : Int32)) * (2 : Int32))), .unset, .unset, .unset, .unset, .unset, .unset, .unset, .unset, .unset, .unset, .unset, .unset, .unset, .unset, .unset, .unset, .unset] [])) (fun t kk => ?_) ?_
    · show Steps p.tables e below (T20.setTop (mkF m 59 _ [])) t
      refine XS.iload P21.here P21.x rfl (hb hby at_59) rfl ?_
      show Steps p.tables e below (T20.setTop (mkF m 61 _ [(.int (3 : Int32))])) t
      refine XS.iconst P21.here P21.x rfl (hb hby at_61) ?_
      show Steps p.tables e below (T20.setTop (mkF m 62 _ [(.int (2 : Int32)), (.int (3 : Int32))])) t
      refine XS.idiv P21.here P21.x rfl (hb hby at_62) rfl (by decide) ?_
      show Steps p.tables e below (T20.setTop (mkF m 63 _ [(.int ((3 : Int32) / (2 : Int32)))])) t
      refine XS.istore P21.here P21.x rfl (hb hby at_63) rfl (l' := #[.val (.int p0), .val (.int p1), .val (.int p2), .val (.int p3), .val (.int p4), .val (.int p5), .val (.double w0), .second, .val (.double w1), .second, .val (.double w2), .second, .val (.ref b4), .val (.int (3 : Int32)), .val (.int ((3 : Int32) / (2 : Int32))), .unset, .unset, .unset, .unset, .unset, .unset, .unset, .unset, .unset, .unset, .unset, .unset, .unset, .unset, .unset, .unset, .unset, .unset]) rfl ?_
      show Steps p.tables e below (T20.setTop (mkF m 65 _ [])) t
      refine XS.iload P21.here P21.x rfl (hb hby at_65) rfl ?_
      show Steps p.tables e below (T20.setTop (mkF m 67 _ [(.int (3 : Int32))])) t
      refine XS.iconst P21.here P21.x rfl (hb hby at_67) ?_
      show Steps p.tables e below (T20.setTop (mkF m 68 _ [(.int (2 : Int32)), (.int (3 : Int32))])) t
      refine XS.irem P21.here P21.x rfl (hb hby at_68) rfl (by decide) ?_
      show Steps p.tables e below (T20.setTop (mkF m 69 _ [(.int ((3 : Int32) - ((3 : Int32) / (2 : Int32)) * (2 : Int32)))])) t
      refine XS.istore P21.here P21.x rfl (hb hby at_69) rfl (l' := #[.val (.int p0), .val (.int p1), .val (.int p2), .val (.int p3), .val (.int p4), .val (.int p5), .val (.double w0), .second, .val (.double w1), .second, .val (.double w2), .second, .val (.ref b4), .val (.int (3 : Int32)), .val (.int ((3 : Int32) / (2 : Int32))), .val (.int ((3 : Int32) - ((3 : Int32) / (2 : Int32)) * (2 : Int32))), .unset, .unset, .unset, .unset, .unset, .unset, .unset, .unset, .unset, .unset, .unset, .unset, .unset, .unset, .unset, .unset, .unset]) rfl ?_
      exact kk
    try rw [show ((3 : Int32) / (2 : Int32)) = (1 : Int32) from by decide]
    show Done _ _ _ _ _ _ _ _ _ _ _ _ _ _ _ T20 (mkF m 71 #[.val (.int p0), .val (.int p1), .val (.int p2), .val (.int p3), .val (.int p4), .val (.int p5), .val (.double w0), .second, .val (.double w1), .second, .val (.double w2), .second, .val (.ref b4), .val (.int (3 : Int32)), .val (.int (1 : Int32)), .val (.int ((3 : Int32) - ((3 : Int32) / (2 : Int32)) * (2 : Int32))), .unset, .unset, .unset, .unset, .unset, .unset, .unset, .unset, .unset, .unset, .unset, .unset, .unset, .unset, .unset, .unset, .unset] [])
    try rw [show ((3 : Int32) - ((3 : Int32) / (2 : Int32)) * (2 : Int32)) = (1 : Int32) from by decide]
    show Done _ _ _ _ _ _ _ _ _ _ _ _ _ _ _ T20 (mkF m 71 #[.val (.int p0), .val (.int p1), .val (.int p2), .val (.int p3), .val (.int p4), .val (.int p5), .val (.double w0), .second, .val (.double w1), .second, .val (.double w2), .second, .val (.ref b4), .val (.int (3 : Int32)), .val (.int (1 : Int32)), .val (.int (1 : Int32)), .unset, .unset, .unset, .unset, .unset, .unset, .unset, .unset, .unset, .unset, .unset, .unset, .unset, .unset, .unset, .unset, .unset] [])
    refine Done.step (T' := T20) (g' := (mkF m 97 #[.val (.int p0), .val (.int p1), .val (.int p2), .val (.int p3), .val (.int p4), .val (.int p5), .val (.double w0), .second, .val (.double w1), .second, .val (.double w2), .second, .val (.ref b4), .val (.int (3 : Int32)), .val (.int (1 : Int32)), .val (.int (1 : Int32)), .val (.int (0 : Int32)), .val (.int (2 : Int32)), .unset, .unset, .unset, .unset, .unset, .unset, .unset, .unset, .unset, .unset, .unset, .unset, .unset, .unset, .unset] [(.int (3 : Int32))])) (fun t kk => ?_) ?_
    · show Steps p.tables e below (T20.setTop (mkF m 71 _ [])) t
      refine XS.iload P21.here P21.x rfl (hb hby at_71) rfl ?_
      show Steps p.tables e below (T20.setTop (mkF m 73 _ [(.int (1 : Int32))])) t
      refine XS.ifYes P21.here P21.x rfl (pc0 := 73) (pc' := 80) rfl (hb hby at_73) rfl (i0W_ne_t (by decide)) (by decide) (by decide) ?_
      show Steps p.tables e below (T20.setTop (mkF m 80 _ [])) t
      refine XS.iconst P21.here P21.x rfl (hb hby at_80) ?_
      show Steps p.tables e below (T20.setTop (mkF m 81 _ [(.int (0 : Int32))])) t
      refine XS.istore P21.here P21.x rfl (hb hby at_81) rfl (l' := #[.val (.int p0), .val (.int p1), .val (.int p2), .val (.int p3), .val (.int p4), .val (.int p5), .val (.double w0), .second, .val (.double w1), .second, .val (.double w2), .second, .val (.ref b4), .val (.int (3 : Int32)), .val (.int (1 : Int32)), .val (.int (1 : Int32)), .val (.int (0 : Int32)), .unset, .unset, .unset, .unset, .unset, .unset, .unset, .unset, .unset, .unset, .unset, .unset, .unset, .unset, .unset, .unset]) rfl ?_
      show Steps p.tables e below (T20.setTop (mkF m 83 _ [])) t
      refine XS.iload P21.here P21.x rfl (hb hby at_83) rfl ?_
      show Steps p.tables e below (T20.setTop (mkF m 85 _ [(.int (1 : Int32))])) t
      refine XS.iconst P21.here P21.x rfl (hb hby at_85) ?_
      show Steps p.tables e below (T20.setTop (mkF m 86 _ [(.int (2 : Int32)), (.int (1 : Int32))])) t
      refine XS.icmpYes P21.here P21.x rfl (pc0 := 86) (pc' := 93) rfl (hb hby at_86) rfl (iiW_ne_t (by decide)) (by decide) (by decide) ?_
      show Steps p.tables e below (T20.setTop (mkF m 93 _ [])) t
      refine XS.iconst P21.here P21.x rfl (hb hby at_93) ?_
      show Steps p.tables e below (T20.setTop (mkF m 94 _ [(.int (2 : Int32))])) t
      refine XS.istore P21.here P21.x rfl (hb hby at_94) rfl (l' := #[.val (.int p0), .val (.int p1), .val (.int p2), .val (.int p3), .val (.int p4), .val (.int p5), .val (.double w0), .second, .val (.double w1), .second, .val (.double w2), .second, .val (.ref b4), .val (.int (3 : Int32)), .val (.int (1 : Int32)), .val (.int (1 : Int32)), .val (.int (0 : Int32)), .val (.int (2 : Int32)), .unset, .unset, .unset, .unset, .unset, .unset, .unset, .unset, .unset, .unset, .unset, .unset, .unset, .unset, .unset]) rfl ?_
      show Steps p.tables e below (T20.setTop (mkF m 96 _ [])) t
      refine XS.iconst P21.here P21.x rfl (hb hby at_96) ?_
      exact kk
    refine wNewA (aty := .int) P21 (tw2 hw) (hb hby at_97) rfl (N := 3) rfl (cap := 3) (Nat.le_refl _) (by decide) (by decide) (by decide) (ad := "[I") (by decide) (ty := .int) (dv := (.int (0 : Int32))) rfl rfl (k' := 2) (n' := 6) rfl rfl (fun T486 h488 b489 g490 lt491 P487 E492 A493 X494 => ?_)
    have ge_b489 : h0.size ≤ b489 := by have := P21.ge; omega
    show Done _ _ _ _ _ _ _ _ _ _ _ _ _ _ _ T486 (mkF m 99 _ [(.ref b489)])
    refine Done.stepL (pc' := 103) (st' := [(.int (1 : Int32)), (.int (0 : Int32)), (.ref b489), (.ref b489)]) (fun t kk => ?_) ?_
    · show Steps p.tables e below (T486.setTop (mkF m 99 _ [(.ref b489)])) t
      refine XS.dup P487.here P487.x rfl (hb hby at_99) rfl rfl ?_
      show Steps p.tables e below (T486.setTop (mkF m 100 _ [(.ref b489), (.ref b489)])) t
      refine XS.iconst P487.here P487.x rfl (hb hby at_100) ?_
      show Steps p.tables e below (T486.setTop (mkF m 101 _ [(.int (0 : Int32)), (.ref b489), (.ref b489)])) t
      refine XS.iload P487.here P487.x rfl (hb hby at_101) rfl ?_
      exact kk
    refine wIastore P487 (f := (fun _ => (0 : Int32))) A493 (j := (0 : Int32)) (i := 0) rfl (by decide) (Or.inr ge_b489) (hb hby at_103) rfl (fun T495 h497 P496 W498 A499 => ?_)
    have szh497 : h497.size = h488.size := W498.size
    show Done _ _ _ _ _ _ _ _ _ _ _ _ _ _ _ T495 (mkF m 104 _ [(.ref b489)])
    refine Done.stepL (pc' := 118) (st' := [(.int (2 : Int32)), (.int (1 : Int32)), (.ref b489), (.ref b489)]) (fun t kk => ?_) ?_
    · show Steps p.tables e below (T495.setTop (mkF m 104 _ [(.ref b489)])) t
      refine XS.dup P496.here P496.x rfl (hb hby at_104) rfl rfl ?_
      show Steps p.tables e below (T495.setTop (mkF m 105 _ [(.ref b489), (.ref b489)])) t
      refine XS.iconst P496.here P496.x rfl (hb hby at_105) ?_
      show Steps p.tables e below (T495.setTop (mkF m 106 _ [(.int (1 : Int32)), (.ref b489), (.ref b489)])) t
      refine XS.iload P496.here P496.x rfl (hb hby at_106) rfl ?_
      show Steps p.tables e below (T495.setTop (mkF m 108 _ [(.int (1 : Int32)), (.int (1 : Int32)), (.ref b489), (.ref b489)])) t
      refine XS.ifYes P496.here P496.x rfl (pc0 := 108) (pc' := 116) rfl (hb hby at_108) rfl (i0W_ne_t (by decide)) (by decide) (by decide) ?_
      show Steps p.tables e below (T495.setTop (mkF m 116 _ [(.int (1 : Int32)), (.ref b489), (.ref b489)])) t
      refine XS.iload P496.here P496.x rfl (hb hby at_116) rfl ?_
      exact kk
    refine wIastore P496 (f := (oupd (fun _ => (0 : Int32)) 0 (1 : Int32))) A499 (j := (1 : Int32)) (i := 1) rfl (by decide) (Or.inr ge_b489) (hb hby at_118) rfl (fun T500 h502 P501 W503 A504 => ?_)
    have szh502 : h502.size = h497.size := W503.size
    show Done _ _ _ _ _ _ _ _ _ _ _ _ _ _ _ T500 (mkF m 119 _ [(.ref b489)])
    refine Done.stepL (pc' := 133) (st' := [(.int (0 : Int32)), (.int (2 : Int32)), (.ref b489), (.ref b489)]) (fun t kk => ?_) ?_
    · show Steps p.tables e below (T500.setTop (mkF m 119 _ [(.ref b489)])) t
      refine XS.dup P501.here P501.x rfl (hb hby at_119) rfl rfl ?_
      show Steps p.tables e below (T500.setTop (mkF m 120 _ [(.ref b489), (.ref b489)])) t
      refine XS.iconst P501.here P501.x rfl (hb hby at_120) ?_
      show Steps p.tables e below (T500.setTop (mkF m 121 _ [(.int (2 : Int32)), (.ref b489), (.ref b489)])) t
      refine XS.iload P501.here P501.x rfl (hb hby at_121) rfl ?_
      show Steps p.tables e below (T500.setTop (mkF m 123 _ [(.int (1 : Int32)), (.int (2 : Int32)), (.ref b489), (.ref b489)])) t
      refine XS.ifYes P501.here P501.x rfl (pc0 := 123) (pc' := 131) rfl (hb hby at_123) rfl (i0W_ne_t (by decide)) (by decide) (by decide) ?_
      show Steps p.tables e below (T500.setTop (mkF m 131 _ [(.int (2 : Int32)), (.ref b489), (.ref b489)])) t
      refine XS.iload P501.here P501.x rfl (hb hby at_131) rfl ?_
      exact kk
    refine wIastore P501 (f := (oupd (oupd (fun _ => (0 : Int32)) 0 (1 : Int32)) 1 (2 : Int32))) A504 (j := (2 : Int32)) (i := 2) rfl (by decide) (Or.inr ge_b489) (hb hby at_133) rfl (fun T505 h507 P506 W508 A509 => ?_)
    have szh507 : h507.size = h502.size := W508.size
    show Done _ _ _ _ _ _ _ _ _ _ _ _ _ _ _ T505 (mkF m 134 _ [(.ref b489)])
    refine Done.step (T' := T505) (g' := (mkF m 136 #[.val (.int p0), .val (.int p1), .val (.int p2), .val (.int p3), .val (.int p4), .val (.int p5), .val (.double w0), .second, .val (.double w1), .second, .val (.double w2), .second, .val (.ref b4), .val (.int (3 : Int32)), .val (.int (1 : Int32)), .val (.int (1 : Int32)), .val (.int (0 : Int32)), .val (.int (2 : Int32)), .val (.ref b489), .unset, .unset, .unset, .unset, .unset, .unset, .unset, .unset, .unset, .unset, .unset, .unset, .unset, .unset] [])) (fun t kk => ?_) ?_
    · show Steps p.tables e below (T505.setTop (mkF m 134 _ [(.ref b489)])) t
      refine XS.astore P506.here P506.x rfl (hb hby at_134) rfl rfl (l' := #[.val (.int p0), .val (.int p1), .val (.int p2), .val (.int p3), .val (.int p4), .val (.int p5), .val (.double w0), .second, .val (.double w1), .second, .val (.double w2), .second, .val (.ref b4), .val (.int (3 : Int32)), .val (.int (1 : Int32)), .val (.int (1 : Int32)), .val (.int (0 : Int32)), .val (.int (2 : Int32)), .val (.ref b489), .unset, .unset, .unset, .unset, .unset, .unset, .unset, .unset, .unset, .unset, .unset, .unset, .unset, .unset]) rfl ?_
      exact kk
    have f510 := ((((A24.ext E492).other W498 (by first | assumption | exact Ne.symm (by assumption) | exact adr_ne (by omega) | omega)).other W503 (by first | assumption | exact Ne.symm (by assumption) | exact adr_ne (by omega) | omega)).other W508 (by first | assumption | exact Ne.symm (by assumption) | exact adr_ne (by omega) | omega))
    exact tail1 _ _ _ _ _ _ _ _ _ (1 : Int32) (2 : Int32) (0 : Int32) 1 2 0 P506 f510 A509  (by decide) (by decide) (by decide) (by decide) (by decide) (by decide) (by decide) (by decide) (by decide)
  · refine Done.step (T' := T20) (g' := (mkF m 71 #[.val (.int p0), .val (.int p1), .val (.int p2), .val (.int p3), .val (.int p4), .val (.int p5), .val (.double w0), .second, .val (.double w1), .second, .val (.double w2), .second, .val (.ref b4), .val (.int (4 : Int32)), .val (.int ((4 : Int32) / (2 : Int32))), .val (.int ((4 : Int32) - ((4 : Int32) / (2 : Int32)) * (2 : Int32))), .unset, .unset, .unset, .unset, .unset, .unset, .unset, .unset, .unset, .unset, .unset, .unset, .unset, .unset, .unset, .unset, .unset] [])) (fun t kk => ?_) ?_
    · show Steps p.tables e below (T20.setTop (mkF m 59 _ [])) t
      refine XS.iload P21.here P21.x rfl (hb hby at_59) rfl ?_
      show Steps p.tables e below (T20.setTop (mkF m 61 _ [(.int (4 : Int32))])) t
      refine XS.iconst P21.here P21.x rfl (hb hby at_61) ?_
      show Steps p.tables e below (T20.setTop (mkF m 62 _ [(.int (2 : Int32)), (.int (4 : Int32))])) t
      refine XS.idiv P21.here P21.x rfl (hb hby at_62) rfl (by decide) ?_
      show Steps p.tables e below (T20.setTop (mkF m 63 _ [(.int ((4 : Int32) / (2 : Int32)))])) t
      refine XS.istore P21.here P21.x rfl (hb hby at_63) rfl (l' := #[.val (.int p0), .val (.int p1), .val (.int p2), .val (.int p3), .val (.int p4), .val (.int p5), .val (.double w0), .second, .val (.double w1), .second, .val (.double w2), .second, .val (.ref b4), .val (.int (4 : Int32)), .val (.int ((4 : Int32) / (2 : Int32))), .unset, .unset, .unset, .unset, .unset, .unset, .unset, .unset, .unset, .unset, .unset, .unset, .unset, .unset, .unset, .unset, .unset, .unset]) rfl ?_
      show Steps p.tables e below (T20.setTop (mkF m 65 _ [])) t
      refine XS.iload P21.here P21.x rfl (hb hby at_65) rfl ?_
      show Steps p.tables e below (T20.setTop (mkF m 67 _ [(.int (4 : Int32))])) t
      refine XS.iconst P21.here P21.x rfl (hb hby at_67) ?_
      show Steps p.tables e below (T20.setTop (mkF m 68 _ [(.int (2 : Int32)), (.int (4 : Int32))])) t
      refine XS.irem P21.here P21.x rfl (hb hby at_68) rfl (by decide) ?_
      show Steps p.tables e below (T20.setTop (mkF m 69 _ [(.int ((4 : Int32) - ((4 : Int32) / (2 : Int32)) * (2 : Int32)))])) t
      refine XS.istore P21.here P21.x rfl (hb hby at_69) rfl (l' := #[.val (.int p0), .val (.int p1), .val (.int p2), .val (.int p3), .val (.int p4), .val (.int p5), .val (.double w0), .second, .val (.double w1), .second, .val (.double w2), .second, .val (.ref b4), .val (.int (4 : Int32)), .val (.int ((4 : Int32) / (2 : Int32))), .val (.int ((4 : Int32) - ((4 : Int32) / (2 : Int32)) * (2 : Int32))), .unset, .unset, .unset, .unset, .unset, .unset, .unset, .unset, .unset, .unset, .unset, .unset, .unset, .unset, .unset, .unset, .unset]) rfl ?_
      exact kk
    try rw [show ((4 : Int32) / (2 : Int32)) = (2 : Int32) from by decide]
    show Done _ _ _ _ _ _ _ _ _ _ _ _ _ _ _ T20 (mkF m 71 #[.val (.int p0), .val (.int p1), .val (.int p2), .val (.int p3), .val (.int p4), .val (.int p5), .val (.double w0), .second, .val (.double w1), .second, .val (.double w2), .second, .val (.ref b4), .val (.int (4 : Int32)), .val (.int (2 : Int32)), .val (.int ((4 : Int32) - ((4 : Int32) / (2 : Int32)) * (2 : Int32))), .unset, .unset, .unset, .unset, .unset, .unset, .unset, .unset, .unset, .unset, .unset, .unset, .unset, .unset, .unset, .unset, .unset] [])
    try rw [show ((4 : Int32) - ((4 : Int32) / (2 : Int32)) * (2 : Int32)) = (0 : Int32) from by decide]
    show Done _ _ _ _ _ _ _ _ _ _ _ _ _ _ _ T20 (mkF m 71 #[.val (.int p0), .val (.int p1), .val (.int p2), .val (.int p3), .val (.int p4), .val (.int p5), .val (.double w0), .second, .val (.double w1), .second, .val (.double w2), .second, .val (.ref b4), .val (.int (4 : Int32)), .val (.int (2 : Int32)), .val (.int (0 : Int32)), .unset, .unset, .unset, .unset, .unset, .unset, .unset, .unset, .unset, .unset, .unset, .unset, .unset, .unset, .unset, .unset, .unset] [])
    refine Done.step (T' := T20) (g' := (mkF m 97 #[.val (.int p0), .val (.int p1), .val (.int p2), .val (.int p3), .val (.int p4), .val (.int p5), .val (.double w0), .second, .val (.double w1), .second, .val (.double w2), .second, .val (.ref b4), .val (.int (4 : Int32)), .val (.int (2 : Int32)), .val (.int (0 : Int32)), .val (.int (0 : Int32)), .val (.int (1 : Int32)), .unset, .unset, .unset, .unset, .unset, .unset, .unset, .unset, .unset, .unset, .unset, .unset, .unset, .unset, .unset] [(.int (3 : Int32))])) (fun t kk => ?_) ?_
    · show Steps p.tables e below (T20.setTop (mkF m 71 _ [])) t
      refine XS.iload P21.here P21.x rfl (hb hby at_71) rfl ?_
      show Steps p.tables e below (T20.setTop (mkF m 73 _ [(.int (2 : Int32))])) t
      refine XS.ifYes P21.here P21.x rfl (pc0 := 73) (pc' := 80) rfl (hb hby at_73) rfl (i0W_ne_t (by decide)) (by decide) (by decide) ?_
      show Steps p.tables e below (T20.setTop (mkF m 80 _ [])) t
      refine XS.iconst P21.here P21.x rfl (hb hby at_80) ?_
      show Steps p.tables e below (T20.setTop (mkF m 81 _ [(.int (0 : Int32))])) t
      refine XS.istore P21.here P21.x rfl (hb hby at_81) rfl (l' := #[.val (.int p0), .val (.int p1), .val (.int p2), .val (.int p3), .val (.int p4), .val (.int p5), .val (.double w0), .second, .val (.double w1), .second, .val (.double w2), .second, .val (.ref b4), .val (.int (4 : Int32)), .val (.int (2 : Int32)), .val (.int (0 : Int32)), .val (.int (0 : Int32)), .unset, .unset, .unset, .unset, .unset, .unset, .unset, .unset, .unset, .unset, .unset, .unset, .unset, .unset, .unset, .unset]) rfl ?_
      show Steps p.tables e below (T20.setTop (mkF m 83 _ [])) t
      refine XS.iload P21.here P21.x rfl (hb hby at_83) rfl ?_
      show Steps p.tables e below (T20.setTop (mkF m 85 _ [(.int (2 : Int32))])) t
      refine XS.iconst P21.here P21.x rfl (hb hby at_85) ?_
      show Steps p.tables e below (T20.setTop (mkF m 86 _ [(.int (2 : Int32)), (.int (2 : Int32))])) t
      refine XS.icmpNo P21.here P21.x rfl (hb hby at_86) rfl (iiW_ne_f (by decide)) ?_
      show Steps p.tables e below (T20.setTop (mkF m 89 _ [])) t
      refine XS.iconst P21.here P21.x rfl (hb hby at_89) ?_
      show Steps p.tables e below (T20.setTop (mkF m 90 _ [(.int (1 : Int32))])) t
      refine XS.goto P21.here P21.x rfl (pc0 := 90) (pc' := 94) rfl (hb hby at_90) (by decide) (by decide) ?_
      show Steps p.tables e below (T20.setTop (mkF m 94 _ [(.int (1 : Int32))])) t
      refine XS.istore P21.here P21.x rfl (hb hby at_94) rfl (l' := #[.val (.int p0), .val (.int p1), .val (.int p2), .val (.int p3), .val (.int p4), .val (.int p5), .val (.double w0), .second, .val (.double w1), .second, .val (.double w2), .second, .val (.ref b4), .val (.int (4 : Int32)), .val (.int (2 : Int32)), .val (.int (0 : Int32)), .val (.int (0 : Int32)), .val (.int (1 : Int32)), .unset, .unset, .unset, .unset, .unset, .unset, .unset, .unset, .unset, .unset, .unset, .unset, .unset, .unset, .unset]) rfl ?_
      show Steps p.tables e below (T20.setTop (mkF m 96 _ [])) t
      refine XS.iconst P21.here P21.x rfl (hb hby at_96) ?_
      exact kk
    refine wNewA (aty := .int) P21 (tw2 hw) (hb hby at_97) rfl (N := 3) rfl (cap := 3) (Nat.le_refl _) (by decide) (by decide) (by decide) (ad := "[I") (by decide) (ty := .int) (dv := (.int (0 : Int32))) rfl rfl (k' := 2) (n' := 6) rfl rfl (fun T511 h513 b514 g515 lt516 P512 E517 A518 X519 => ?_)
    have ge_b514 : h0.size ≤ b514 := by have := P21.ge; omega
    show Done _ _ _ _ _ _ _ _ _ _ _ _ _ _ _ T511 (mkF m 99 _ [(.ref b514)])
    refine Done.stepL (pc' := 103) (st' := [(.int (2 : Int32)), (.int (0 : Int32)), (.ref b514), (.ref b514)]) (fun t kk => ?_) ?_
    · show Steps p.tables e below (T511.setTop (mkF m 99 _ [(.ref b514)])) t
      refine XS.dup P512.here P512.x rfl (hb hby at_99) rfl rfl ?_
      show Steps p.tables e below (T511.setTop (mkF m 100 _ [(.ref b514), (.ref b514)])) t
      refine XS.iconst P512.here P512.x rfl (hb hby at_100) ?_
      show Steps p.tables e below (T511.setTop (mkF m 101 _ [(.int (0 : Int32)), (.ref b514), (.ref b514)])) t
      refine XS.iload P512.here P512.x rfl (hb hby at_101) rfl ?_
      exact kk
    refine wIastore P512 (f := (fun _ => (0 : Int32))) A518 (j := (0 : Int32)) (i := 0) rfl (by decide) (Or.inr ge_b514) (hb hby at_103) rfl (fun T520 h522 P521 W523 A524 => ?_)
    have szh522 : h522.size = h513.size := W523.size
    show Done _ _ _ _ _ _ _ _ _ _ _ _ _ _ _ T520 (mkF m 104 _ [(.ref b514)])
    refine Done.stepL (pc' := 118) (st' := [(.int (0 : Int32)), (.int (1 : Int32)), (.ref b514), (.ref b514)]) (fun t kk => ?_) ?_
    · show Steps p.tables e below (T520.setTop (mkF m 104 _ [(.ref b514)])) t
      refine XS.dup P521.here P521.x rfl (hb hby at_104) rfl rfl ?_
      show Steps p.tables e below (T520.setTop (mkF m 105 _ [(.ref b514), (.ref b514)])) t
      refine XS.iconst P521.here P521.x rfl (hb hby at_105) ?_
      show Steps p.tables e below (T520.setTop (mkF m 106 _ [(.int (1 : Int32)), (.ref b514), (.ref b514)])) t
      refine XS.iload P521.here P521.x rfl (hb hby at_106) rfl ?_
      show Steps p.tables e below (T520.setTop (mkF m 108 _ [(.int (0 : Int32)), (.int (1 : Int32)), (.ref b514), (.ref b514)])) t
      refine XS.ifNo P521.here P521.x rfl (hb hby at_108) rfl (i0W_ne_f (by decide)) ?_
      show Steps p.tables e below (T520.setTop (mkF m 111 _ [(.int (1 : Int32)), (.ref b514), (.ref b514)])) t
      refine XS.iload P521.here P521.x rfl (hb hby at_111) rfl ?_
      show Steps p.tables e below (T520.setTop (mkF m 113 _ [(.int (0 : Int32)), (.int (1 : Int32)), (.ref b514), (.ref b514)])) t
      refine XS.goto P521.here P521.x rfl (pc0 := 113) (pc' := 118) rfl (hb hby at_113) (by decide) (by decide) ?_
      exact kk
    refine wIastore P521 (f := (oupd (fun _ => (0 : Int32)) 0 (2 : Int32))) A524 (j := (1 : Int32)) (i := 1) rfl (by decide) (Or.inr ge_b514) (hb hby at_118) rfl (fun T525 h527 P526 W528 A529 => ?_)
    have szh527 : h527.size = h522.size := W528.size
    show Done _ _ _ _ _ _ _ _ _ _ _ _ _ _ _ T525 (mkF m 119 _ [(.ref b514)])
    refine Done.stepL (pc' := 133) (st' := [(.int (1 : Int32)), (.int (2 : Int32)), (.ref b514), (.ref b514)]) (fun t kk => ?_) ?_
    · show Steps p.tables e below (T525.setTop (mkF m 119 _ [(.ref b514)])) t
      refine XS.dup P526.here P526.x rfl (hb hby at_119) rfl rfl ?_
      show Steps p.tables e below (T525.setTop (mkF m 120 _ [(.ref b514), (.ref b514)])) t
      refine XS.iconst P526.here P526.x rfl (hb hby at_120) ?_
      show Steps p.tables e below (T525.setTop (mkF m 121 _ [(.int (2 : Int32)), (.ref b514), (.ref b514)])) t
      refine XS.iload P526.here P526.x rfl (hb hby at_121) rfl ?_
      show Steps p.tables e below (T525.setTop (mkF m 123 _ [(.int (0 : Int32)), (.int (2 : Int32)), (.ref b514), (.ref b514)])) t
      refine XS.ifNo P526.here P526.x rfl (hb hby at_123) rfl (i0W_ne_f (by decide)) ?_
      show Steps p.tables e below (T525.setTop (mkF m 126 _ [(.int (2 : Int32)), (.ref b514), (.ref b514)])) t
      refine XS.iload P526.here P526.x rfl (hb hby at_126) rfl ?_
      show Steps p.tables e below (T525.setTop (mkF m 128 _ [(.int (1 : Int32)), (.int (2 : Int32)), (.ref b514), (.ref b514)])) t
      refine XS.goto P526.here P526.x rfl (pc0 := 128) (pc' := 133) rfl (hb hby at_128) (by decide) (by decide) ?_
      exact kk
    refine wIastore P526 (f := (oupd (oupd (fun _ => (0 : Int32)) 0 (2 : Int32)) 1 (0 : Int32))) A529 (j := (2 : Int32)) (i := 2) rfl (by decide) (Or.inr ge_b514) (hb hby at_133) rfl (fun T530 h532 P531 W533 A534 => ?_)
    have szh532 : h532.size = h527.size := W533.size
    show Done _ _ _ _ _ _ _ _ _ _ _ _ _ _ _ T530 (mkF m 134 _ [(.ref b514)])
    refine Done.step (T' := T530) (g' := (mkF m 136 #[.val (.int p0), .val (.int p1), .val (.int p2), .val (.int p3), .val (.int p4), .val (.int p5), .val (.double w0), .second, .val (.double w1), .second, .val (.double w2), .second, .val (.ref b4), .val (.int (4 : Int32)), .val (.int (2 : Int32)), .val (.int (0 : Int32)), .val (.int (0 : Int32)), .val (.int (1 : Int32)), .val (.ref b514), .unset, .unset, .unset, .unset, .unset, .unset, .unset, .unset, .unset, .unset, .unset, .unset, .unset, .unset] [])) (fun t kk => ?_) ?_
    · show Steps p.tables e below (T530.setTop (mkF m 134 _ [(.ref b514)])) t
      refine XS.astore P531.here P531.x rfl (hb hby at_134) rfl rfl (l' := #[.val (.int p0), .val (.int p1), .val (.int p2), .val (.int p3), .val (.int p4), .val (.int p5), .val (.double w0), .second, .val (.double w1), .second, .val (.double w2), .second, .val (.ref b4), .val (.int (4 : Int32)), .val (.int (2 : Int32)), .val (.int (0 : Int32)), .val (.int (0 : Int32)), .val (.int (1 : Int32)), .val (.ref b514), .unset, .unset, .unset, .unset, .unset, .unset, .unset, .unset, .unset, .unset, .unset, .unset, .unset, .unset]) rfl ?_
      exact kk
    have f535 := ((((A24.ext E517).other W523 (by first | assumption | exact Ne.symm (by assumption) | exact adr_ne (by omega) | omega)).other W528 (by first | assumption | exact Ne.symm (by assumption) | exact adr_ne (by omega) | omega)).other W533 (by first | assumption | exact Ne.symm (by assumption) | exact adr_ne (by omega) | omega))
    exact tail1 _ _ _ _ _ _ _ _ _ (2 : Int32) (0 : Int32) (1 : Int32) 2 0 1 P531 f535 A534  (by decide) (by decide) (by decide) (by decide) (by decide) (by decide) (by decide) (by decide) (by decide)
  · refine Done.step (T' := T20) (g' := (mkF m 71 #[.val (.int p0), .val (.int p1), .val (.int p2), .val (.int p3), .val (.int p4), .val (.int p5), .val (.double w0), .second, .val (.double w1), .second, .val (.double w2), .second, .val (.ref b4), .val (.int (5 : Int32)), .val (.int ((5 : Int32) / (2 : Int32))), .val (.int ((5 : Int32) - ((5 : Int32) / (2 : Int32)) * (2 : Int32))), .unset, .unset, .unset, .unset, .unset, .unset, .unset, .unset, .unset, .unset, .unset, .unset, .unset, .unset, .unset, .unset, .unset] [])) (fun t kk => ?_) ?_
    · show Steps p.tables e below (T20.setTop (mkF m 59 _ [])) t
      refine XS.iload P21.here P21.x rfl (hb hby at_59) rfl ?_
      show Steps p.tables e below (T20.setTop (mkF m 61 _ [(.int (5 : Int32))])) t
      refine XS.iconst P21.here P21.x rfl (hb hby at_61) ?_
      show Steps p.tables e below (T20.setTop (mkF m 62 _ [(.int (2 : Int32)), (.int (5 : Int32))])) t
      refine XS.idiv P21.here P21.x rfl (hb hby at_62) rfl (by decide) ?_
      show Steps p.tables e below (T20.setTop (mkF m 63 _ [(.int ((5 : Int32) / (2 : Int32)))])) t
      refine XS.istore P21.here P21.x rfl (hb hby at_63) rfl (l' := #[.val (.int p0), .val (.int p1), .val (.int p2), .val (.int p3), .val (.int p4), .val (.int p5), .val (.double w0), .second, .val (.double w1), .second, .val (.double w2), .second, .val (.ref b4), .val (.int (5 : Int32)), .val (.int ((5 : Int32) / (2 : Int32))), .unset, .unset, .unset, .unset, .unset, .unset, .unset, .unset, .unset, .unset, .unset, .unset, .unset, .unset, .unset, .unset, .unset, .unset]) rfl ?_
      show Steps p.tables e below (T20.setTop (mkF m 65 _ [])) t
      refine XS.iload P21.here P21.x rfl (hb hby at_65) rfl ?_
      show Steps p.tables e below (T20.setTop (mkF m 67 _ [(.int (5 : Int32))])) t
      refine XS.iconst P21.here P21.x rfl (hb hby at_67) ?_
      show Steps p.tables e below (T20.setTop (mkF m 68 _ [(.int (2 : Int32)), (.int (5 : Int32))])) t
      refine XS.irem P21.here P21.x rfl (hb hby at_68) rfl (by decide) ?_
      show Steps p.tables e below (T20.setTop (mkF m 69 _ [(.int ((5 : Int32) - ((5 : Int32) / (2 : Int32)) * (2 : Int32)))])) t
      refine XS.istore P21.here P21.x rfl (hb hby at_69) rfl (l' := #[.val (.int p0), .val (.int p1), .val (.int p2), .val (.int p3), .val (.int p4), .val (.int p5), .val (.double w0), .second, .val (.double w1), .second, .val (.double w2), .second, .val (.ref b4), .val (.int (5 : Int32)), .val (.int ((5 : Int32) / (2 : Int32))), .val (.int ((5 : Int32) - ((5 : Int32) / (2 : Int32)) * (2 : Int32))), .unset, .unset, .unset, .unset, .unset, .unset, .unset, .unset, .unset, .unset, .unset, .unset, .unset, .unset, .unset, .unset, .unset]) rfl ?_
      exact kk
    try rw [show ((5 : Int32) / (2 : Int32)) = (2 : Int32) from by decide]
    show Done _ _ _ _ _ _ _ _ _ _ _ _ _ _ _ T20 (mkF m 71 #[.val (.int p0), .val (.int p1), .val (.int p2), .val (.int p3), .val (.int p4), .val (.int p5), .val (.double w0), .second, .val (.double w1), .second, .val (.double w2), .second, .val (.ref b4), .val (.int (5 : Int32)), .val (.int (2 : Int32)), .val (.int ((5 : Int32) - ((5 : Int32) / (2 : Int32)) * (2 : Int32))), .unset, .unset, .unset, .unset, .unset, .unset, .unset, .unset, .unset, .unset, .unset, .unset, .unset, .unset, .unset, .unset, .unset] [])
    try rw [show ((5 : Int32) - ((5 : Int32) / (2 : Int32)) * (2 : Int32)) = (1 : Int32) from by decide]
    show Done _ _ _ _ _ _ _ _ _ _ _ _ _ _ _ T20 (mkF m 71 #[.val (.int p0), .val (.int p1), .val (.int p2), .val (.int p3), .val (.int p4), .val (.int p5), .val (.double w0), .second, .val (.double w1), .second, .val (.double w2), .second, .val (.ref b4), .val (.int (5 : Int32)), .val (.int (2 : Int32)), .val (.int (1 : Int32)), .unset, .unset, .unset, .unset, .unset, .unset, .unset, .unset, .unset, .unset, .unset, .unset, .unset, .unset, .unset, .unset, .unset] [])
    refine Done.step (T' := T20) (g' := (mkF m 97 #[.val (.int p0), .val (.int p1), .val (.int p2), .val (.int p3), .val (.int p4), .val (.int p5), .val (.double w0), .second, .val (.double w1), .second, .val (.double w2), .second, .val (.ref b4), .val (.int (5 : Int32)), .val (.int (2 : Int32)), .val (.int (1 : Int32)), .val (.int (0 : Int32)), .val (.int (1 : Int32)), .unset, .unset, .unset, .unset, .unset, .unset, .unset, .unset, .unset, .unset, .unset, .unset, .unset, .unset, .unset] [(.int (3 : Int32))])) (fun t kk => ?_) ?_
    · show Steps p.tables e below (T20.setTop (mkF m 71 _ [])) t
      refine XS.iload P21.here P21.x rfl (hb hby at_71) rfl ?_
      show Steps p.tables e below (T20.setTop (mkF m 73 _ [(.int (2 : Int32))])) t
      refine XS.ifYes P21.here P21.x rfl (pc0 := 73) (pc' := 80) rfl (hb hby at_73) rfl (i0W_ne_t (by decide)) (by decide) (by decide) ?_
      show Steps p.tables e below (T20.setTop (mkF m 80 _ [])) t
      refine XS.iconst P21.here P21.x rfl (hb hby at_80) ?_
      show Steps p.tables e below (T20.setTop (mkF m 81 _ [(.int (0 : Int32))])) t
      refine XS.istore P21.here P21.x rfl (hb hby at_81) rfl (l' := #[.val (.int p0), .val (.int p1), .val (.int p2), .val (.int p3), .val (.int p4), .val (.int p5), .val (.double w0), .second, .val (.double w1), .second, .val (.double w2), .second, .val (.ref b4), .val (.int (5 : Int32)), .val (.int (2 : Int32)), .val (.int (1 : Int32)), .val (.int (0 : Int32)), .unset, .unset, .unset, .unset, .unset, .unset, .unset, .unset, .unset, .unset, .unset, .unset, .unset, .unset, .unset, .unset]) rfl ?_
      show Steps p.tables e below (T20.setTop (mkF m 83 _ [])) t
      refine XS.iload P21.here P21.x rfl (hb hby at_83) rfl ?_
      show Steps p.tables e below (T20.setTop (mkF m 85 _ [(.int (2 : Int32))])) t
      refine XS.iconst P21.here P21.x rfl (hb hby at_85) ?_
      show Steps p.tables e below (T20.setTop (mkF m 86 _ [(.int (2 : Int32)), (.int (2 : Int32))])) t
      refine XS.icmpNo P21.here P21.x rfl (hb hby at_86) rfl (iiW_ne_f (by decide)) ?_
      show Steps p.tables e below (T20.setTop (mkF m 89 _ [])) t
      refine XS.iconst P21.here P21.x rfl (hb hby at_89) ?_
      show Steps p.tables e below (T20.setTop (mkF m 90 _ [(.int (1 : Int32))])) t
      refine XS.goto P21.here P21.x rfl (pc0 := 90) (pc' := 94) rfl (hb hby at_90) (by decide) (by decide) ?_
      show Steps p.tables e below (T20.setTop (mkF m 94 _ [(.int (1 : Int32))])) t
      refine XS.istore P21.here P21.x rfl (hb hby at_94) rfl (l' := #[.val (.int p0), .val (.int p1), .val (.int p2), .val (.int p3), .val (.int p4), .val (.int p5), .val (.double w0), .second, .val (.double w1), .second, .val (.double w2), .second, .val (.ref b4), .val (.int (5 : Int32)), .val (.int (2 : Int32)), .val (.int (1 : Int32)), .val (.int (0 : Int32)), .val (.int (1 : Int32)), .unset, .unset, .unset, .unset, .unset, .unset, .unset, .unset, .unset, .unset, .unset, .unset, .unset, .unset, .unset]) rfl ?_
      show Steps p.tables e below (T20.setTop (mkF m 96 _ [])) t
      refine XS.iconst P21.here P21.x rfl (hb hby at_96) ?_
      exact kk
    refine wNewA (aty := .int) P21 (tw2 hw) (hb hby at_97) rfl (N := 3) rfl (cap := 3) (Nat.le_refl _) (by decide) (by decide) (by decide) (ad := "[I") (by decide) (ty := .int) (dv := (.int (0 : Int32))) rfl rfl (k' := 2) (n' := 6) rfl rfl (fun T536 h538 b539 g540 lt541 P537 E542 A543 X544 => ?_)
    have ge_b539 : h0.size ≤ b539 := by have := P21.ge; omega
    show Done _ _ _ _ _ _ _ _ _ _ _ _ _ _ _ T536 (mkF m 99 _ [(.ref b539)])
    refine Done.stepL (pc' := 103) (st' := [(.int (2 : Int32)), (.int (0 : Int32)), (.ref b539), (.ref b539)]) (fun t kk => ?_) ?_
    · show Steps p.tables e below (T536.setTop (mkF m 99 _ [(.ref b539)])) t
      refine XS.dup P537.here P537.x rfl (hb hby at_99) rfl rfl ?_
      show Steps p.tables e below (T536.setTop (mkF m 100 _ [(.ref b539), (.ref b539)])) t
      refine XS.iconst P537.here P537.x rfl (hb hby at_100) ?_
      show Steps p.tables e below (T536.setTop (mkF m 101 _ [(.int (0 : Int32)), (.ref b539), (.ref b539)])) t
      refine XS.iload P537.here P537.x rfl (hb hby at_101) rfl ?_
      exact kk
    refine wIastore P537 (f := (fun _ => (0 : Int32))) A543 (j := (0 : Int32)) (i := 0) rfl (by decide) (Or.inr ge_b539) (hb hby at_103) rfl (fun T545 h547 P546 W548 A549 => ?_)
    have szh547 : h547.size = h538.size := W548.size
    show Done _ _ _ _ _ _ _ _ _ _ _ _ _ _ _ T545 (mkF m 104 _ [(.ref b539)])
    refine Done.stepL (pc' := 118) (st' := [(.int (1 : Int32)), (.int (1 : Int32)), (.ref b539), (.ref b539)]) (fun t kk => ?_) ?_
    · show Steps p.tables e below (T545.setTop (mkF m 104 _ [(.ref b539)])) t
      refine XS.dup P546.here P546.x rfl (hb hby at_104) rfl rfl ?_
      show Steps p.tables e below (T545.setTop (mkF m 105 _ [(.ref b539), (.ref b539)])) t
      refine XS.iconst P546.here P546.x rfl (hb hby at_105) ?_
      show Steps p.tables e below (T545.setTop (mkF m 106 _ [(.int (1 : Int32)), (.ref b539), (.ref b539)])) t
      refine XS.iload P546.here P546.x rfl (hb hby at_106) rfl ?_
      show Steps p.tables e below (T545.setTop (mkF m 108 _ [(.int (1 : Int32)), (.int (1 : Int32)), (.ref b539), (.ref b539)])) t
      refine XS.ifYes P546.here P546.x rfl (pc0 := 108) (pc' := 116) rfl (hb hby at_108) rfl (i0W_ne_t (by decide)) (by decide) (by decide) ?_
      show Steps p.tables e below (T545.setTop (mkF m 116 _ [(.int (1 : Int32)), (.ref b539), (.ref b539)])) t
      refine XS.iload P546.here P546.x rfl (hb hby at_116) rfl ?_
      exact kk
    refine wIastore P546 (f := (oupd (fun _ => (0 : Int32)) 0 (2 : Int32))) A549 (j := (1 : Int32)) (i := 1) rfl (by decide) (Or.inr ge_b539) (hb hby at_118) rfl (fun T550 h552 P551 W553 A554 => ?_)
    have szh552 : h552.size = h547.size := W553.size
    show Done _ _ _ _ _ _ _ _ _ _ _ _ _ _ _ T550 (mkF m 119 _ [(.ref b539)])
    refine Done.stepL (pc' := 133) (st' := [(.int (0 : Int32)), (.int (2 : Int32)), (.ref b539), (.ref b539)]) (fun t kk => ?_) ?_
    · show Steps p.tables e below (T550.setTop (mkF m 119 _ [(.ref b539)])) t
      refine XS.dup P551.here P551.x rfl (hb hby at_119) rfl rfl ?_
      show Steps p.tables e below (T550.setTop (mkF m 120 _ [(.ref b539), (.ref b539)])) t
      refine XS.iconst P551.here P551.x rfl (hb hby at_120) ?_
      show Steps p.tables e below (T550.setTop (mkF m 121 _ [(.int (2 : Int32)), (.ref b539), (.ref b539)])) t
      refine XS.iload P551.here P551.x rfl (hb hby at_121) rfl ?_
      show Steps p.tables e below (T550.setTop (mkF m 123 _ [(.int (1 : Int32)), (.int (2 : Int32)), (.ref b539), (.ref b539)])) t
      refine XS.ifYes P551.here P551.x rfl (pc0 := 123) (pc' := 131) rfl (hb hby at_123) rfl (i0W_ne_t (by decide)) (by decide) (by decide) ?_
      show Steps p.tables e below (T550.setTop (mkF m 131 _ [(.int (2 : Int32)), (.ref b539), (.ref b539)])) t
      refine XS.iload P551.here P551.x rfl (hb hby at_131) rfl ?_
      exact kk
    refine wIastore P551 (f := (oupd (oupd (fun _ => (0 : Int32)) 0 (2 : Int32)) 1 (1 : Int32))) A554 (j := (2 : Int32)) (i := 2) rfl (by decide) (Or.inr ge_b539) (hb hby at_133) rfl (fun T555 h557 P556 W558 A559 => ?_)
    have szh557 : h557.size = h552.size := W558.size
    show Done _ _ _ _ _ _ _ _ _ _ _ _ _ _ _ T555 (mkF m 134 _ [(.ref b539)])
    refine Done.step (T' := T555) (g' := (mkF m 136 #[.val (.int p0), .val (.int p1), .val (.int p2), .val (.int p3), .val (.int p4), .val (.int p5), .val (.double w0), .second, .val (.double w1), .second, .val (.double w2), .second, .val (.ref b4), .val (.int (5 : Int32)), .val (.int (2 : Int32)), .val (.int (1 : Int32)), .val (.int (0 : Int32)), .val (.int (1 : Int32)), .val (.ref b539), .unset, .unset, .unset, .unset, .unset, .unset, .unset, .unset, .unset, .unset, .unset, .unset, .unset, .unset] [])) (fun t kk => ?_) ?_
    · show Steps p.tables e below (T555.setTop (mkF m 134 _ [(.ref b539)])) t
      refine XS.astore P556.here P556.x rfl (hb hby at_134) rfl rfl (l' := #[.val (.int p0), .val (.int p1), .val (.int p2), .val (.int p3), .val (.int p4), .val (.int p5), .val (.double w0), .second, .val (.double w1), .second, .val (.double w2), .second, .val (.ref b4), .val (.int (5 : Int32)), .val (.int (2 : Int32)), .val (.int (1 : Int32)), .val (.int (0 : Int32)), .val (.int (1 : Int32)), .val (.ref b539), .unset, .unset, .unset, .unset, .unset, .unset, .unset, .unset, .unset, .unset, .unset, .unset, .unset, .unset]) rfl ?_
      exact kk
    have f560 := ((((A24.ext E542).other W548 (by first | assumption | exact Ne.symm (by assumption) | exact adr_ne (by omega) | omega)).other W553 (by first | assumption | exact Ne.symm (by assumption) | exact adr_ne (by omega) | omega)).other W558 (by first | assumption | exact Ne.symm (by assumption) | exact adr_ne (by omega) | omega))
    exact tail1 _ _ _ _ _ _ _ _ _ (2 : Int32) (1 : Int32) (0 : Int32) 2 1 0 P556 f560 A559  (by decide) (by decide) (by decide) (by decide) (by decide) (by decide) (by decide) (by decide) (by decide)
set_option maxRecDepth 65536 in
set_option maxHeartbeats 4000000 in
theorem comes_1 {Post : Tables → Env → Array Value → State → Outcome → State → Prop} (hpost : ∀ tb e args s v u, (limb_1_1.after args s (.returned v) u = true ∧ limb_1_2.after args s (.returned v) u = true ∧ True) → FrameEnd s (.returned v) u (Jvm.fieldLocs frame_1_writes args s ++ Jvm.arrayLocs frame_1_arrays args s ++ Jvm.staticLocs frame_1_statics s) 24 128 → Post tb e args s (.returned v) u) :
    ArmFor flags0 classFile x code maxLocals ret World_1 tables_1 room_1 Calls_1 rest_1 Pre_1 Post := by
  intro l hfl _ _ p e ha hc hk s m args below hf hA hF happ hP
  obtain ⟨hcalls, hrest, hpre⟩ := hP
  obtain ⟨-, -, -, hnamed, -, -, -, hat⟩ := (Spec.applies_iff hf).mp happ
  obtain ⟨hg, hn⟩ := and_e (Cond.before_iff.mp (show (Jvm.Cond.and given_1 narrow_1).before args s = true from hpre))
  obtain ⟨h1, g0⟩ := and_e hg
  obtain ⟨q0, g1⟩ := and_e g0
  obtain ⟨q1, g2⟩ := and_e g1
  obtain ⟨q2, g3⟩ := and_e g2
  obtain ⟨q3, g4⟩ := and_e g3
  obtain ⟨q4, g5⟩ := and_e g4
  obtain ⟨w0, w1, w2, w3, w4, w5, rfl⟩ : ∃ w0 w1 w2 w3 w4 w5 : Value, args = #[w0, w1, w2, w3, w4, w5] := by
    have hs : args.size = 6 := by simpa [Cond.value, given_1] using h1
    obtain ⟨L⟩ := args
    match L, hs with
    | [w0, w1, w2, w3, w4, w5], _ => exact ⟨w0, w1, w2, w3, w4, w5, rfl⟩
  have hw := fun d (hd : d ∈ tables_1) => atoms_spec (ws := Jvm.Cond.code x code maxLocals ret :: tables_1) hat d (List.mem_cons_of_mem _ hd)
  have hfit : Fit s := fun {y c} hc i hi => by
    obtain ⟨ha, rfl⟩ := Array.getElem?_eq_some_iff.mp hc
    have q := List.all_eq_true.mp ((Array.all_eq_true_iff_forall_mem.mp hF) _ (Array.getElem_mem ha)) i (List.mem_range.mpr hi)
    simpa [Array.getElem?_eq_getElem hi] using q
  obtain ⟨i0, e0⟩ := is_v q0
  obtain rfl : w0 = (.int i0) := Option.some.inj e0
  obtain ⟨i1, e1⟩ := is_v q1
  obtain rfl : w1 = (.int i1) := Option.some.inj e1
  obtain ⟨i2, e2⟩ := is_v q2
  obtain rfl : w2 = (.int i2) := Option.some.inj e2
  obtain ⟨i3, e3⟩ := is_v q3
  obtain rfl : w3 = (.int i3) := Option.some.inj e3
  obtain ⟨i4, e4⟩ := is_v q4
  obtain rfl : w4 = (.int i4) := Option.some.inj e4
  obtain ⟨i5, e5⟩ := is_v g5
  obtain rfl : w5 = (.int i5) := Option.some.inj e5
  obtain ⟨n, o, h1, h2, h3, _, L, rfl, ⟨rfl, N, -⟩, hq⟩ := m_law l s _ hw  i0 i1 i2 i3 i4 i5  s.heap  p e ha hc hk s m _ below hf ((Spec.applies_iff_loose hf).mp happ).1 ⟨rfl, State.Warmed39.refl s, rfl⟩ trivial
  refine ⟨n, _, h1, h2, h3, hpost _ _ _ _ _ _ ⟨Cond.after_iff.mpr rfl, Cond.after_iff.mpr (eq_i res_at (Term.int_eval (1)) rfl), trivial⟩ ⟨hq.1, hq.2.1, (hq.2.2.sift fun y hy => Or.inr ((N y hy).resolve_left (by simp))).mono (by decide) (by decide)⟩⟩
theorem main_1_1 : Claimed_1_1 := comes_1 fun _ _ _ _ _ _ h hF => ⟨h.1, hF⟩
theorem main_1_2 : Claimed_1_2 := comes_1 fun _ _ _ _ _ _ h hF => ⟨h.2.1, hF⟩
end Jvm.Pilot.@@N@@
namespace Jvm.Pilot.@@N@@
open Jvm Jvm.ClassFile Sem Op Lib Jvm.Free Jvm.Stand Jvm.Pilot.@@N@@.Jvm.D
/-! MADE BY PROGRAM (witnessworld.py) out of the Statement's table words and the real class files: 12 classes; the members and pool entries that the words name. The judged class is class 1, her method 3. -/
namespace start1
open Jvm.ClassFile
def u (s : String) : CpInfo := .utf8 (stringToUtf16 s)
/-- a pool by its gaps: so many unusable entries, then the entry; so many at the end -/
def gap : Nat → List CpInfo → List CpInfo
  | 0, r => r
  | n + 1, r => .unusable :: gap n r
def poolList (es : List (Nat × CpInfo)) (last : Nat) : List CpInfo := es.foldr (fun e r => gap e.1 (e.2 :: r)) (gap last [])
def pool (es : List (Nat × CpInfo)) (last : Nat) : Array CpInfo := ⟨poolList es last⟩
def fileOf (pool : Array CpInfo) (this : Nat) (attrs : Array Attribute := #[]) (ms : Array MethodInfo := #[]) (fl : Nat := 33) (sup : Nat := 0) (ifs : Array Nat := #[]) (fds : Array FieldInfo := #[]) : ClassFile where
  minorVersion := 0
  majorVersion := 65
  constantPool := pool
  accessFlags := fl
  thisClass := this
  superClass := sup
  interfaces := ifs
  fields := fds
  methods := ms
  attributes := attrs
def plain (name : String) (sup : Option ClassId) : Class where
  name := name
  kind := .ordinary
  loader := none
  accessFlags := 33
  super := sup
  interfaces := #[]
  cf := none
  fields := #[]
  methods := #[]
  instanceTypes := #[]
  staticTypes := #[]
  resolved := #[]
  callSites := []
  init := .initialized
  statics := none
  mirror := none

def pool0 : Array CpInfo := pool [(5, u "<init>"), (0, u "()V"), (1, .class_ 10), (1, u "java/lang/Object")] 113

def k0c0 : Code := { maxStack := 0, maxLocals := 1, code := object_method_1_code, exceptionTable := #[], attributes := #[] }
def k0m0 : Method := { name := "<init>", desc := "()V", sig := { parameters := [], returnType := none }, accessFlags := 1, code := some k0c0 }
/-- java/lang/Object -/
def k0 : Class := { plain "java/lang/Object" none with
  accessFlags := 33
  interfaces := #[]
  cf := some (fileOf pool0 8 #[] #[{ accessFlags := 1, nameIndex := 5, descriptorIndex := 6, attributes := #[] }] 33 0 #[] #[])
  fields := #[]
  methods := #[k0m0]
  instanceTypes := #[]
  staticTypes := #[]
  resolved := Array.replicate 124 none
  statics := none }

def pool1 : Array CpInfo := pool [(2, .class_ 4), (1, u "java/lang/Object"), (0, u "<init>"), (0, u "()V"), (0, .integer 2147483647), (0, .class_ 9), (0, u "com/example/urnwise/urnwise/sampler/SmallestKeys"), (0, .methodref 8 11), (0, .nameAndType 5 12), (0, u "(I)V"), (0, .methodref 8 14), (0, .nameAndType 15 16), (0, u "offer"), (0, u "(DI)V"), (0, .methodref 8 18), (0, .nameAndType 19 20), (0, u "replaceLargestKey"), (0, u "(D)I"), (0, .methodref 8 22), (0, .nameAndType 23 24), (0, u "size"), (0, u "()I"), (0, .methodref 8 26), (0, .nameAndType 27 28), (0, u "largestKey"), (0, u "()D"), (0, .methodref 8 30), (0, .nameAndType 31 32), (0, u "removeAll"), (0, u "()[I"), (0, .methodref 34 35), (0, .class_ 36), (0, .nameAndType 37 38), (0, u "com/example/urnwise/urnwise/sampler/SmallestKeysReplaceLargestKeyPinLaw"), (0, u "offered"), (0, u "(I[II)Z"), (0, .methodref 34 40), (0, .nameAndType 41 42), (0, u "keyOf"), (0, u "(IID[D)D"), (3, u "law"), (0, u "(IIIIII)Z")] 6

def k1m0 : Method := { name := "<init>", desc := "()V", sig := { parameters := [], returnType := none }, accessFlags := 1, code := none }
def k1c1 : Code := { maxStack := 4, maxLocals := 3, code := method_2_code, exceptionTable := #[], attributes := #[] }
def k1m1 : Method := { name := "offered", desc := "(I[II)Z", sig := { parameters := [.int, (.array .int), .int], returnType := some .boolean }, accessFlags := 10, code := some k1c1 }
def k1c2 : Code := { maxStack := 2, maxLocals := 6, code := method_3_code, exceptionTable := #[], attributes := #[] }
def k1m2 : Method := { name := "keyOf", desc := "(IID[D)D", sig := { parameters := [.int, .int, .double, (.array .double)], returnType := some .double }, accessFlags := 10, code := some k1c2 }
def k1c3 : Code := { maxStack := 7, maxLocals := 33, code := code, exceptionTable := #[], attributes := #[] }
def k1m3 : Method := { name := "law", desc := "(IIIIII)Z", sig := { parameters := [.int, .int, .int, .int, .int, .int], returnType := some .boolean }, accessFlags := 9, code := some k1c3 }
/-- com/example/urnwise/urnwise/sampler/SmallestKeysReplaceLargestKeyPinLaw -/
def k1 : Class := { plain "com/example/urnwise/urnwise/sampler/SmallestKeysReplaceLargestKeyPinLaw" (some 0) with
  accessFlags := 49
  interfaces := #[]
  cf := some (fileOf pool1 34 #[] #[{ accessFlags := 1, nameIndex := 5, descriptorIndex := 6, attributes := #[] }, { accessFlags := 10, nameIndex := 37, descriptorIndex := 38, attributes := #[] }, { accessFlags := 10, nameIndex := 41, descriptorIndex := 42, attributes := #[] }, { accessFlags := 9, nameIndex := 46, descriptorIndex := 47, attributes := #[] }] 49 2 #[] #[])
  fields := #[]
  methods := #[k1m0, k1m1, k1m2, k1m3]
  instanceTypes := #[]
  staticTypes := #[]
  resolved := Array.replicate 54 none
  statics := none }

def pool2 : Array CpInfo := pool [(1, .methodref 2 3), (0, .class_ 4), (0, .nameAndType 5 6), (0, u "java/lang/Object"), (0, u "<init>"), (0, u "()V"), (0, .fieldref 8 9), (0, .class_ 10), (0, .nameAndType 11 12), (0, u "com/example/urnwise/urnwise/sampler/SmallestKeys"), (0, u "capacity"), (0, u "I"), (0, .methodref 14 15), (0, .class_ 16), (0, .nameAndType 17 18), (0, u "java/lang/Math"), (0, u "min"), (0, u "(II)I"), (0, .fieldref 8 20), (0, .nameAndType 21 22), (0, u "keys"), (0, u "[D"), (0, .fieldref 8 24), (0, .nameAndType 25 26), (0, u "indices"), (0, u "[I"), (0, .fieldref 8 28), (0, .nameAndType 29 12), (0, u "size"), (3, .methodref 8 34), (0, .nameAndType 35 36), (0, u "siftUp"), (0, u "(IDI)V"), (0, .methodref 8 38), (0, .nameAndType 39 36), (0, u "siftDown"), (0, .methodref 8 41), (0, .nameAndType 42 43), (0, u "removeLargest"), (0, u "()I"), (14, u "INITIAL_LENGTH"), (2, u "(I)V"), (2, u "offer"), (0, u "(DI)V"), (3, u "largestKey"), (0, u "()D"), (0, u "replaceLargestKey"), (0, u "(D)I"), (0, u "removeAll"), (0, u "()[I")] 3

def k2c0 : Code := { maxStack := 3, maxLocals := 2, code := prog_15_method_1_code, exceptionTable := #[], attributes := #[] }
def k2m0 : Method := { name := "<init>", desc := "(I)V", sig := { parameters := [.int], returnType := none }, accessFlags := 0, code := some k2c0 }
def k2c1 : Code := { maxStack := 5, maxLocals := 4, code := prog_15_method_2_code, exceptionTable := #[], attributes := #[] }
def k2m1 : Method := { name := "offer", desc := "(DI)V", sig := { parameters := [.double, .int], returnType := none }, accessFlags := 0, code := some k2c1 }
def k2c2 : Code := { maxStack := 1, maxLocals := 1, code := prog_15_method_3_code, exceptionTable := #[], attributes := #[] }
def k2m2 : Method := { name := "size", desc := "()I", sig := { parameters := [], returnType := some .int }, accessFlags := 0, code := some k2c2 }
def k2c3 : Code := { maxStack := 2, maxLocals := 1, code := prog_15_method_5_code, exceptionTable := #[], attributes := #[] }
def k2m3 : Method := { name := "largestKey", desc := "()D", sig := { parameters := [], returnType := some .double }, accessFlags := 0, code := some k2c3 }
def k2c4 : Code := { maxStack := 5, maxLocals := 4, code := prog_15_method_6_code, exceptionTable := #[], attributes := #[] }
def k2m4 : Method := { name := "replaceLargestKey", desc := "(D)I", sig := { parameters := [.double], returnType := some .int }, accessFlags := 0, code := some k2c4 }
def k2c5 : Code := { maxStack := 3, maxLocals := 3, code := prog_15_method_7_code, exceptionTable := #[], attributes := #[] }
def k2m5 : Method := { name := "removeAll", desc := "()[I", sig := { parameters := [], returnType := some (.array .int) }, accessFlags := 0, code := some k2c5 }
def k2c6 : Code := { maxStack := 6, maxLocals := 2, code := prog_15_method_8_code, exceptionTable := #[], attributes := #[] }
def k2m6 : Method := { name := "removeLargest", desc := "()I", sig := { parameters := [], returnType := some .int }, accessFlags := 2, code := some k2c6 }
def k2c7 : Code := { maxStack := 4, maxLocals := 6, code := prog_15_method_10_code, exceptionTable := #[], attributes := #[] }
def k2m7 : Method := { name := "siftDown", desc := "(IDI)V", sig := { parameters := [.int, .double, .int], returnType := none }, accessFlags := 2, code := some k2c7 }
def k2c8 : Code := { maxStack := 4, maxLocals := 6, code := prog_15_method_11_code, exceptionTable := #[], attributes := #[] }
def k2m8 : Method := { name := "siftUp", desc := "(IDI)V", sig := { parameters := [.int, .double, .int], returnType := none }, accessFlags := 2, code := some k2c8 }
/-- com/example/urnwise/urnwise/sampler/SmallestKeys -/
def k2 : Class := { plain "com/example/urnwise/urnwise/sampler/SmallestKeys" (some 0) with
  accessFlags := 48
  interfaces := #[]
  cf := some (fileOf pool2 8 #[] #[{ accessFlags := 0, nameIndex := 5, descriptorIndex := 61, attributes := #[] }, { accessFlags := 0, nameIndex := 64, descriptorIndex := 65, attributes := #[] }, { accessFlags := 0, nameIndex := 29, descriptorIndex := 43, attributes := #[] }, { accessFlags := 0, nameIndex := 69, descriptorIndex := 70, attributes := #[] }, { accessFlags := 0, nameIndex := 71, descriptorIndex := 72, attributes := #[] }, { accessFlags := 0, nameIndex := 73, descriptorIndex := 74, attributes := #[] }, { accessFlags := 2, nameIndex := 42, descriptorIndex := 43, attributes := #[] }, { accessFlags := 2, nameIndex := 39, descriptorIndex := 36, attributes := #[] }, { accessFlags := 2, nameIndex := 35, descriptorIndex := 36, attributes := #[] }] 48 2 #[] #[{ accessFlags := 26, nameIndex := 58, descriptorIndex := 12, attributes := #[] }, { accessFlags := 18, nameIndex := 11, descriptorIndex := 12, attributes := #[] }, { accessFlags := 2, nameIndex := 21, descriptorIndex := 22, attributes := #[] }, { accessFlags := 2, nameIndex := 25, descriptorIndex := 26, attributes := #[] }, { accessFlags := 2, nameIndex := 29, descriptorIndex := 12, attributes := #[] }])
  fields := #[{ name := "INITIAL_LENGTH", type := .int, accessFlags := 26, slot := 0, constantValue := 0 }, { name := "capacity", type := .int, accessFlags := 18, slot := 0, constantValue := 0 }, { name := "keys", type := (.array .double), accessFlags := 2, slot := 1, constantValue := 0 }, { name := "indices", type := (.array .int), accessFlags := 2, slot := 2, constantValue := 0 }, { name := "size", type := .int, accessFlags := 2, slot := 3, constantValue := 0 }]
  methods := #[k2m0, k2m1, k2m2, k2m3, k2m4, k2m5, k2m6, k2m7, k2m8]
  instanceTypes := #[.int, (.array .double), (.array .int), .int]
  staticTypes := #[.int]
  resolved := Array.replicate 78 none
  statics := none }

def pool3 : Array CpInfo := pool [(1, .class_ 2), (0, u "java/lang/Math"), (1, .class_ 6), (1, u "java/lang/Object"), (0, u "<init>"), (0, u "()V"), (89, .class_ 100), (1, u "java/lang/Math$RandomNumberGeneratorHolder"), (71, u "negativeZeroFloatBits"), (0, u "J"), (2, u "negativeZeroDoubleBits"), (24, u "min"), (43, u "$assertionsDisabled"), (0, u "Z"), (88, u "(II)I"), (2, u "twoToTheDoubleScaleDown"), (0, u "D"), (4, u "twoToTheDoubleScaleUp"), (9, u "E"), (3, u "PI"), (2, u "TAU"), (2, u "DEGREES_TO_RADIANS"), (0, u "RADIANS_TO_DEGREES")] 94

def k3m0 : Method := { name := "<init>", desc := "()V", sig := { parameters := [], returnType := none }, accessFlags := 2, code := none }
def k3c1 : Code := { maxStack := 2, maxLocals := 2, code := jdk_29_method_69_code, exceptionTable := #[], attributes := #[] }
def k3m1 : Method := { name := "min", desc := "(II)I", sig := { parameters := [.int, .int], returnType := some .int }, accessFlags := 9, code := some k3c1 }
/-- java/lang/Math -/
def k3 : Class := { plain "java/lang/Math" (some 0) with
  accessFlags := 49
  interfaces := #[]
  cf := some (fileOf pool3 1 #[.nestMembers #[98]] #[{ accessFlags := 2, nameIndex := 7, descriptorIndex := 8, attributes := #[] }, { accessFlags := 9, nameIndex := 201, descriptorIndex := 335, attributes := #[] }] 49 4 #[] #[{ accessFlags := 25, nameIndex := 354, descriptorIndex := 339, attributes := #[] }, { accessFlags := 25, nameIndex := 358, descriptorIndex := 339, attributes := #[] }, { accessFlags := 25, nameIndex := 361, descriptorIndex := 339, attributes := #[] }, { accessFlags := 26, nameIndex := 364, descriptorIndex := 339, attributes := #[] }, { accessFlags := 26, nameIndex := 365, descriptorIndex := 339, attributes := #[] }, { accessFlags := 26, nameIndex := 172, descriptorIndex := 173, attributes := #[] }, { accessFlags := 26, nameIndex := 176, descriptorIndex := 173, attributes := #[] }, { accessFlags := 8, nameIndex := 344, descriptorIndex := 339, attributes := #[] }, { accessFlags := 8, nameIndex := 338, descriptorIndex := 339, attributes := #[] }, { accessFlags := 4120, nameIndex := 245, descriptorIndex := 246, attributes := #[] }])
  fields := #[{ name := "E", type := .double, accessFlags := 25, slot := 0, constantValue := 0 }, { name := "PI", type := .double, accessFlags := 25, slot := 1, constantValue := 0 }, { name := "TAU", type := .double, accessFlags := 25, slot := 2, constantValue := 0 }, { name := "DEGREES_TO_RADIANS", type := .double, accessFlags := 26, slot := 3, constantValue := 0 }, { name := "RADIANS_TO_DEGREES", type := .double, accessFlags := 26, slot := 4, constantValue := 0 }, { name := "negativeZeroFloatBits", type := .long, accessFlags := 26, slot := 5, constantValue := 0 }, { name := "negativeZeroDoubleBits", type := .long, accessFlags := 26, slot := 6, constantValue := 0 }, { name := "twoToTheDoubleScaleUp", type := .double, accessFlags := 8, slot := 7, constantValue := 0 }, { name := "twoToTheDoubleScaleDown", type := .double, accessFlags := 8, slot := 8, constantValue := 0 }, { name := "$assertionsDisabled", type := .boolean, accessFlags := 4120, slot := 9, constantValue := 0 }]
  methods := #[k3m0, k3m1]
  instanceTypes := #[]
  staticTypes := #[.double, .double, .double, .double, .double, .long, .long, .double, .double, .boolean]
  resolved := Array.replicate 460 none
  statics := none }

def pool4 : Array CpInfo := pool [(1, u "java/lang/Cloneable"), (0, .class_ 1), (0, u "java/lang/Object"), (0, .class_ 3)] 3

/-- java/lang/Cloneable -/
def k4 : Class := { plain "java/lang/Cloneable" (some 0) with
  accessFlags := 1537
  interfaces := #[]
  cf := some (fileOf pool4 2 #[] #[] 1537 4 #[] #[])
  fields := #[]
  methods := #[]
  instanceTypes := #[]
  staticTypes := #[]
  resolved := Array.replicate 8 none
  statics := none }

def pool5 : Array CpInfo := pool [(1, u "java/io/Serializable"), (0, .class_ 1), (0, u "java/lang/Object"), (0, .class_ 3)] 3

/-- java/io/Serializable -/
def k5 : Class := { plain "java/io/Serializable" (some 0) with
  accessFlags := 1537
  interfaces := #[]
  cf := some (fileOf pool5 2 #[] #[] 1537 4 #[] #[])
  fields := #[]
  methods := #[]
  instanceTypes := #[]
  staticTypes := #[]
  resolved := Array.replicate 8 none
  statics := none }

/-- the primitive byte -/
def k6 : Class := { plain "byte" none with kind := .primitive 'B', accessFlags := 0x411 }
/-- [B -/
def k7 : Class := { plain "[B" (some 0) with kind := .array 6 .byte, interfaces := #[4, 5], accessFlags := 1041 }

/-- the primitive double -/
def k8 : Class := { plain "double" none with kind := .primitive 'D', accessFlags := 0x411 }
/-- [D -/
def k9 : Class := { plain "[D" (some 0) with kind := .array 8 .double, interfaces := #[4, 5], accessFlags := 1041 }

/-- the primitive int -/
def k10 : Class := { plain "int" none with kind := .primitive 'I', accessFlags := 0x411 }
/-- [I -/
def k11 : Class := { plain "[I" (some 0) with kind := .array 10 .int, interfaces := #[4, 5], accessFlags := 1041 }

def heap : Heap := #[]
def classes : Array Class := #[k0, k1, k2, k3, k4, k5, k6, k7, k8, k9, k10, k11]
def interned : List (Array UInt16 × Addr) := []
def slotsUsed : Nat := 0
def theMethod : MethodId := ⟨1, 3⟩
def args0 : Array Value := #[.int 5, .int 1, .int 2, .int 3, .int 4, .int 6]
def aboutOver (below : List Frame) : State where
  vm := { classes := classes, interned := interned.toArray }
  heap := heap
  slotsUsed := slotsUsed
  threads := #[{ frames := .invoking theMethod args0 :: below }]
def below0 : List Frame := [.native { method := ⟨0, 0⟩, args := #[] }]
def about1 : State := aboutOver below0
def p0 : Program := .bare "" "" ""
def e0 : Env := launch0.env 0 0 0
theorem w_frames : about1.frames = Frame.invoking theMethod args0 :: below0 := rfl
set_option maxRecDepth 65536 in
theorem w_args : argsFit about1.vm theMethod args0 = true := by decide +kernel
set_option maxRecDepth 65536 in
theorem w_heap : heapFits about1 = true := by decide +kernel
set_option maxRecDepth 65536 in
theorem w_runnable : about1.curStatus? = some .runnable := by decide +kernel
set_option maxRecDepth 65536 in
theorem w_alone : about1.alone = true := by decide +kernel
set_option maxRecDepth 65536 in
theorem w_named : about1.methodNamed? x = some theMethod := by decide +kernel
set_option maxRecDepth 65536 in
theorem w_hears : about1.hears theMethod below0 = true := by decide +kernel
set_option maxRecDepth 65536 in
theorem w_ripe : about1.ripe theMethod args0 below0 = true := by decide +kernel
theorem w_running : about1.status = .running := rfl
set_option maxRecDepth 65536 in
theorem w_room : about1.hasRoom e0.platform room_1 = true :=
  launch0.hasRoom_least _ room_1 (by decide +kernel) (by decide +kernel) (by decide +kernel) (by decide +kernel) (by decide +kernel) (by decide +kernel)
theorem allAtoms_all (ts : List Jvm.Cond) (a : Array Jvm.Value) (st : Jvm.State) : (allAtoms ts).before a st = ts.all (fun c => c.before a st) := by
  induction ts with
  | nil => rfl
  | cons c t ih =>
    show (Jvm.Cond.and c (allAtoms t)).before a st = _
    rw [Jvm.Cond.before_and, ih, List.all_cons]
def words1 : List Jvm.Cond := Jvm.Cond.code x code maxLocals ret :: tables_1
/-- a 'code' word, met by the world's own term for the bytes: nothing is compared byte by byte -/
theorem code_word {y : MethodName} {bytes : ByteArray} {mx : Nat} {rt : Option FieldType} {a : Array Value} {s : State} {m : MethodId} {meth : Method} {c : Code} (h1 : s.methodNamed? y = some m) (h2 : s.vm.method? m = some meth) (h3 : meth.code = some c) (h4 : c.code = bytes)
    (h5 : (c.maxLocals == mx && c.exceptionTable.isEmpty && decide (c.maxStack ≤ mostOperands) && decide (meth.sig.returnType = rt) && !meth.locks && decide (parseMethodDescriptor y.desc = some meth.sig)) = true) : (Jvm.Cond.code y bytes mx rt).before a s = true := by
  simp only [Bool.and_eq_true, beq_iff_eq, Bool.not_eq_true', decide_eq_true_eq] at h5
  obtain ⟨⟨⟨⟨⟨g1, g2⟩, g3⟩, g4⟩, g5⟩, g6⟩ := h5
  simp [Cond.before, Cond.holds, Cond.value, h1, h2, h3, h4, g1, g2, g3, g4, g5, g6]
def isCode : Jvm.Cond → Bool
  | .code _ _ _ _ => true
  | _ => false
theorem all_split {L : List Jvm.Cond} {P : Jvm.Cond → Bool} (h1 : L.all (fun c => isCode c || P c) = true) (h2 : ∀ c ∈ L.filter isCode, P c = true) : L.all P = true := by
  refine List.all_eq_true.mpr fun c hc => ?_
  have h := List.all_eq_true.mp h1 c hc
  rcases Bool.eq_false_or_eq_true (isCode c) with hi | hi
  · exact h2 c (List.mem_filter.mpr ⟨hc, hi⟩)
  · simpa [hi] using h
set_option maxRecDepth 65536 in
theorem w_c0 : (Jvm.Cond.code x code maxLocals ret).before args0 about1 = true := code_word (m := ⟨1, 3⟩) (meth := k1m3) (c := k1c3) (by decide +kernel) rfl rfl rfl (by decide +kernel)
set_option maxRecDepth 65536 in
theorem w_c1 : (Jvm.Cond.code ({ cls := "com/example/urnwise/urnwise/sampler/SmallestKeys", name := "<init>", desc := "(I)V" } : Jvm.MethodName) prog_15_method_1_code (2 : Nat) (Option.none : Option Jvm.ClassFile.FieldType)).before args0 about1 = true := code_word (m := ⟨2, 0⟩) (meth := k2m0) (c := k2c0) (by decide +kernel) rfl rfl rfl (by decide +kernel)
set_option maxRecDepth 65536 in
theorem w_c2 : (Jvm.Cond.code ({ cls := "java/lang/Object", name := "<init>", desc := "()V" } : Jvm.MethodName) object_method_1_code (1 : Nat) (Option.none : Option Jvm.ClassFile.FieldType)).before args0 about1 = true := code_word (m := ⟨0, 0⟩) (meth := k0m0) (c := k0c0) (by decide +kernel) rfl rfl rfl (by decide +kernel)
set_option maxRecDepth 65536 in
theorem w_c3 : (Jvm.Cond.code ({ cls := "java/lang/Math", name := "min", desc := "(II)I" } : Jvm.MethodName) jdk_29_method_69_code (2 : Nat) (Option.some Jvm.ClassFile.FieldType.int)).before args0 about1 = true := code_word (m := ⟨3, 1⟩) (meth := k3m1) (c := k3c1) (by decide +kernel) rfl rfl rfl (by decide +kernel)
set_option maxRecDepth 65536 in
theorem w_c4 : (Jvm.Cond.code ({ cls := "com/example/urnwise/urnwise/sampler/SmallestKeys", name := "offer", desc := "(DI)V" } : Jvm.MethodName) prog_15_method_2_code (4 : Nat) (Option.none : Option Jvm.ClassFile.FieldType)).before args0 about1 = true := code_word (m := ⟨2, 1⟩) (meth := k2m1) (c := k2c1) (by decide +kernel) rfl rfl rfl (by decide +kernel)
set_option maxRecDepth 65536 in
theorem w_c5 : (Jvm.Cond.code ({ cls := "com/example/urnwise/urnwise/sampler/SmallestKeys", name := "siftUp", desc := "(IDI)V" } : Jvm.MethodName) prog_15_method_11_code (6 : Nat) (Option.none : Option Jvm.ClassFile.FieldType)).before args0 about1 = true := code_word (m := ⟨2, 8⟩) (meth := k2m8) (c := k2c8) (by decide +kernel) rfl rfl rfl (by decide +kernel)
set_option maxRecDepth 65536 in
theorem w_c6 : (Jvm.Cond.code ({ cls := "com/example/urnwise/urnwise/sampler/SmallestKeys", name := "replaceLargestKey", desc := "(D)I" } : Jvm.MethodName) prog_15_method_6_code (4 : Nat) (Option.some Jvm.ClassFile.FieldType.int)).before args0 about1 = true := code_word (m := ⟨2, 4⟩) (meth := k2m4) (c := k2c4) (by decide +kernel) rfl rfl rfl (by decide +kernel)
set_option maxRecDepth 65536 in
theorem w_c7 : (Jvm.Cond.code ({ cls := "com/example/urnwise/urnwise/sampler/SmallestKeys", name := "siftDown", desc := "(IDI)V" } : Jvm.MethodName) prog_15_method_10_code (6 : Nat) (Option.none : Option Jvm.ClassFile.FieldType)).before args0 about1 = true := code_word (m := ⟨2, 7⟩) (meth := k2m7) (c := k2c7) (by decide +kernel) rfl rfl rfl (by decide +kernel)
set_option maxRecDepth 65536 in
theorem w_c8 : (Jvm.Cond.code ({ cls := "com/example/urnwise/urnwise/sampler/SmallestKeys", name := "size", desc := "()I" } : Jvm.MethodName) prog_15_method_3_code (1 : Nat) (Option.some Jvm.ClassFile.FieldType.int)).before args0 about1 = true := code_word (m := ⟨2, 2⟩) (meth := k2m2) (c := k2c2) (by decide +kernel) rfl rfl rfl (by decide +kernel)
set_option maxRecDepth 65536 in
theorem w_c9 : (Jvm.Cond.code ({ cls := "com/example/urnwise/urnwise/sampler/SmallestKeys", name := "largestKey", desc := "()D" } : Jvm.MethodName) prog_15_method_5_code (1 : Nat) (Option.some Jvm.ClassFile.FieldType.double)).before args0 about1 = true := code_word (m := ⟨2, 3⟩) (meth := k2m3) (c := k2c3) (by decide +kernel) rfl rfl rfl (by decide +kernel)
set_option maxRecDepth 65536 in
theorem w_c10 : (Jvm.Cond.code ({ cls := "com/example/urnwise/urnwise/sampler/SmallestKeys", name := "removeAll", desc := "()[I" } : Jvm.MethodName) prog_15_method_7_code (3 : Nat) (Option.some (Jvm.ClassFile.FieldType.array Jvm.ClassFile.FieldType.int))).before args0 about1 = true := code_word (m := ⟨2, 5⟩) (meth := k2m5) (c := k2c5) (by decide +kernel) rfl rfl rfl (by decide +kernel)
set_option maxRecDepth 65536 in
theorem w_c11 : (Jvm.Cond.code ({ cls := "com/example/urnwise/urnwise/sampler/SmallestKeys", name := "removeLargest", desc := "()I" } : Jvm.MethodName) prog_15_method_8_code (2 : Nat) (Option.some Jvm.ClassFile.FieldType.int)).before args0 about1 = true := code_word (m := ⟨2, 6⟩) (meth := k2m6) (c := k2c6) (by decide +kernel) rfl rfl rfl (by decide +kernel)
set_option maxRecDepth 65536 in
theorem w_c12 : (Jvm.Cond.code ({ cls := "com/example/urnwise/urnwise/sampler/SmallestKeysReplaceLargestKeyPinLaw", name := "offered", desc := "(I[II)Z" } : Jvm.MethodName) method_2_code (3 : Nat) (Option.some Jvm.ClassFile.FieldType.boolean)).before args0 about1 = true := code_word (m := ⟨1, 1⟩) (meth := k1m1) (c := k1c1) (by decide +kernel) rfl rfl rfl (by decide +kernel)
set_option maxRecDepth 65536 in
theorem w_c13 : (Jvm.Cond.code ({ cls := "com/example/urnwise/urnwise/sampler/SmallestKeysReplaceLargestKeyPinLaw", name := "keyOf", desc := "(IID[D)D" } : Jvm.MethodName) method_3_code (6 : Nat) (Option.some Jvm.ClassFile.FieldType.double)).before args0 about1 = true := code_word (m := ⟨1, 2⟩) (meth := k1m2) (c := k1c2) (by decide +kernel) rfl rfl rfl (by decide +kernel)
def codes1 : List Jvm.Cond := [Jvm.Cond.code x code maxLocals ret, Jvm.Cond.code ({ cls := "com/example/urnwise/urnwise/sampler/SmallestKeys", name := "<init>", desc := "(I)V" } : Jvm.MethodName) prog_15_method_1_code (2 : Nat) (Option.none : Option Jvm.ClassFile.FieldType), Jvm.Cond.code ({ cls := "java/lang/Object", name := "<init>", desc := "()V" } : Jvm.MethodName) object_method_1_code (1 : Nat) (Option.none : Option Jvm.ClassFile.FieldType), Jvm.Cond.code ({ cls := "java/lang/Math", name := "min", desc := "(II)I" } : Jvm.MethodName) jdk_29_method_69_code (2 : Nat) (Option.some Jvm.ClassFile.FieldType.int), Jvm.Cond.code ({ cls := "com/example/urnwise/urnwise/sampler/SmallestKeys", name := "offer", desc := "(DI)V" } : Jvm.MethodName) prog_15_method_2_code (4 : Nat) (Option.none : Option Jvm.ClassFile.FieldType), Jvm.Cond.code ({ cls := "com/example/urnwise/urnwise/sampler/SmallestKeys", name := "siftUp", desc := "(IDI)V" } : Jvm.MethodName) prog_15_method_11_code (6 : Nat) (Option.none : Option Jvm.ClassFile.FieldType), Jvm.Cond.code ({ cls := "com/example/urnwise/urnwise/sampler/SmallestKeys", name := "replaceLargestKey", desc := "(D)I" } : Jvm.MethodName) prog_15_method_6_code (4 : Nat) (Option.some Jvm.ClassFile.FieldType.int), Jvm.Cond.code ({ cls := "com/example/urnwise/urnwise/sampler/SmallestKeys", name := "siftDown", desc := "(IDI)V" } : Jvm.MethodName) prog_15_method_10_code (6 : Nat) (Option.none : Option Jvm.ClassFile.FieldType), Jvm.Cond.code ({ cls := "com/example/urnwise/urnwise/sampler/SmallestKeys", name := "size", desc := "()I" } : Jvm.MethodName) prog_15_method_3_code (1 : Nat) (Option.some Jvm.ClassFile.FieldType.int), Jvm.Cond.code ({ cls := "com/example/urnwise/urnwise/sampler/SmallestKeys", name := "largestKey", desc := "()D" } : Jvm.MethodName) prog_15_method_5_code (1 : Nat) (Option.some Jvm.ClassFile.FieldType.double), Jvm.Cond.code ({ cls := "com/example/urnwise/urnwise/sampler/SmallestKeys", name := "removeAll", desc := "()[I" } : Jvm.MethodName) prog_15_method_7_code (3 : Nat) (Option.some (Jvm.ClassFile.FieldType.array Jvm.ClassFile.FieldType.int)), Jvm.Cond.code ({ cls := "com/example/urnwise/urnwise/sampler/SmallestKeys", name := "removeLargest", desc := "()I" } : Jvm.MethodName) prog_15_method_8_code (2 : Nat) (Option.some Jvm.ClassFile.FieldType.int), Jvm.Cond.code ({ cls := "com/example/urnwise/urnwise/sampler/SmallestKeysReplaceLargestKeyPinLaw", name := "offered", desc := "(I[II)Z" } : Jvm.MethodName) method_2_code (3 : Nat) (Option.some Jvm.ClassFile.FieldType.boolean), Jvm.Cond.code ({ cls := "com/example/urnwise/urnwise/sampler/SmallestKeysReplaceLargestKeyPinLaw", name := "keyOf", desc := "(IID[D)D" } : Jvm.MethodName) method_3_code (6 : Nat) (Option.some Jvm.ClassFile.FieldType.double)]
set_option maxRecDepth 65536 in
theorem codes_eq : words1.filter isCode = codes1 := rfl
theorem w_codes : ∀ c ∈ words1.filter isCode, c.before args0 about1 = true := by
  rw [codes_eq]
  intro c hc
  simp only [codes1, List.mem_cons, List.not_mem_nil, or_false] at hc
  rcases hc with rfl | rfl | rfl | rfl | rfl | rfl | rfl | rfl | rfl | rfl | rfl | rfl | rfl | rfl
  · exact w_c0
  · exact w_c1
  · exact w_c2
  · exact w_c3
  · exact w_c4
  · exact w_c5
  · exact w_c6
  · exact w_c7
  · exact w_c8
  · exact w_c9
  · exact w_c10
  · exact w_c11
  · exact w_c12
  · exact w_c13
set_option maxRecDepth 65536 in
theorem w_t1 : (words1.take 24).all (fun c => isCode c || c.before args0 about1) = true := by decide +kernel
set_option maxRecDepth 65536 in
theorem w_t2 : ((words1.drop 24).take 24).all (fun c => isCode c || c.before args0 about1) = true := by decide +kernel
set_option maxRecDepth 65536 in
theorem w_t3 : ((words1.drop 24).drop 24).all (fun c => isCode c || c.before args0 about1) = true := by decide +kernel
theorem w_tables : (allAtoms (Jvm.Cond.code x code maxLocals ret :: tables_1)).before args0 about1 = true := by
  rw [allAtoms_all]
  show words1.all (fun c => c.before args0 about1) = true
  refine all_split ?_ w_codes
  rw [← List.take_append_drop 24 words1, List.all_append, w_t1, ← List.take_append_drop 24 (words1.drop 24), List.all_append, w_t2, w_t3]
  rfl
set_option maxRecDepth 65536 in
theorem w_case : (Jvm.Cond.and given_1 narrow_1).before args0 about1 = true := by decide +kernel
theorem w_applies : (headSpec (Jvm.Cond.code x code maxLocals ret :: tables_1) room_1).applies x e0.platform about1 = true :=
  (Spec.applies_iff w_frames).mpr ⟨w_running, w_runnable, w_alone, w_named, w_hears, w_ripe, w_room, w_tables⟩
theorem atStart : AtStart classFile x code maxLocals ret World_1 tables_1 room_1 Calls_1 rest_1 Pre_1 launch0 p0 e0 about1 theMethod args0 below0 :=
  ⟨lists_1, trivial, launch0.admits_env _ _ _, launch0.least_env, fairChoices_fair.cas, fairChoices_fair.clock, w_frames, w_args, w_heap, w_applies, trivial, trivial, w_case⟩
end start1
theorem witness_1 : WitnessClaimed_1 := ⟨start1.p0, start1.e0, start1.about1, start1.theMethod, start1.args0, start1.below0, start1.atStart⟩
end Jvm.Pilot.@@N@@
