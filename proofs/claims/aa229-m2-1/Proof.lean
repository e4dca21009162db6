import JvmDerived
import JvmDerived.Pilot.@@N@@Statement
import JvmDerived.Pilot.@@N@@Code
set_option linter.unusedVariables false
set_option linter.unusedSimpArgs false
namespace Jvm.OwnGo
open Jvm Sem ClassFile Op Lib Jvm.Stand Jvm.Free Jvm.LawKit Jvm.RoadKit
/-! ## 1. where a walk stands, and how it ends -/
/-- a walk may bear one more word on its base; KT: none -/
def KT : State → Prop := fun _ => True
def Ctx (K : State → Prop) (Z : State) (y : MethodName) (bytes : ByteArray) (ml : Nat) (ret : Option FieldType) (p : Program) (s : State) (m : MethodId) (meth : Method) (c : Code) : Prop :=
  p.tables.exec = Jvm.exec ∧ c.code = bytes ∧ c.maxLocals = ml ∧ s.vm.findClass y.cls = some m.cls ∧ Z.Warmed39 s.vm ∧ meth.sig.returnType = ret ∧ meth.locks = false ∧ meth.name = y.name ∧ K s
/-- what the walk's base has to do with the method's start: the same, or (where literals may be made) the start under later tables -/
def Base (wd : Bool) (s0 s : State) (h : Heap) : Prop := if wd = true then ∃ vm0 k0, s = s0.setVm vm0 ∧ s0.Since vm0 k0 ∧ k0 ≤ h.size else s = s0
def EndK (wd : Bool) (s0 : State) (o : Outcome) (t : State) (L : List Loc) (k n : Nat) : Prop := if wd = true then ReturnedEndW s0 o t L k n else FrameEnd s0 o t L k n
def Ends (wd : Bool) (n0 kc ks : Nat) (Q : Option Value → Heap → Prop) (p : Program) (e : Env) (below : List Frame) (s0 T : State) (g : JFrame) : Prop :=
  ∃ s₂ o, Steps p.tables e below (T.setTop g) s₂ ∧ s₂.status = .running ∧ Ended s₂ below o ∧ ∃ v L, o = .returned v ∧ (Q v s₂.heap ∧ Fr n0 L) ∧ EndK wd s0 o s₂ L kc ks
def Go (wd : Bool) (K : State → Prop) (l : Launch) (Z : State) (R : Room) (y : MethodName) (bytes : ByteArray) (ml : Nat) (ret : Option FieldType) (n0 kc ks : Nat) (Q : Option Value → Heap → Prop) (h : Heap) (k n pc : Nat) (ls : List Slot) (st : List Value) : Prop :=
  ∀ (p : Program) (e : Env) (s0 s : State) (m : MethodId) (args : Array Value) (below : List Frame) (meth : Method) (c : Code) (T : State) (L : List Loc),
    Base wd s0 s h → Ctx K Z y bytes ml ret p s m meth c → Stand p l e R s m args below meth c T L k n → T.heap = h → Fr n0 L → Ends wd n0 kc ks Q p e below s0 T (mkF m pc ls.toArray st)
/-- a contract: what a body leaves, called with the values as' over the heap h -/
def Con (wd : Bool) (l : Launch) (Z : State) (y : MethodName) (bytes : ByteArray) (ml : Nat) (ret : Option FieldType) (rm : Room) (as' : Array Value) (h : Heap) (n0 : Nat) (Q : Option Value → Heap → Prop) : Prop :=
  ∀ ws : List Cond, MetFree l y (head1 (Cond.code y bytes ml ret :: ws) rm) (fun a U => a = as' ∧ Z.Warmed39 U.vm ∧ U.heap = h) (fun _ _ _ _ _ => True)
    (fun _ U o U' => ∃ v L, o = .returned v ∧ ((Q v U'.heap ∧ h.size ≤ U'.heap.size) ∧ Fr n0 L) ∧ EndK wd U o U' L rm.cells rm.slots)
/-- it returns a value -/
def R1 (P : Value → Heap → Prop) : Option Value → Heap → Prop := fun v h => ∃ w, v = some w ∧ P w h
/-- it returns nothing -/
def R0 (P : Heap → Prop) : Option Value → Heap → Prop := fun v h => v = none ∧ P h
/-- it returns this value and leaves the heap as it was -/
abbrev Ret (w : Value) (h : Heap) : Option Value → Heap → Prop := R1 fun w' h' => w' = w ∧ h = h'
/-- a local variable written over -/
def setl : List Slot → Nat → Slot → List Slot
  | [], _, _ => []
  | _ :: r, 0, x => x :: r
  | a :: r, i + 1, x => a :: setl r i x
def lupd {α : Type} : List α → Nat → α → List α
  | [], _, _ => []
  | _ :: r, 0, x => x :: r
  | a :: r, i + 1, x => a :: lupd r i x
def one : Slot → Bool
  | .unset => true
  | .val v => v.category == 1
  | .second => false
def two : Slot → Slot → Bool
  | .val v, .second => v.category == 2
  | a, b => one a && one b
def Dc (bytes : ByteArray) (pc : Nat) (i : Instr) (len pc' : Nat) : Prop := decode bytes pc = .ok (i, len) ∧ pc + len = pc'
def Dp (bytes : ByteArray) (pc : Nat) (v : Int32) (pc' : Nat) : Prop := (∃ i, decode bytes pc = .ok (.iconst i, 1) ∧ Int32.ofInt i = v ∧ pc + 1 = pc') ∨ (∃ i, decode bytes pc = .ok (.bipush i, 2) ∧ (Int8.ofInt i).toInt32 = v ∧ pc + 2 = pc') ∨ (∃ i, decode bytes pc = .ok (.sipush i, 3) ∧ (Int16.ofInt i).toInt32 = v ∧ pc + 3 = pc')
def Dlc (bytes : ByteArray) (pc : Nat) (v : Int64) (pc' : Nat) : Prop := ∃ k : Fin 2, decode bytes pc = .ok (.lconst k, 1) ∧ Int64.ofNat k = v ∧ pc + 1 = pc'
/-- a branch: where it goes on, and where it leads -/
def Db (bytes : ByteArray) (pc : Nat) (f : Int → Instr) (pc' tg : Nat) : Prop := ∃ o : Int, decode bytes pc = .ok (f o, 3) ∧ pc + 3 = pc' ∧ 0 ≤ (pc : Int) + o ∧ ((pc : Int) + o).toNat = tg
def Dld (bytes : ByteArray) (pc : Nat) (f : Nat → Instr) (fn : Fin 4 → Instr) (i pc' : Nat) : Prop := (decode bytes pc = .ok (f i, 2) ∧ pc + 2 = pc') ∨ (∃ k : Fin 4, decode bytes pc = .ok (fn k, 1) ∧ k.val = i ∧ pc + 1 = pc')
def Dinc (bytes : ByteArray) (pc i : Nat) (v : Int32) (pc' : Nat) : Prop := ∃ c : Int, decode bytes pc = .ok (.iinc i c, 3) ∧ Int32.ofInt c = v ∧ pc + 3 = pc'
/-- the same, by the instructions' sorts -/
abbrev Dil (b : ByteArray) (pc i pc' : Nat) : Prop := Dld b pc .iload .iload_n i pc'
abbrev Dal (b : ByteArray) (pc i pc' : Nat) : Prop := Dld b pc .aload .aload_n i pc'
abbrev Dll (b : ByteArray) (pc i pc' : Nat) : Prop := Dld b pc .lload .lload_n i pc'
abbrev Dis (b : ByteArray) (pc i pc' : Nat) : Prop := Dld b pc .istore .istore_n i pc'
abbrev Das (b : ByteArray) (pc i pc' : Nat) : Prop := Dld b pc .astore .astore_n i pc'
abbrev Dls (b : ByteArray) (pc i pc' : Nat) : Prop := Dld b pc .lstore .lstore_n i pc'
section Walk
variable {wd : Bool} {K₀ : State → Prop} {l : Launch} {Z : State} {R : Room} {y : MethodName} {bytes : ByteArray} {ml : Nat} {ret : Option FieldType} {n0 kc ks : Nat} {Q : Option Value → Heap → Prop} {h : Heap} {k n pc pc' tg i : Nat} {ls : List Slot} {st : List Value} {a0 : Array Value}
theorem lrem64 (x y : Int64) : x - x / y * y = x % y := by
  apply Int64.toInt_inj.mp
  have h1 := Int64.le_toInt (x % y)
  have h2 := Int64.toInt_lt (x % y)
  rw [Int64.toInt_sub, Int64.toInt_mul, Int64.toInt_div, Int.bmod_mul_bmod, Int.sub_bmod_bmod, Int.mul_comm (x.toInt.tdiv y.toInt), ← Int.tmod_def, ← Int64.toInt_mod]
  exact Int.bmod_eq_of_le_mul_two (by omega) (by omega)
theorem setl_arr : ∀ (ls : List Slot) (i : Nat) (x : Slot), (setl ls i x).toArray = ls.toArray.setIfInBounds i x := by
  intro ls i x
  rw [List.setIfInBounds_toArray]
  congr 1
  induction ls generalizing i with
  | nil => simp [setl]
  | cons a r ih => cases i with
    | zero => simp [setl]
    | succ i => simp [setl, ih]
theorem setl_len : ∀ (ls : List Slot) (i : Nat) (x : Slot), (setl ls i x).length = ls.length := by
  intro ls i x
  induction ls generalizing i with
  | nil => rfl
  | cons a r ih => cases i with
    | zero => rfl
    | succ i => simp [setl, ih]
theorem upd_set {α : Type} : ∀ (ls : List α) (i : Nat) (x : α), lupd ls i x = ls.set i x := by
  intro ls i x
  induction ls generalizing i with
  | nil => simp [lupd]
  | cons a r ih => cases i with
    | zero => simp [lupd]
    | succ i => simp [lupd, ih]
theorem setl_get {ls : List Slot} {i : Nat} {x o : Slot} (h : ls[i]? = some o) (j : Nat) : (setl ls i x)[j]? = if j = i then some x else ls[j]? := by
  induction ls generalizing i j with
  | nil => simp at h
  | cons a r ih => cases i with
    | zero => cases j <;> simp [setl]
    | succ i => cases j with
      | zero => simp [setl]
      | succ j => simp only [setl, List.getElem?_cons_succ] at h ⊢; rw [ih h j]; simp
theorem Base.mono {s0 s : State} {h' : Heap} (B : Base wd s0 s h) (q : h.size ≤ h'.size) : Base wd s0 s h' := by
  cases wd
  · exact B
  · obtain ⟨vm0, k0, e1, e2, e3⟩ := B; exact ⟨vm0, k0, e1, e2, Nat.le_trans e3 q⟩
theorem Base.start (s : State) (hh : s.heap = h) : Base wd s s h := by
  cases wd
  · exact (rfl : s = s)
  · exact ⟨s.vm, h.size, rfl, (State.WarmedH.refl s).since _, Nat.le_refl _⟩
theorem EndK.size {s0 t : State} {o : Outcome} {L : List Loc} {k n : Nat} (E : EndK wd s0 o t L k n) : s0.heap.size ≤ t.heap.size := by
  cases wd
  · exact E.2.2.2.1
  · exact E.2.2.2.2.1
theorem endK {s0 s T : State} {fs : List Frame} {v : Option Value} {L : List Loc} (B : Base wd s0 s h) (hh : T.heap = h) (hW : s.WarmedH (T.setFrames fs).vm) (hsame : s.sameButNew ({ T.setFrames fs with vm := s.vm } : State) L k n) (hk : k ≤ kc) (hn : n ≤ ks) : EndK wd s0 (.returned v) (T.setFrames fs) L kc ks := by
  cases wd
  · have e : s = s0 := B
    subst e
    exact ⟨⟨_, rfl⟩, hW, hsame.mono hk hn⟩
  · obtain ⟨vm0, k0, rfl, hS, hk0⟩ := B
    obtain ⟨a1, a2, a3⟩ := hS.ended (U := T.setFrames fs) hW (by show k0 ≤ T.heap.size; rw [hh]; exact hk0) hsame
    exact ⟨⟨_, rfl⟩, a1, a2, a3.mono hk hn⟩
theorem Ends.pre {p : Program} {e : Env} {below : List Frame} {s0 T T' : State} {g g' : JFrame} (E : Ends wd n0 kc ks Q p e below s0 T' g') (st : ∀ t, Steps p.tables e below (T'.setTop g') t → Steps p.tables e below (T.setTop g) t) : Ends wd n0 kc ks Q p e below s0 T g := by
  obtain ⟨s₂, o, h1, r⟩ := E; exact ⟨s₂, o, st _ h1, r⟩
theorem go_pure {ls' : List Slot} {st' : List Value} (G : Go wd K₀ l Z R y bytes ml ret n0 kc ks Q h k n pc' ls' st') (H : ∀ {p : Program} {e : Env} {s : State} {m : MethodId} {args : Array Value} {below : List Frame} {meth : Method} {c : Code} {T : State} {L : List Loc}, Ctx K₀ Z y bytes ml ret p s m meth c → Stand p l e R s m args below meth c T L k n →
    ∀ t, Steps p.tables e below (T.setTop (mkF m pc' ls'.toArray st')) t → Steps p.tables e below (T.setTop (mkF m pc ls.toArray st)) t) : Go wd K₀ l Z R y bytes ml ret n0 kc ks Q h k n pc ls st :=
  fun p e s0 s m args below meth c T L B C X hh N => (G p e s0 s m args below meth c T L B C X hh N).pre (H C X)
theorem go_more {k' n' : Nat} (hk : k ≤ k') (hn : n ≤ n') (G : Go wd K₀ l Z R y bytes ml ret n0 kc ks Q h k' n' pc ls st) : Go wd K₀ l Z R y bytes ml ret n0 kc ks Q h k n pc ls st :=
  fun p e s0 s m args below meth c T L B C X hh N => G p e s0 s m args below meth c T L B C (X.more hk hn) hh N
theorem go_nameI {x : Int32} (G : ∀ v : Int32, v = x → Go wd K₀ l Z R y bytes ml ret n0 kc ks Q h k n pc ls (.int v :: st)) : Go wd K₀ l Z R y bytes ml ret n0 kc ks Q h k n pc ls (.int x :: st) := G x rfl
theorem go_nameJ {x : Int64} (G : ∀ v : Int64, v = x → Go wd K₀ l Z R y bytes ml ret n0 kc ks Q h k n pc ls (.long v :: st)) : Go wd K₀ l Z R y bytes ml ret n0 kc ks Q h k n pc ls (.long x :: st) := G x rfl
theorem go_isI {x : Int32} (x' : Int32) (q : x = x') (G : Go wd K₀ l Z R y bytes ml ret n0 kc ks Q h k n pc ls (.int x' :: st)) : Go wd K₀ l Z R y bytes ml ret n0 kc ks Q h k n pc ls (.int x :: st) := q ▸ G
theorem go_isJ {x : Int64} (x' : Int64) (q : x = x') (G : Go wd K₀ l Z R y bytes ml ret n0 kc ks Q h k n pc ls (.long x' :: st)) : Go wd K₀ l Z R y bytes ml ret n0 kc ks Q h k n pc ls (.long x :: st) := q ▸ G
theorem go_iload {v : Int32} (D : Dil bytes pc i pc') (hl : ls[i]? = some (.val (.int v))) (G : Go wd K₀ l Z R y bytes ml ret n0 kc ks Q h k n pc' ls (.int v :: st)) : Go wd K₀ l Z R y bytes ml ret n0 kc ks Q h k n pc ls st := by
  rcases D with ⟨hd, rfl⟩ | ⟨kk, hd, rfl, rfl⟩
  · exact go_pure G (fun C X t => XS.iload X.here C.1 (g := mkF _ pc ls.toArray st) rfl (hb C.2.1 hd) (by simpa using hl))
  · exact go_pure G (fun C X t => XS.iloadN X.here C.1 (g := mkF _ pc ls.toArray st) rfl (hb C.2.1 hd) (by simpa using hl))
theorem go_lload {v : Int64} (D : Dll bytes pc i pc') (hl : ls[i]? = some (.val (.long v))) (G : Go wd K₀ l Z R y bytes ml ret n0 kc ks Q h k n pc' ls (.long v :: st)) : Go wd K₀ l Z R y bytes ml ret n0 kc ks Q h k n pc ls st := by
  rcases D with ⟨hd, rfl⟩ | ⟨kk, hd, rfl, rfl⟩
  · exact go_pure G (fun C X t => XT.lload X.here C.1 (g := mkF _ pc ls.toArray st) rfl (hb C.2.1 hd) (by simpa using hl))
  · exact go_pure G (fun C X t => XT.lloadN X.here C.1 (g := mkF _ pc ls.toArray st) rfl (hb C.2.1 hd) (by simpa using hl))
theorem go_aload {v : Value} (D : Dal bytes pc i pc') (hl : ls[i]? = some (.val v)) (hv : v.isRef = true) (G : Go wd K₀ l Z R y bytes ml ret n0 kc ks Q h k n pc' ls (v :: st)) : Go wd K₀ l Z R y bytes ml ret n0 kc ks Q h k n pc ls st := by
  rcases D with ⟨hd, rfl⟩ | ⟨kk, hd, rfl, rfl⟩
  · exact go_pure G (fun C X t => XS.aload X.here C.1 (g := mkF _ pc ls.toArray st) rfl (hb C.2.1 hd) (by simpa using hl) hv)
  · exact go_pure G (fun C X t => XS.aloadN X.here C.1 (g := mkF _ pc ls.toArray st) rfl (hb C.2.1 hd) (by simpa using hl) hv)
theorem store_one {ls : List Slot} {i : Nat} {v : Value} {o : Slot} (hv : v.category = 1) (hl : ls[i]? = some o) (ho : one o = true) : storeLocals ls.toArray i v = some (setl ls i (.val v)).toArray := by
  rw [setl_arr]
  refine storeLocals_cat1 (x := o) (by simpa using hl) hv ?_
  cases o <;> simp [one] at ho ⊢
  exact ho
theorem store_two {ls : List Slot} {i : Nat} {v : Value} {o o' : Slot} (hv : v.category = 2) (hl : ls[i]? = some o) (hl' : ls[i + 1]? = some o') (ho : two o o' = true) : storeLocals ls.toArray i v = some (setl (setl ls i (.val v)) (i + 1) .second).toArray := by
  rw [setl_arr, setl_arr]
  refine Jvm.Free.Fl.storeLocals_cat2 (by simpa using hl) (by simpa using hl') hv ?_
  cases o <;> cases o' <;> simp_all [two, one, Jvm.Free.Fl.Plain1]
theorem go_istore {x : Int32} {o : Slot} (D : Dis bytes pc i pc') (hl : ls[i]? = some o) (ho : one o = true) (G : Go wd K₀ l Z R y bytes ml ret n0 kc ks Q h k n pc' (setl ls i (.val (.int x))) st) : Go wd K₀ l Z R y bytes ml ret n0 kc ks Q h k n pc ls (.int x :: st) := by
  rcases D with ⟨hd, rfl⟩ | ⟨kk, hd, rfl, rfl⟩
  · exact go_pure G (fun C X t => XS.istore X.here C.1 (g := mkF _ pc ls.toArray (.int x :: st)) rfl (hb C.2.1 hd) rfl (store_one rfl hl ho))
  · exact go_pure G (fun C X t => XS.istoreN X.here C.1 (g := mkF _ pc ls.toArray (.int x :: st)) rfl (hb C.2.1 hd) rfl (store_one rfl hl ho))
theorem go_astore {x : Value} {o : Slot} (D : Das bytes pc i pc') (hv : x.isRef = true) (hl : ls[i]? = some o) (ho : one o = true) (G : Go wd K₀ l Z R y bytes ml ret n0 kc ks Q h k n pc' (setl ls i (.val x)) st) : Go wd K₀ l Z R y bytes ml ret n0 kc ks Q h k n pc ls (x :: st) := by
  have hc : x.category = 1 := XT.cat1 hv
  rcases D with ⟨hd, rfl⟩ | ⟨kk, hd, rfl, rfl⟩
  · exact go_pure G (fun C X t => XS.astore X.here C.1 (g := mkF _ pc ls.toArray (x :: st)) rfl (hb C.2.1 hd) rfl hv (store_one hc hl ho))
  · exact go_pure G (fun C X t => XS.astoreN X.here C.1 (g := mkF _ pc ls.toArray (x :: st)) rfl (hb C.2.1 hd) rfl hv (store_one hc hl ho))
theorem go_lstore {x : Int64} {o o' : Slot} (D : Dls bytes pc i pc') (hl : ls[i]? = some o) (hl' : ls[i + 1]? = some o') (ho : two o o' = true) (G : Go wd K₀ l Z R y bytes ml ret n0 kc ks Q h k n pc' (setl (setl ls i (.val (.long x))) (i + 1) .second) st) : Go wd K₀ l Z R y bytes ml ret n0 kc ks Q h k n pc ls (.long x :: st) := by
  rcases D with ⟨hd, rfl⟩ | ⟨kk, hd, rfl, rfl⟩
  · exact go_pure G (fun C X t => XT.lstore X.here C.1 (g := mkF _ pc ls.toArray (.long x :: st)) rfl (hb C.2.1 hd) rfl (store_two rfl hl hl' ho))
  · exact go_pure G (fun C X t => XT.lstoreN X.here C.1 (g := mkF _ pc ls.toArray (.long x :: st)) rfl (hb C.2.1 hd) rfl (store_two rfl hl hl' ho))
/-- any store, the locals said -/
theorem go_istoreX {x : Int32} {ls' : List Slot} (D : Dis bytes pc i pc') (hl : storeLocals ls.toArray i (.int x) = some ls'.toArray) (G : Go wd K₀ l Z R y bytes ml ret n0 kc ks Q h k n pc' ls' st) : Go wd K₀ l Z R y bytes ml ret n0 kc ks Q h k n pc ls (.int x :: st) := by
  rcases D with ⟨hd, rfl⟩ | ⟨kk, hd, rfl, rfl⟩
  · exact go_pure G (fun C X t => XS.istore X.here C.1 (g := mkF _ pc ls.toArray (.int x :: st)) rfl (hb C.2.1 hd) rfl hl)
  · exact go_pure G (fun C X t => XS.istoreN X.here C.1 (g := mkF _ pc ls.toArray (.int x :: st)) rfl (hb C.2.1 hd) rfl hl)
theorem go_astoreX {x : Value} {ls' : List Slot} (D : Das bytes pc i pc') (hv : x.isRef = true) (hl : storeLocals ls.toArray i x = some ls'.toArray) (G : Go wd K₀ l Z R y bytes ml ret n0 kc ks Q h k n pc' ls' st) : Go wd K₀ l Z R y bytes ml ret n0 kc ks Q h k n pc ls (x :: st) := by
  rcases D with ⟨hd, rfl⟩ | ⟨kk, hd, rfl, rfl⟩
  · exact go_pure G (fun C X t => XS.astore X.here C.1 (g := mkF _ pc ls.toArray (x :: st)) rfl (hb C.2.1 hd) rfl hv hl)
  · exact go_pure G (fun C X t => XS.astoreN X.here C.1 (g := mkF _ pc ls.toArray (x :: st)) rfl (hb C.2.1 hd) rfl hv hl)
theorem go_lstoreX {x : Int64} {ls' : List Slot} (D : Dls bytes pc i pc') (hl : storeLocals ls.toArray i (.long x) = some ls'.toArray) (G : Go wd K₀ l Z R y bytes ml ret n0 kc ks Q h k n pc' ls' st) : Go wd K₀ l Z R y bytes ml ret n0 kc ks Q h k n pc ls (.long x :: st) := by
  rcases D with ⟨hd, rfl⟩ | ⟨kk, hd, rfl, rfl⟩
  · exact go_pure G (fun C X t => XT.lstore X.here C.1 (g := mkF _ pc ls.toArray (.long x :: st)) rfl (hb C.2.1 hd) rfl hl)
  · exact go_pure G (fun C X t => XT.lstoreN X.here C.1 (g := mkF _ pc ls.toArray (.long x :: st)) rfl (hb C.2.1 hd) rfl hl)
theorem go_iinc {x v : Int32} (D : Dinc bytes pc i v pc') (hl : ls[i]? = some (.val (.int x))) (G : Go wd K₀ l Z R y bytes ml ret n0 kc ks Q h k n pc' (setl ls i (.val (.int (x + v)))) st) : Go wd K₀ l Z R y bytes ml ret n0 kc ks Q h k n pc ls st := by
  obtain ⟨c, hd, rfl, rfl⟩ := D
  exact go_pure G (fun C X t => XS.iinc X.here C.1 (g := mkF _ pc ls.toArray st) rfl (hb C.2.1 hd) (by simpa using hl) (store_one rfl hl rfl))
theorem go_iincX {x v x' : Int32} (D : Dinc bytes pc i v pc') (hl : ls[i]? = some (.val (.int x))) (q : x + v = x') (G : Go wd K₀ l Z R y bytes ml ret n0 kc ks Q h k n pc' (setl ls i (.val (.int x'))) st) : Go wd K₀ l Z R y bytes ml ret n0 kc ks Q h k n pc ls st := go_iinc D hl (q ▸ G)
theorem go_push {v : Int32} (D : Dp bytes pc v pc') (G : Go wd K₀ l Z R y bytes ml ret n0 kc ks Q h k n pc' ls (.int v :: st)) : Go wd K₀ l Z R y bytes ml ret n0 kc ks Q h k n pc ls st := by
  rcases D with ⟨_, hd, rfl, rfl⟩ | ⟨_, hd, rfl, rfl⟩ | ⟨_, hd, rfl, rfl⟩
  · exact go_pure G (fun C X t => XS.iconst X.here C.1 (g := mkF _ pc ls.toArray st) rfl (hb C.2.1 hd))
  · exact go_pure G (fun C X t => XS.bipush X.here C.1 (g := mkF _ pc ls.toArray st) rfl (hb C.2.1 hd))
  · exact go_pure G (fun C X t => XS.sipush X.here C.1 (g := mkF _ pc ls.toArray st) rfl (hb C.2.1 hd))
theorem go_lconst {v : Int64} (D : Dlc bytes pc v pc') (G : Go wd K₀ l Z R y bytes ml ret n0 kc ks Q h k n pc' ls (.long v :: st)) : Go wd K₀ l Z R y bytes ml ret n0 kc ks Q h k n pc ls st := by
  obtain ⟨_, hd, rfl, rfl⟩ := D
  exact go_pure G (fun C X t => XT.lconst X.here C.1 (g := mkF _ pc ls.toArray st) rfl (hb C.2.1 hd))
theorem go_null (D : Dc bytes pc .aconst_null 1 pc') (G : Go wd K₀ l Z R y bytes ml ret n0 kc ks Q h k n pc' ls (.null :: st)) : Go wd K₀ l Z R y bytes ml ret n0 kc ks Q h k n pc ls st := by
  obtain ⟨hd, rfl⟩ := D
  exact go_pure G (fun C X t => XS.aconstNull X.here C.1 (g := mkF _ pc ls.toArray st) rfl (hb C.2.1 hd))
theorem go_iadd {a : Int32} {b : Int32} (D : Dc bytes pc .iadd 1 pc') (G : Go wd K₀ l Z R y bytes ml ret n0 kc ks Q h k n pc' ls (.int (a + b) :: st)) : Go wd K₀ l Z R y bytes ml ret n0 kc ks Q h k n pc ls (.int b :: .int a :: st) := by
  obtain ⟨hd, rfl⟩ := D
  exact go_pure G (fun C X t => XS.iadd X.here C.1 (g := mkF _ pc ls.toArray (.int b :: .int a :: st)) rfl (hb C.2.1 hd) rfl)
theorem go_isub {a : Int32} {b : Int32} (D : Dc bytes pc .isub 1 pc') (G : Go wd K₀ l Z R y bytes ml ret n0 kc ks Q h k n pc' ls (.int (a - b) :: st)) : Go wd K₀ l Z R y bytes ml ret n0 kc ks Q h k n pc ls (.int b :: .int a :: st) := by
  obtain ⟨hd, rfl⟩ := D
  exact go_pure G (fun C X t => XS.isub X.here C.1 (g := mkF _ pc ls.toArray (.int b :: .int a :: st)) rfl (hb C.2.1 hd) rfl)
theorem go_imul {a : Int32} {b : Int32} (D : Dc bytes pc .imul 1 pc') (G : Go wd K₀ l Z R y bytes ml ret n0 kc ks Q h k n pc' ls (.int (a * b) :: st)) : Go wd K₀ l Z R y bytes ml ret n0 kc ks Q h k n pc ls (.int b :: .int a :: st) := by
  obtain ⟨hd, rfl⟩ := D
  exact go_pure G (fun C X t => XS.imul X.here C.1 (g := mkF _ pc ls.toArray (.int b :: .int a :: st)) rfl (hb C.2.1 hd) rfl)
theorem go_iand {a : Int32} {b : Int32} (D : Dc bytes pc .iand 1 pc') (G : Go wd K₀ l Z R y bytes ml ret n0 kc ks Q h k n pc' ls (.int (a &&& b) :: st)) : Go wd K₀ l Z R y bytes ml ret n0 kc ks Q h k n pc ls (.int b :: .int a :: st) := by
  obtain ⟨hd, rfl⟩ := D
  exact go_pure G (fun C X t => XS.iand X.here C.1 (g := mkF _ pc ls.toArray (.int b :: .int a :: st)) rfl (hb C.2.1 hd) rfl)
theorem go_ior {a : Int32} {b : Int32} (D : Dc bytes pc .ior 1 pc') (G : Go wd K₀ l Z R y bytes ml ret n0 kc ks Q h k n pc' ls (.int (a ||| b) :: st)) : Go wd K₀ l Z R y bytes ml ret n0 kc ks Q h k n pc ls (.int b :: .int a :: st) := by
  obtain ⟨hd, rfl⟩ := D
  exact go_pure G (fun C X t => XT.ior X.here C.1 (g := mkF _ pc ls.toArray (.int b :: .int a :: st)) rfl (hb C.2.1 hd) rfl)
theorem go_ixor {a : Int32} {b : Int32} (D : Dc bytes pc .ixor 1 pc') (G : Go wd K₀ l Z R y bytes ml ret n0 kc ks Q h k n pc' ls (.int (a ^^^ b) :: st)) : Go wd K₀ l Z R y bytes ml ret n0 kc ks Q h k n pc ls (.int b :: .int a :: st) := by
  obtain ⟨hd, rfl⟩ := D
  exact go_pure G (fun C X t => XT.ixor X.here C.1 (g := mkF _ pc ls.toArray (.int b :: .int a :: st)) rfl (hb C.2.1 hd) rfl)
theorem go_idiv {a : Int32} {b : Int32} (D : Dc bytes pc .idiv 1 pc') (hz : b ≠ 0) (G : Go wd K₀ l Z R y bytes ml ret n0 kc ks Q h k n pc' ls (.int (a / b) :: st)) : Go wd K₀ l Z R y bytes ml ret n0 kc ks Q h k n pc ls (.int b :: .int a :: st) := by
  obtain ⟨hd, rfl⟩ := D
  exact go_pure G (fun C X t => XS.idiv X.here C.1 (g := mkF _ pc ls.toArray (.int b :: .int a :: st)) rfl (hb C.2.1 hd) rfl hz)
theorem go_ladd {a : Int64} {b : Int64} (D : Dc bytes pc .ladd 1 pc') (G : Go wd K₀ l Z R y bytes ml ret n0 kc ks Q h k n pc' ls (.long (a + b) :: st)) : Go wd K₀ l Z R y bytes ml ret n0 kc ks Q h k n pc ls (.long b :: .long a :: st) := by
  obtain ⟨hd, rfl⟩ := D
  exact go_pure G (fun C X t => XT.ladd X.here C.1 (g := mkF _ pc ls.toArray (.long b :: .long a :: st)) rfl (hb C.2.1 hd) rfl)
theorem go_lsub {a : Int64} {b : Int64} (D : Dc bytes pc .lsub 1 pc') (G : Go wd K₀ l Z R y bytes ml ret n0 kc ks Q h k n pc' ls (.long (a - b) :: st)) : Go wd K₀ l Z R y bytes ml ret n0 kc ks Q h k n pc ls (.long b :: .long a :: st) := by
  obtain ⟨hd, rfl⟩ := D
  exact go_pure G (fun C X t => XT.lsub X.here C.1 (g := mkF _ pc ls.toArray (.long b :: .long a :: st)) rfl (hb C.2.1 hd) rfl)
theorem go_lmul {a : Int64} {b : Int64} (D : Dc bytes pc .lmul 1 pc') (G : Go wd K₀ l Z R y bytes ml ret n0 kc ks Q h k n pc' ls (.long (a * b) :: st)) : Go wd K₀ l Z R y bytes ml ret n0 kc ks Q h k n pc ls (.long b :: .long a :: st) := by
  obtain ⟨hd, rfl⟩ := D
  exact go_pure G (fun C X t => XT.lmul X.here C.1 (g := mkF _ pc ls.toArray (.long b :: .long a :: st)) rfl (hb C.2.1 hd) rfl)
theorem go_land {a : Int64} {b : Int64} (D : Dc bytes pc .land 1 pc') (G : Go wd K₀ l Z R y bytes ml ret n0 kc ks Q h k n pc' ls (.long (a &&& b) :: st)) : Go wd K₀ l Z R y bytes ml ret n0 kc ks Q h k n pc ls (.long b :: .long a :: st) := by
  obtain ⟨hd, rfl⟩ := D
  exact go_pure G (fun C X t => XT.land X.here C.1 (g := mkF _ pc ls.toArray (.long b :: .long a :: st)) rfl (hb C.2.1 hd) rfl)
theorem go_lor {a : Int64} {b : Int64} (D : Dc bytes pc .lor 1 pc') (G : Go wd K₀ l Z R y bytes ml ret n0 kc ks Q h k n pc' ls (.long (a ||| b) :: st)) : Go wd K₀ l Z R y bytes ml ret n0 kc ks Q h k n pc ls (.long b :: .long a :: st) := by
  obtain ⟨hd, rfl⟩ := D
  exact go_pure G (fun C X t => XT.lor X.here C.1 (g := mkF _ pc ls.toArray (.long b :: .long a :: st)) rfl (hb C.2.1 hd) rfl)
theorem go_lxor {a : Int64} {b : Int64} (D : Dc bytes pc .lxor 1 pc') (G : Go wd K₀ l Z R y bytes ml ret n0 kc ks Q h k n pc' ls (.long (a ^^^ b) :: st)) : Go wd K₀ l Z R y bytes ml ret n0 kc ks Q h k n pc ls (.long b :: .long a :: st) := by
  obtain ⟨hd, rfl⟩ := D
  exact go_pure G (fun C X t => XT.lxor X.here C.1 (g := mkF _ pc ls.toArray (.long b :: .long a :: st)) rfl (hb C.2.1 hd) rfl)
theorem go_ldiv {a : Int64} {b : Int64} (D : Dc bytes pc .ldiv 1 pc') (hz : b ≠ 0) (G : Go wd K₀ l Z R y bytes ml ret n0 kc ks Q h k n pc' ls (.long (a / b) :: st)) : Go wd K₀ l Z R y bytes ml ret n0 kc ks Q h k n pc ls (.long b :: .long a :: st) := by
  obtain ⟨hd, rfl⟩ := D
  exact go_pure G (fun C X t => XT.ldiv X.here C.1 (g := mkF _ pc ls.toArray (.long b :: .long a :: st)) rfl (hb C.2.1 hd) rfl hz)
theorem go_ishl {a : Int32} {b : Int32} (D : Dc bytes pc .ishl 1 pc') (G : Go wd K₀ l Z R y bytes ml ret n0 kc ks Q h k n pc' ls (.int (a <<< (b &&& 31)) :: st)) : Go wd K₀ l Z R y bytes ml ret n0 kc ks Q h k n pc ls (.int b :: .int a :: st) := by
  obtain ⟨hd, rfl⟩ := D
  exact go_pure G (fun C X t => XT.ishl X.here C.1 (g := mkF _ pc ls.toArray (.int b :: .int a :: st)) rfl (hb C.2.1 hd) rfl)
theorem go_ishr {a : Int32} {b : Int32} (D : Dc bytes pc .ishr 1 pc') (G : Go wd K₀ l Z R y bytes ml ret n0 kc ks Q h k n pc' ls (.int (a >>> (b &&& 31)) :: st)) : Go wd K₀ l Z R y bytes ml ret n0 kc ks Q h k n pc ls (.int b :: .int a :: st) := by
  obtain ⟨hd, rfl⟩ := D
  exact go_pure G (fun C X t => XT.ishr X.here C.1 (g := mkF _ pc ls.toArray (.int b :: .int a :: st)) rfl (hb C.2.1 hd) rfl)
theorem go_iushr {a : Int32} {b : Int32} (D : Dc bytes pc .iushr 1 pc') (G : Go wd K₀ l Z R y bytes ml ret n0 kc ks Q h k n pc' ls (.int (XT.ushr a b) :: st)) : Go wd K₀ l Z R y bytes ml ret n0 kc ks Q h k n pc ls (.int b :: .int a :: st) := by
  obtain ⟨hd, rfl⟩ := D
  exact go_pure G (fun C X t => XT.iushr X.here C.1 (g := mkF _ pc ls.toArray (.int b :: .int a :: st)) rfl (hb C.2.1 hd) rfl)
theorem go_lshl {a : Int64} {b : Int32} (D : Dc bytes pc .lshl 1 pc') (G : Go wd K₀ l Z R y bytes ml ret n0 kc ks Q h k n pc' ls (.long (a <<< (b.toInt64 &&& 63)) :: st)) : Go wd K₀ l Z R y bytes ml ret n0 kc ks Q h k n pc ls (.int b :: .long a :: st) := by
  obtain ⟨hd, rfl⟩ := D
  exact go_pure G (fun C X t => XT.lshl X.here C.1 (g := mkF _ pc ls.toArray (.int b :: .long a :: st)) rfl (hb C.2.1 hd) rfl)
theorem go_lshr {a : Int64} {b : Int32} (D : Dc bytes pc .lshr 1 pc') (G : Go wd K₀ l Z R y bytes ml ret n0 kc ks Q h k n pc' ls (.long (a >>> (b.toInt64 &&& 63)) :: st)) : Go wd K₀ l Z R y bytes ml ret n0 kc ks Q h k n pc ls (.int b :: .long a :: st) := by
  obtain ⟨hd, rfl⟩ := D
  exact go_pure G (fun C X t => XT.lshr X.here C.1 (g := mkF _ pc ls.toArray (.int b :: .long a :: st)) rfl (hb C.2.1 hd) rfl)
theorem go_lushr {a : Int64} {b : Int32} (D : Dc bytes pc .lushr 1 pc') (G : Go wd K₀ l Z R y bytes ml ret n0 kc ks Q h k n pc' ls (.long (XT.ushrL a b) :: st)) : Go wd K₀ l Z R y bytes ml ret n0 kc ks Q h k n pc ls (.int b :: .long a :: st) := by
  obtain ⟨hd, rfl⟩ := D
  exact go_pure G (fun C X t => XT.lushr X.here C.1 (g := mkF _ pc ls.toArray (.int b :: .long a :: st)) rfl (hb C.2.1 hd) rfl)
theorem go_lcmp {a : Int64} {b : Int64} (D : Dc bytes pc .lcmp 1 pc') (G : Go wd K₀ l Z R y bytes ml ret n0 kc ks Q h k n pc' ls (.int (XT.cmpL a b) :: st)) : Go wd K₀ l Z R y bytes ml ret n0 kc ks Q h k n pc ls (.long b :: .long a :: st) := by
  obtain ⟨hd, rfl⟩ := D
  exact go_pure G (fun C X t => XT.lcmp X.here C.1 (g := mkF _ pc ls.toArray (.long b :: .long a :: st)) rfl (hb C.2.1 hd) rfl)
theorem go_irem {a b : Int32} (D : Dc bytes pc .irem 1 pc') (hz : b ≠ 0) (G : Go wd K₀ l Z R y bytes ml ret n0 kc ks Q h k n pc' ls (.int (a % b) :: st)) : Go wd K₀ l Z R y bytes ml ret n0 kc ks Q h k n pc ls (.int b :: .int a :: st) := by
  obtain ⟨hd, rfl⟩ := D
  exact go_pure G (fun C X t hr => iremM X C.1 (g := mkF _ pc ls.toArray (.int b :: .int a :: st)) rfl (hb C.2.1 hd) rfl hz hr)
theorem go_lrem {a b : Int64} (D : Dc bytes pc .lrem 1 pc') (hz : b ≠ 0) (G : Go wd K₀ l Z R y bytes ml ret n0 kc ks Q h k n pc' ls (.long (a % b) :: st)) : Go wd K₀ l Z R y bytes ml ret n0 kc ks Q h k n pc ls (.long b :: .long a :: st) := by
  obtain ⟨hd, rfl⟩ := D
  rw [← lrem64] at G
  exact go_pure G (fun C X t => XT.lrem X.here C.1 (g := mkF _ pc ls.toArray (.long b :: .long a :: st)) rfl (hb C.2.1 hd) rfl hz)
theorem go_ineg {a : Int32} (D : Dc bytes pc .ineg 1 pc') (G : Go wd K₀ l Z R y bytes ml ret n0 kc ks Q h k n pc' ls (.int (-a) :: st)) : Go wd K₀ l Z R y bytes ml ret n0 kc ks Q h k n pc ls (.int a :: st) := by
  obtain ⟨hd, rfl⟩ := D
  exact go_pure G (fun C X t => XS.ineg X.here C.1 (g := mkF _ pc ls.toArray (.int a :: st)) rfl (hb C.2.1 hd) rfl)
theorem go_lneg {a : Int64} (D : Dc bytes pc .lneg 1 pc') (G : Go wd K₀ l Z R y bytes ml ret n0 kc ks Q h k n pc' ls (.long (-a) :: st)) : Go wd K₀ l Z R y bytes ml ret n0 kc ks Q h k n pc ls (.long a :: st) := by
  obtain ⟨hd, rfl⟩ := D
  exact go_pure G (fun C X t => XT.lneg X.here C.1 (g := mkF _ pc ls.toArray (.long a :: st)) rfl (hb C.2.1 hd) rfl)
theorem go_i2l {a : Int32} (D : Dc bytes pc .i2l 1 pc') (G : Go wd K₀ l Z R y bytes ml ret n0 kc ks Q h k n pc' ls (.long a.toInt64 :: st)) : Go wd K₀ l Z R y bytes ml ret n0 kc ks Q h k n pc ls (.int a :: st) := by
  obtain ⟨hd, rfl⟩ := D
  exact go_pure G (fun C X t => XT.i2l X.here C.1 (g := mkF _ pc ls.toArray (.int a :: st)) rfl (hb C.2.1 hd) rfl)
theorem go_l2i {a : Int64} (D : Dc bytes pc .l2i 1 pc') (G : Go wd K₀ l Z R y bytes ml ret n0 kc ks Q h k n pc' ls (.int a.toInt32 :: st)) : Go wd K₀ l Z R y bytes ml ret n0 kc ks Q h k n pc ls (.long a :: st) := by
  obtain ⟨hd, rfl⟩ := D
  exact go_pure G (fun C X t => XT.l2i X.here C.1 (g := mkF _ pc ls.toArray (.long a :: st)) rfl (hb C.2.1 hd) rfl)
theorem go_i2b {a : Int32} (D : Dc bytes pc .i2b 1 pc') (G : Go wd K₀ l Z R y bytes ml ret n0 kc ks Q h k n pc' ls (.int a.toInt8.toInt32 :: st)) : Go wd K₀ l Z R y bytes ml ret n0 kc ks Q h k n pc ls (.int a :: st) := by
  obtain ⟨hd, rfl⟩ := D
  exact go_pure G (fun C X t => XT.i2b X.here C.1 (g := mkF _ pc ls.toArray (.int a :: st)) rfl (hb C.2.1 hd) rfl)
theorem go_i2s {a : Int32} (D : Dc bytes pc .i2s 1 pc') (G : Go wd K₀ l Z R y bytes ml ret n0 kc ks Q h k n pc' ls (.int a.toInt16.toInt32 :: st)) : Go wd K₀ l Z R y bytes ml ret n0 kc ks Q h k n pc ls (.int a :: st) := by
  obtain ⟨hd, rfl⟩ := D
  exact go_pure G (fun C X t => XT.i2s X.here C.1 (g := mkF _ pc ls.toArray (.int a :: st)) rfl (hb C.2.1 hd) rfl)
theorem go_i2c {a : Int32} (D : Dc bytes pc .i2c 1 pc') (G : Go wd K₀ l Z R y bytes ml ret n0 kc ks Q h k n pc' ls (.int a.toUInt32.toUInt16.toUInt32.toInt32 :: st)) : Go wd K₀ l Z R y bytes ml ret n0 kc ks Q h k n pc ls (.int a :: st) := by
  obtain ⟨hd, rfl⟩ := D
  exact go_pure G (fun C X t => XT.i2c X.here C.1 (g := mkF _ pc ls.toArray (.int a :: st)) rfl (hb C.2.1 hd) rfl)
theorem go_dup {v : Value} (D : Dc bytes pc .dup 1 pc') (hv : v.category = 1) (G : Go wd K₀ l Z R y bytes ml ret n0 kc ks Q h k n pc' ls (v :: v :: st)) : Go wd K₀ l Z R y bytes ml ret n0 kc ks Q h k n pc ls (v :: st) := by
  obtain ⟨hd, rfl⟩ := D
  exact go_pure G (fun C X t => XS.dup X.here C.1 (g := mkF _ pc ls.toArray (v :: st)) rfl (hb C.2.1 hd) rfl hv)
theorem go_pop {v : Value} (D : Dc bytes pc .pop 1 pc') (hv : v.category = 1) (G : Go wd K₀ l Z R y bytes ml ret n0 kc ks Q h k n pc' ls st) : Go wd K₀ l Z R y bytes ml ret n0 kc ks Q h k n pc ls (v :: st) := by
  obtain ⟨hd, rfl⟩ := D
  exact go_pure G (fun C X t => XT.pop X.here C.1 (g := mkF _ pc ls.toArray (v :: st)) rfl (hb C.2.1 hd) rfl hv)
theorem go_dupx1 {v w : Value} (D : Dc bytes pc .dup_x1 1 pc') (hv : v.category = 1) (hw : w.category = 1) (G : Go wd K₀ l Z R y bytes ml ret n0 kc ks Q h k n pc' ls (v :: w :: v :: st)) : Go wd K₀ l Z R y bytes ml ret n0 kc ks Q h k n pc ls (v :: w :: st) := by
  obtain ⟨hd, rfl⟩ := D
  exact go_pure G (fun C X t => XT.dupX1 X.here C.1 (g := mkF _ pc ls.toArray (v :: w :: st)) rfl (hb C.2.1 hd) rfl hv hw)
theorem go_dup2 {v w : Value} (D : Dc bytes pc .dup2 1 pc') (hv : v.category = 1) (hw : w.category = 1) (G : Go wd K₀ l Z R y bytes ml ret n0 kc ks Q h k n pc' ls (v :: w :: v :: w :: st)) : Go wd K₀ l Z R y bytes ml ret n0 kc ks Q h k n pc ls (v :: w :: st) := by
  obtain ⟨hd, rfl⟩ := D
  exact go_pure G (fun C X t => XT.dup2 X.here C.1 (g := mkF _ pc ls.toArray (v :: w :: st)) rfl (hb C.2.1 hd) rfl hv hw)
theorem go_dup2L {v : Int64} (D : Dc bytes pc .dup2 1 pc') (G : Go wd K₀ l Z R y bytes ml ret n0 kc ks Q h k n pc' ls (.long v :: .long v :: st)) : Go wd K₀ l Z R y bytes ml ret n0 kc ks Q h k n pc ls (.long v :: st) := by
  obtain ⟨hd, rfl⟩ := D
  exact go_pure G (fun C X t => XT.dup2L X.here C.1 (g := mkF _ pc ls.toArray (.long v :: st)) rfl (hb C.2.1 hd) rfl)
theorem go_goto (D : Db bytes pc .goto pc' tg) (G : Go wd K₀ l Z R y bytes ml ret n0 kc ks Q h k n tg ls st) : Go wd K₀ l Z R y bytes ml ret n0 kc ks Q h k n pc ls st := by
  obtain ⟨o, hd, rfl, ho, hp⟩ := D
  exact go_pure G (fun C X t => XS.goto X.here C.1 (g := mkF _ pc ls.toArray st) rfl (pc0 := pc) rfl (hb C.2.1 hd) ho hp)
theorem go_icmp_eq {a b : Int32} (D : Db bytes pc (.if_icmp .eq) pc' tg) (G1 : a = b → Go wd K₀ l Z R y bytes ml ret n0 kc ks Q h k n tg ls st) (G2 : ¬ a = b → Go wd K₀ l Z R y bytes ml ret n0 kc ks Q h k n pc' ls st) : Go wd K₀ l Z R y bytes ml ret n0 kc ks Q h k n pc ls (.int b :: .int a :: st) := by
  obtain ⟨o, hd, rfl, ho, hp⟩ := D
  by_cases q : a = b
  · exact go_pure (G1 q) (fun C X t => XS.icmpYes X.here C.1 (g := mkF _ pc ls.toArray (.int b :: .int a :: st)) rfl (pc0 := pc) rfl (hb C.2.1 hd) rfl (XT.ii_eq_t q) ho hp)
  · exact go_pure (G2 q) (fun C X t => XS.icmpNo X.here C.1 (g := mkF _ pc ls.toArray (.int b :: .int a :: st)) rfl (hb C.2.1 hd) rfl (XT.ii_eq_f q))
theorem go_if_eq {a : Int32} (D : Db bytes pc (.ifCond .eq) pc' tg) (G1 : a = 0 → Go wd K₀ l Z R y bytes ml ret n0 kc ks Q h k n tg ls st) (G2 : ¬ a = 0 → Go wd K₀ l Z R y bytes ml ret n0 kc ks Q h k n pc' ls st) : Go wd K₀ l Z R y bytes ml ret n0 kc ks Q h k n pc ls (.int a :: st) := by
  obtain ⟨o, hd, rfl, ho, hp⟩ := D
  by_cases q : a = 0
  · exact go_pure (G1 q) (fun C X t => XS.ifYes X.here C.1 (g := mkF _ pc ls.toArray (.int a :: st)) rfl (pc0 := pc) rfl (hb C.2.1 hd) rfl (XT.i0_eq_t q) ho hp)
  · exact go_pure (G2 q) (fun C X t => XS.ifNo X.here C.1 (g := mkF _ pc ls.toArray (.int a :: st)) rfl (hb C.2.1 hd) rfl (XT.i0_eq_f q))
theorem go_lc_eq {a b : Int64} (D : Db bytes pc (.ifCond .eq) pc' tg) (G1 : a = b → Go wd K₀ l Z R y bytes ml ret n0 kc ks Q h k n tg ls st) (G2 : ¬ a = b → Go wd K₀ l Z R y bytes ml ret n0 kc ks Q h k n pc' ls st) : Go wd K₀ l Z R y bytes ml ret n0 kc ks Q h k n pc ls (.int (XT.cmpL a b) :: st) := by
  obtain ⟨o, hd, rfl, ho, hp⟩ := D
  by_cases q : a = b
  · exact go_pure (G1 q) (fun C X t => XS.ifYes X.here C.1 (g := mkF _ pc ls.toArray (.int (XT.cmpL a b) :: st)) rfl (pc0 := pc) rfl (hb C.2.1 hd) rfl (XT.ll_eq_t q) ho hp)
  · exact go_pure (G2 q) (fun C X t => XS.ifNo X.here C.1 (g := mkF _ pc ls.toArray (.int (XT.cmpL a b) :: st)) rfl (hb C.2.1 hd) rfl (XT.ll_eq_f q))
theorem go_icmp_ne {a b : Int32} (D : Db bytes pc (.if_icmp .ne) pc' tg) (G1 : ¬ a = b → Go wd K₀ l Z R y bytes ml ret n0 kc ks Q h k n tg ls st) (G2 : a = b → Go wd K₀ l Z R y bytes ml ret n0 kc ks Q h k n pc' ls st) : Go wd K₀ l Z R y bytes ml ret n0 kc ks Q h k n pc ls (.int b :: .int a :: st) := by
  obtain ⟨o, hd, rfl, ho, hp⟩ := D
  by_cases q : a = b
  · exact go_pure (G2 q) (fun C X t => XS.icmpNo X.here C.1 (g := mkF _ pc ls.toArray (.int b :: .int a :: st)) rfl (hb C.2.1 hd) rfl (XT.ii_ne_f q))
  · exact go_pure (G1 q) (fun C X t => XS.icmpYes X.here C.1 (g := mkF _ pc ls.toArray (.int b :: .int a :: st)) rfl (pc0 := pc) rfl (hb C.2.1 hd) rfl (XT.ii_ne_t q) ho hp)
theorem go_if_ne {a : Int32} (D : Db bytes pc (.ifCond .ne) pc' tg) (G1 : ¬ a = 0 → Go wd K₀ l Z R y bytes ml ret n0 kc ks Q h k n tg ls st) (G2 : a = 0 → Go wd K₀ l Z R y bytes ml ret n0 kc ks Q h k n pc' ls st) : Go wd K₀ l Z R y bytes ml ret n0 kc ks Q h k n pc ls (.int a :: st) := by
  obtain ⟨o, hd, rfl, ho, hp⟩ := D
  by_cases q : a = 0
  · exact go_pure (G2 q) (fun C X t => XS.ifNo X.here C.1 (g := mkF _ pc ls.toArray (.int a :: st)) rfl (hb C.2.1 hd) rfl (XT.i0_ne_f q))
  · exact go_pure (G1 q) (fun C X t => XS.ifYes X.here C.1 (g := mkF _ pc ls.toArray (.int a :: st)) rfl (pc0 := pc) rfl (hb C.2.1 hd) rfl (XT.i0_ne_t q) ho hp)
theorem go_lc_ne {a b : Int64} (D : Db bytes pc (.ifCond .ne) pc' tg) (G1 : ¬ a = b → Go wd K₀ l Z R y bytes ml ret n0 kc ks Q h k n tg ls st) (G2 : a = b → Go wd K₀ l Z R y bytes ml ret n0 kc ks Q h k n pc' ls st) : Go wd K₀ l Z R y bytes ml ret n0 kc ks Q h k n pc ls (.int (XT.cmpL a b) :: st) := by
  obtain ⟨o, hd, rfl, ho, hp⟩ := D
  by_cases q : a = b
  · exact go_pure (G2 q) (fun C X t => XS.ifNo X.here C.1 (g := mkF _ pc ls.toArray (.int (XT.cmpL a b) :: st)) rfl (hb C.2.1 hd) rfl (XT.ll_ne_f q))
  · exact go_pure (G1 q) (fun C X t => XS.ifYes X.here C.1 (g := mkF _ pc ls.toArray (.int (XT.cmpL a b) :: st)) rfl (pc0 := pc) rfl (hb C.2.1 hd) rfl (XT.ll_ne_t q) ho hp)
theorem go_icmp_lt {a b : Int32} (D : Db bytes pc (.if_icmp .lt) pc' tg) (G1 : a < b → Go wd K₀ l Z R y bytes ml ret n0 kc ks Q h k n tg ls st) (G2 : ¬ a < b → Go wd K₀ l Z R y bytes ml ret n0 kc ks Q h k n pc' ls st) : Go wd K₀ l Z R y bytes ml ret n0 kc ks Q h k n pc ls (.int b :: .int a :: st) := by
  obtain ⟨o, hd, rfl, ho, hp⟩ := D
  by_cases q : a < b
  · exact go_pure (G1 q) (fun C X t => XS.icmpYes X.here C.1 (g := mkF _ pc ls.toArray (.int b :: .int a :: st)) rfl (pc0 := pc) rfl (hb C.2.1 hd) rfl (XT.ii_lt_t q) ho hp)
  · exact go_pure (G2 q) (fun C X t => XS.icmpNo X.here C.1 (g := mkF _ pc ls.toArray (.int b :: .int a :: st)) rfl (hb C.2.1 hd) rfl (XT.ii_lt_f q))
theorem go_if_lt {a : Int32} (D : Db bytes pc (.ifCond .lt) pc' tg) (G1 : a < 0 → Go wd K₀ l Z R y bytes ml ret n0 kc ks Q h k n tg ls st) (G2 : ¬ a < 0 → Go wd K₀ l Z R y bytes ml ret n0 kc ks Q h k n pc' ls st) : Go wd K₀ l Z R y bytes ml ret n0 kc ks Q h k n pc ls (.int a :: st) := by
  obtain ⟨o, hd, rfl, ho, hp⟩ := D
  by_cases q : a < 0
  · exact go_pure (G1 q) (fun C X t => XS.ifYes X.here C.1 (g := mkF _ pc ls.toArray (.int a :: st)) rfl (pc0 := pc) rfl (hb C.2.1 hd) rfl (XT.i0_lt_t q) ho hp)
  · exact go_pure (G2 q) (fun C X t => XS.ifNo X.here C.1 (g := mkF _ pc ls.toArray (.int a :: st)) rfl (hb C.2.1 hd) rfl (XT.i0_lt_f q))
theorem go_lc_lt {a b : Int64} (D : Db bytes pc (.ifCond .lt) pc' tg) (G1 : a < b → Go wd K₀ l Z R y bytes ml ret n0 kc ks Q h k n tg ls st) (G2 : ¬ a < b → Go wd K₀ l Z R y bytes ml ret n0 kc ks Q h k n pc' ls st) : Go wd K₀ l Z R y bytes ml ret n0 kc ks Q h k n pc ls (.int (XT.cmpL a b) :: st) := by
  obtain ⟨o, hd, rfl, ho, hp⟩ := D
  by_cases q : a < b
  · exact go_pure (G1 q) (fun C X t => XS.ifYes X.here C.1 (g := mkF _ pc ls.toArray (.int (XT.cmpL a b) :: st)) rfl (pc0 := pc) rfl (hb C.2.1 hd) rfl (XT.ll_lt_t q) ho hp)
  · exact go_pure (G2 q) (fun C X t => XS.ifNo X.here C.1 (g := mkF _ pc ls.toArray (.int (XT.cmpL a b) :: st)) rfl (hb C.2.1 hd) rfl (XT.ll_lt_f q))
theorem go_icmp_ge {a b : Int32} (D : Db bytes pc (.if_icmp .ge) pc' tg) (G1 : ¬ a < b → Go wd K₀ l Z R y bytes ml ret n0 kc ks Q h k n tg ls st) (G2 : a < b → Go wd K₀ l Z R y bytes ml ret n0 kc ks Q h k n pc' ls st) : Go wd K₀ l Z R y bytes ml ret n0 kc ks Q h k n pc ls (.int b :: .int a :: st) := by
  obtain ⟨o, hd, rfl, ho, hp⟩ := D
  by_cases q : a < b
  · exact go_pure (G2 q) (fun C X t => XS.icmpNo X.here C.1 (g := mkF _ pc ls.toArray (.int b :: .int a :: st)) rfl (hb C.2.1 hd) rfl (XT.ii_ge_f q))
  · exact go_pure (G1 q) (fun C X t => XS.icmpYes X.here C.1 (g := mkF _ pc ls.toArray (.int b :: .int a :: st)) rfl (pc0 := pc) rfl (hb C.2.1 hd) rfl (XT.ii_ge_t q) ho hp)
theorem go_if_ge {a : Int32} (D : Db bytes pc (.ifCond .ge) pc' tg) (G1 : ¬ a < 0 → Go wd K₀ l Z R y bytes ml ret n0 kc ks Q h k n tg ls st) (G2 : a < 0 → Go wd K₀ l Z R y bytes ml ret n0 kc ks Q h k n pc' ls st) : Go wd K₀ l Z R y bytes ml ret n0 kc ks Q h k n pc ls (.int a :: st) := by
  obtain ⟨o, hd, rfl, ho, hp⟩ := D
  by_cases q : a < 0
  · exact go_pure (G2 q) (fun C X t => XS.ifNo X.here C.1 (g := mkF _ pc ls.toArray (.int a :: st)) rfl (hb C.2.1 hd) rfl (XT.i0_ge_f q))
  · exact go_pure (G1 q) (fun C X t => XS.ifYes X.here C.1 (g := mkF _ pc ls.toArray (.int a :: st)) rfl (pc0 := pc) rfl (hb C.2.1 hd) rfl (XT.i0_ge_t q) ho hp)
theorem go_lc_ge {a b : Int64} (D : Db bytes pc (.ifCond .ge) pc' tg) (G1 : ¬ a < b → Go wd K₀ l Z R y bytes ml ret n0 kc ks Q h k n tg ls st) (G2 : a < b → Go wd K₀ l Z R y bytes ml ret n0 kc ks Q h k n pc' ls st) : Go wd K₀ l Z R y bytes ml ret n0 kc ks Q h k n pc ls (.int (XT.cmpL a b) :: st) := by
  obtain ⟨o, hd, rfl, ho, hp⟩ := D
  by_cases q : a < b
  · exact go_pure (G2 q) (fun C X t => XS.ifNo X.here C.1 (g := mkF _ pc ls.toArray (.int (XT.cmpL a b) :: st)) rfl (hb C.2.1 hd) rfl (XT.ll_ge_f q))
  · exact go_pure (G1 q) (fun C X t => XS.ifYes X.here C.1 (g := mkF _ pc ls.toArray (.int (XT.cmpL a b) :: st)) rfl (pc0 := pc) rfl (hb C.2.1 hd) rfl (XT.ll_ge_t q) ho hp)
theorem go_icmp_gt {a b : Int32} (D : Db bytes pc (.if_icmp .gt) pc' tg) (G1 : b < a → Go wd K₀ l Z R y bytes ml ret n0 kc ks Q h k n tg ls st) (G2 : ¬ b < a → Go wd K₀ l Z R y bytes ml ret n0 kc ks Q h k n pc' ls st) : Go wd K₀ l Z R y bytes ml ret n0 kc ks Q h k n pc ls (.int b :: .int a :: st) := by
  obtain ⟨o, hd, rfl, ho, hp⟩ := D
  by_cases q : b < a
  · exact go_pure (G1 q) (fun C X t => XS.icmpYes X.here C.1 (g := mkF _ pc ls.toArray (.int b :: .int a :: st)) rfl (pc0 := pc) rfl (hb C.2.1 hd) rfl (XT.ii_gt_t q) ho hp)
  · exact go_pure (G2 q) (fun C X t => XS.icmpNo X.here C.1 (g := mkF _ pc ls.toArray (.int b :: .int a :: st)) rfl (hb C.2.1 hd) rfl (XT.ii_gt_f q))
theorem go_if_gt {a : Int32} (D : Db bytes pc (.ifCond .gt) pc' tg) (G1 : 0 < a → Go wd K₀ l Z R y bytes ml ret n0 kc ks Q h k n tg ls st) (G2 : ¬ 0 < a → Go wd K₀ l Z R y bytes ml ret n0 kc ks Q h k n pc' ls st) : Go wd K₀ l Z R y bytes ml ret n0 kc ks Q h k n pc ls (.int a :: st) := by
  obtain ⟨o, hd, rfl, ho, hp⟩ := D
  by_cases q : 0 < a
  · exact go_pure (G1 q) (fun C X t => XS.ifYes X.here C.1 (g := mkF _ pc ls.toArray (.int a :: st)) rfl (pc0 := pc) rfl (hb C.2.1 hd) rfl (XT.i0_gt_t q) ho hp)
  · exact go_pure (G2 q) (fun C X t => XS.ifNo X.here C.1 (g := mkF _ pc ls.toArray (.int a :: st)) rfl (hb C.2.1 hd) rfl (XT.i0_gt_f q))
theorem go_lc_gt {a b : Int64} (D : Db bytes pc (.ifCond .gt) pc' tg) (G1 : b < a → Go wd K₀ l Z R y bytes ml ret n0 kc ks Q h k n tg ls st) (G2 : ¬ b < a → Go wd K₀ l Z R y bytes ml ret n0 kc ks Q h k n pc' ls st) : Go wd K₀ l Z R y bytes ml ret n0 kc ks Q h k n pc ls (.int (XT.cmpL a b) :: st) := by
  obtain ⟨o, hd, rfl, ho, hp⟩ := D
  by_cases q : b < a
  · exact go_pure (G1 q) (fun C X t => XS.ifYes X.here C.1 (g := mkF _ pc ls.toArray (.int (XT.cmpL a b) :: st)) rfl (pc0 := pc) rfl (hb C.2.1 hd) rfl (XT.ll_gt_t q) ho hp)
  · exact go_pure (G2 q) (fun C X t => XS.ifNo X.here C.1 (g := mkF _ pc ls.toArray (.int (XT.cmpL a b) :: st)) rfl (hb C.2.1 hd) rfl (XT.ll_gt_f q))
theorem go_icmp_le {a b : Int32} (D : Db bytes pc (.if_icmp .le) pc' tg) (G1 : ¬ b < a → Go wd K₀ l Z R y bytes ml ret n0 kc ks Q h k n tg ls st) (G2 : b < a → Go wd K₀ l Z R y bytes ml ret n0 kc ks Q h k n pc' ls st) : Go wd K₀ l Z R y bytes ml ret n0 kc ks Q h k n pc ls (.int b :: .int a :: st) := by
  obtain ⟨o, hd, rfl, ho, hp⟩ := D
  by_cases q : b < a
  · exact go_pure (G2 q) (fun C X t => XS.icmpNo X.here C.1 (g := mkF _ pc ls.toArray (.int b :: .int a :: st)) rfl (hb C.2.1 hd) rfl (XT.ii_le_f q))
  · exact go_pure (G1 q) (fun C X t => XS.icmpYes X.here C.1 (g := mkF _ pc ls.toArray (.int b :: .int a :: st)) rfl (pc0 := pc) rfl (hb C.2.1 hd) rfl (XT.ii_le_t q) ho hp)
theorem go_if_le {a : Int32} (D : Db bytes pc (.ifCond .le) pc' tg) (G1 : ¬ 0 < a → Go wd K₀ l Z R y bytes ml ret n0 kc ks Q h k n tg ls st) (G2 : 0 < a → Go wd K₀ l Z R y bytes ml ret n0 kc ks Q h k n pc' ls st) : Go wd K₀ l Z R y bytes ml ret n0 kc ks Q h k n pc ls (.int a :: st) := by
  obtain ⟨o, hd, rfl, ho, hp⟩ := D
  by_cases q : 0 < a
  · exact go_pure (G2 q) (fun C X t => XS.ifNo X.here C.1 (g := mkF _ pc ls.toArray (.int a :: st)) rfl (hb C.2.1 hd) rfl (XT.i0_le_f q))
  · exact go_pure (G1 q) (fun C X t => XS.ifYes X.here C.1 (g := mkF _ pc ls.toArray (.int a :: st)) rfl (pc0 := pc) rfl (hb C.2.1 hd) rfl (XT.i0_le_t q) ho hp)
theorem go_lc_le {a b : Int64} (D : Db bytes pc (.ifCond .le) pc' tg) (G1 : ¬ b < a → Go wd K₀ l Z R y bytes ml ret n0 kc ks Q h k n tg ls st) (G2 : b < a → Go wd K₀ l Z R y bytes ml ret n0 kc ks Q h k n pc' ls st) : Go wd K₀ l Z R y bytes ml ret n0 kc ks Q h k n pc ls (.int (XT.cmpL a b) :: st) := by
  obtain ⟨o, hd, rfl, ho, hp⟩ := D
  by_cases q : b < a
  · exact go_pure (G2 q) (fun C X t => XS.ifNo X.here C.1 (g := mkF _ pc ls.toArray (.int (XT.cmpL a b) :: st)) rfl (hb C.2.1 hd) rfl (XT.ll_le_f q))
  · exact go_pure (G1 q) (fun C X t => XS.ifYes X.here C.1 (g := mkF _ pc ls.toArray (.int (XT.cmpL a b) :: st)) rfl (pc0 := pc) rfl (hb C.2.1 hd) rfl (XT.ll_le_t q) ho hp)
theorem go_acmp_eq {a b : Value} (D : Db bytes pc (.if_acmp .eq) pc' tg) (ha : a.isRef = true) (hb' : b.isRef = true) (G1 : a = b → Go wd K₀ l Z R y bytes ml ret n0 kc ks Q h k n tg ls st) (G2 : ¬ a = b → Go wd K₀ l Z R y bytes ml ret n0 kc ks Q h k n pc' ls st) : Go wd K₀ l Z R y bytes ml ret n0 kc ks Q h k n pc ls (b :: a :: st) := by
  obtain ⟨o, hd, rfl, ho, hp⟩ := D
  by_cases q : a = b
  · exact go_pure (G1 q) (fun C X t => XT.acmpYes X.here C.1 (g := mkF _ pc ls.toArray (b :: a :: st)) rfl (pc0 := pc) rfl (hb C.2.1 hd) rfl ha hb' (XT.aa_eq_t q) ho hp)
  · exact go_pure (G2 q) (fun C X t => XT.acmpNo X.here C.1 (g := mkF _ pc ls.toArray (b :: a :: st)) rfl (hb C.2.1 hd) rfl ha hb' (XT.aa_eq_f q))
theorem go_acmp_ne {a b : Value} (D : Db bytes pc (.if_acmp .ne) pc' tg) (ha : a.isRef = true) (hb' : b.isRef = true) (G1 : ¬ a = b → Go wd K₀ l Z R y bytes ml ret n0 kc ks Q h k n tg ls st) (G2 : a = b → Go wd K₀ l Z R y bytes ml ret n0 kc ks Q h k n pc' ls st) : Go wd K₀ l Z R y bytes ml ret n0 kc ks Q h k n pc ls (b :: a :: st) := by
  obtain ⟨o, hd, rfl, ho, hp⟩ := D
  by_cases q : a = b
  · exact go_pure (G2 q) (fun C X t => XT.acmpNo X.here C.1 (g := mkF _ pc ls.toArray (b :: a :: st)) rfl (hb C.2.1 hd) rfl ha hb' (XT.aa_ne_f q))
  · exact go_pure (G1 q) (fun C X t => XT.acmpYes X.here C.1 (g := mkF _ pc ls.toArray (b :: a :: st)) rfl (pc0 := pc) rfl (hb C.2.1 hd) rfl ha hb' (XT.aa_ne_t q) ho hp)
theorem go_ifnullT (D : Db bytes pc .ifnull pc' tg) (G : Go wd K₀ l Z R y bytes ml ret n0 kc ks Q h k n tg ls st) : Go wd K₀ l Z R y bytes ml ret n0 kc ks Q h k n pc ls (.null :: st) := by
  obtain ⟨o, hd, rfl, ho, hp⟩ := D
  exact go_pure G (fun C X t => XS.ifnullYes X.here C.1 (g := mkF _ pc ls.toArray (.null :: st)) rfl (pc0 := pc) rfl (hb C.2.1 hd) rfl ho hp)
theorem go_ifnullF {a : Addr} (D : Db bytes pc .ifnull pc' tg) (G : Go wd K₀ l Z R y bytes ml ret n0 kc ks Q h k n pc' ls st) : Go wd K₀ l Z R y bytes ml ret n0 kc ks Q h k n pc ls (.ref a :: st) := by
  obtain ⟨o, hd, rfl, ho, hp⟩ := D
  exact go_pure G (fun C X t => XS.ifnullNo X.here C.1 (g := mkF _ pc ls.toArray (.ref a :: st)) rfl (hb C.2.1 hd) rfl)
theorem go_nonnullT {a : Addr} (D : Db bytes pc .ifnonnull pc' tg) (G : Go wd K₀ l Z R y bytes ml ret n0 kc ks Q h k n tg ls st) : Go wd K₀ l Z R y bytes ml ret n0 kc ks Q h k n pc ls (.ref a :: st) := by
  obtain ⟨o, hd, rfl, ho, hp⟩ := D
  exact go_pure G (fun C X t => XT.ifnonnullYes X.here C.1 (g := mkF _ pc ls.toArray (.ref a :: st)) rfl (pc0 := pc) rfl (hb C.2.1 hd) rfl ho hp)
theorem go_nonnullF (D : Db bytes pc .ifnonnull pc' tg) (G : Go wd K₀ l Z R y bytes ml ret n0 kc ks Q h k n pc' ls st) : Go wd K₀ l Z R y bytes ml ret n0 kc ks Q h k n pc ls (.null :: st) := by
  obtain ⟨o, hd, rfl, ho, hp⟩ := D
  exact go_pure G (fun C X t => XT.ifnonnullNo X.here C.1 (g := mkF _ pc ls.toArray (.null :: st)) rfl (hb C.2.1 hd) rfl)
theorem go_nonnullV {v : Value} (D : Db bytes pc .ifnonnull pc' tg) (hv : v.isRef = true) (G1 : v ≠ .null → Go wd K₀ l Z R y bytes ml ret n0 kc ks Q h k n tg ls st) (G2 : v = .null → Go wd K₀ l Z R y bytes ml ret n0 kc ks Q h k n pc' ls st) : Go wd K₀ l Z R y bytes ml ret n0 kc ks Q h k n pc ls (v :: st) := by
  cases v with
  | null => exact go_nonnullF D (G2 rfl)
  | ref a => exact go_nonnullT D (G1 (fun q => nomatch q))
  | int _ => cases hv
  | long _ => cases hv
  | float _ => cases hv
  | double _ => cases hv
  | _ => cases hv
theorem go_ldcI {v : Int32} {idx : Nat} (D : Dc bytes pc (.ldc idx) 2 pc') (w : (Cond.constant y.cls idx v).before a0 Z = true) (G : Go wd K₀ l Z R y bytes ml ret n0 kc ks Q h k n pc' ls (.int v :: st)) : Go wd K₀ l Z R y bytes ml ret n0 kc ks Q h k n pc ls st := by
  obtain ⟨hd, rfl⟩ := D
  exact go_pure G (fun C X t => X.ldcInt C.1 C.2.2.2.1 (mvT C.2.2.2.2.1 w) (g := mkF _ pc ls.toArray st) rfl (hb C.2.1 hd) t)
theorem go_ldcJ {v : Int64} {idx : Nat} (D : Dc bytes pc (.ldc2_w idx) 3 pc') (w : (Cond.constantLong y.cls idx v).before a0 Z = true) (G : Go wd K₀ l Z R y bytes ml ret n0 kc ks Q h k n pc' ls (.long v :: st)) : Go wd K₀ l Z R y bytes ml ret n0 kc ks Q h k n pc ls st := by
  obtain ⟨hd, rfl⟩ := D
  exact go_pure G (fun C X t => X.ldc2Long C.1 C.2.2.2.1 (mvT C.2.2.2.2.1 w) (g := mkF _ pc ls.toArray st) rfl (hb C.2.1 hd) t)
theorem go_iret {z : Int32} (hr : ret = some .int) (D : Dc bytes pc .ireturn 1 pc') (hk : k ≤ kc) (hn : n ≤ ks) (q : Q (some (.int z)) h) : Go wd K₀ l Z R y bytes ml ret n0 kc ks Q h k n pc ls (.int z :: st) := by
  intro p e s0 s m args below meth c T L Bs C X hh N
  obtain ⟨hd, rfl⟩ := D
  have hl := C.2.2.2.2.2.2.1
  obtain ⟨fs, hr', hrun, hended, hW, hsame⟩ := X.leave (v := some (.int z)) (fun q => by rw [C.2.2.2.2.2.1, hr] at q; cases q) hl
  exact ⟨_, _, retOut X C.1 (C.2.2.2.2.2.1.trans hr) rfl (Or.inl ⟨rfl, Or.inl rfl, z, rfl⟩) (hb C.2.1 hd) hr', hrun, hended, _, L, rfl, ⟨by show Q _ T.heap; rw [hh]; exact q, N⟩, endK Bs hh hW hsame hk hn⟩
theorem go_bret {z : Int32} (hr : ret = some .boolean) (D : Dc bytes pc .ireturn 1 pc') (hk : k ≤ kc) (hn : n ≤ ks) (hz : z = 0 ∨ z = 1) (q : Q (some (.int z)) h) : Go wd K₀ l Z R y bytes ml ret n0 kc ks Q h k n pc ls (.int z :: st) := by
  intro p e s0 s m args below meth c T L Bs C X hh N
  obtain ⟨hd, rfl⟩ := D
  have hl := C.2.2.2.2.2.2.1
  obtain ⟨fs, hr', hrun, hended, hW, hsame⟩ := X.leave (v := some (.int z)) (fun q => by rw [C.2.2.2.2.2.1, hr] at q; cases q) hl
  exact ⟨_, _, retOut X C.1 (C.2.2.2.2.2.1.trans hr) (by rcases hz with rfl | rfl <;> rfl) (Or.inl ⟨rfl, Or.inr (Or.inl rfl), z, rfl⟩) (hb C.2.1 hd) hr', hrun, hended, _, L, rfl, ⟨by show Q _ T.heap; rw [hh]; exact q, N⟩, endK Bs hh hW hsame hk hn⟩
theorem go_nret {z : Int32} {ty : FieldType} (hr : ret = some ty) (hty : ty = .byte ∨ ty = .char ∨ ty = .short) (D : Dc bytes pc .ireturn 1 pc') (hk : k ≤ kc) (hn : n ≤ ks) (hz : narrow ty (.int z) = .int z) (q : Q (some (.int z)) h) : Go wd K₀ l Z R y bytes ml ret n0 kc ks Q h k n pc ls (.int z :: st) := by
  intro p e s0 s m args below meth c T L Bs C X hh N
  obtain ⟨hd, rfl⟩ := D
  have hl := C.2.2.2.2.2.2.1
  obtain ⟨fs, hr', hrun, hended, hW, hsame⟩ := X.leave (v := some (.int z)) (fun q => by rw [C.2.2.2.2.2.1, hr] at q; cases q) hl
  exact ⟨_, _, retOut X C.1 (C.2.2.2.2.2.1.trans hr) hz (Or.inl ⟨rfl, Or.inr (Or.inr hty), z, rfl⟩) (hb C.2.1 hd) hr', hrun, hended, _, L, rfl, ⟨by show Q _ T.heap; rw [hh]; exact q, N⟩, endK Bs hh hW hsame hk hn⟩
theorem go_lret {z : Int64} (hr : ret = some .long) (D : Dc bytes pc .lreturn 1 pc') (hk : k ≤ kc) (hn : n ≤ ks) (q : Q (some (.long z)) h) : Go wd K₀ l Z R y bytes ml ret n0 kc ks Q h k n pc ls (.long z :: st) := by
  intro p e s0 s m args below meth c T L Bs C X hh N
  obtain ⟨hd, rfl⟩ := D
  have hl := C.2.2.2.2.2.2.1
  obtain ⟨fs, hr', hrun, hended, hW, hsame⟩ := X.leave (v := some (.long z)) (fun q => by rw [C.2.2.2.2.2.1, hr] at q; cases q) hl
  exact ⟨_, _, retOut X C.1 (C.2.2.2.2.2.1.trans hr) rfl (Or.inr (Or.inl ⟨rfl, rfl, z, rfl⟩)) (hb C.2.1 hd) hr', hrun, hended, _, L, rfl, ⟨by show Q _ T.heap; rw [hh]; exact q, N⟩, endK Bs hh hW hsame hk hn⟩
theorem narrow_ref {t : FieldType} {w : Value} (ht : t.isReference = true) (hw : w.isRef = true) : narrow t w = w := by
  cases t <;> cases w <;> first | rfl | (simp [FieldType.isReference] at ht; done) | (simp [Value.isRef] at hw; done)
theorem go_aret {w : Value} {t : FieldType} (hr : ret = some t) (ht : t.isReference = true) (hw : w.isRef = true) (D : Dc bytes pc .areturn 1 pc') (hk : k ≤ kc) (hn : n ≤ ks) (q : Q (some w) h) : Go wd K₀ l Z R y bytes ml ret n0 kc ks Q h k n pc ls (w :: st) := by
  intro p e s0 s m args below meth c T L Bs C X hh N
  obtain ⟨hd, rfl⟩ := D
  have hl := C.2.2.2.2.2.2.1
  obtain ⟨fs, hr', hrun, hended, hW, hsame⟩ := X.leave (v := some w) (fun q => by rw [C.2.2.2.2.2.1, hr] at q; cases q) hl
  exact ⟨_, _, retOut X C.1 (C.2.2.2.2.2.1.trans hr) (narrow_ref ht hw) (Or.inr (Or.inr (Or.inr (Or.inr ⟨rfl, ht, hw⟩)))) (hb C.2.1 hd) hr', hrun, hended, _, L, rfl, ⟨by show Q _ T.heap; rw [hh]; exact q, N⟩, endK Bs hh hW hsame hk hn⟩
theorem go_ret (hr : ret = none) (D : Dc bytes pc .return_ 1 pc') (hk : k ≤ kc) (hn : n ≤ ks) (q : Q none h) : Go wd K₀ l Z R y bytes ml ret n0 kc ks Q h k n pc ls [] := by
  intro p e s0 s m args below meth c T L Bs C X hh N
  obtain ⟨hd, rfl⟩ := D
  have hl := C.2.2.2.2.2.2.1
  obtain ⟨fs, hr', hrun, hended, hW, hsame⟩ := X.leave (v := none) (fun _ => rfl) hl
  exact ⟨_, _, X.returnOut C.1 (C.2.2.2.2.2.1.trans hr) (hb C.2.1 hd) hr', hrun, hended, _, L, rfl, ⟨by show Q _ T.heap; rw [hh]; exact q, N⟩, endK Bs hh hW hsame hk hn⟩
theorem con_of {as' : Array Value} (hp : plainFor y = true) (he : Jvm.Sym.laidSlots as'.toList ++ List.replicate (ml - (Jvm.Sym.laidSlots as'.toList).length) .unset = ls) (G : Go wd KT l Z R y bytes ml ret n0 R.cells R.slots Q h 0 0 0 ls []) : Con wd l Z y bytes ml ret R as' h n0 Q := by
  intro ws
  refine MetFree.of_bodySF hp hisR ?_
  intro p e s m args below meth c s₁ Bd hml hP hK
  obtain ⟨rfl, hZ, hh⟩ := hP
  have X0 : Stand p l e R s m args below meth c s₁ [] 0 0 := Stand.of_body Bd
  have e0 : s₁.heap = h := by rw [← hh, Bd.state]; rfl
  obtain ⟨s₂, o, h1, h2, h3, v, L, e1, ⟨q1, q2⟩, q3⟩ := G p e s s m args below meth c s₁ [] (Base.start s hh) ⟨Bd.exec, Bd.bytes, hml, findClass_of_methodNamed Bd.named, hZ, Bd.returns, Bd.notSynchronized, (name_of_methodNamed Bd.named Bd.method).1, trivial⟩ X0 e0 (Fr.nil n0)
  exact ⟨s₂, o, (XT.entry (Ls := ls.toArray) (by simpa using he)).trans h1, h2, h3, v, L, e1, ⟨⟨q1, by rw [← hh]; exact q3.size⟩, q2⟩, q3⟩
theorem go_callS1 {y' : MethodName} {b' : ByteArray} {m' : Nat} {r' : Option FieldType} {rm : Room} {idx W : Nat} {argsL : List Value} {P : Value → Heap → Prop} (D : Dc bytes pc (.invokestatic idx) 3 pc') (hM : Con false l Z y' b' m' r' rm argsL.toArray h n0 (R1 P))
    (w1 : (Cond.methodLink y.cls idx y').before a0 Z = true) (w2 : (Cond.static y').before a0 Z = true) (w3 : (Cond.initialized y'.cls).before a0 Z = true) (w4 : (Cond.code y' b' m' r').before a0 Z = true) (hy : y'.cls ≠ "java/lang/invoke/MethodHandle" ∧ y'.cls ≠ "java/lang/invoke/VarHandle")
    (hlen : ∀ sig, parseMethodDescriptor y'.desc = some sig → argsL.length = sig.parameters.length) {st₀ : List Value} (hst : st₀ = argsL.reverse ++ st) (hW : (st.map fun v => v.category).sum = W) (hf : rm.frames + 1 ≤ R.frames) (hlo : W + (m' + 11) + rm.locals ≤ R.locals) (hk : k + rm.cells ≤ R.cells) (hn : n + rm.slots ≤ R.slots) (hls : ls.length = ml)
    (G : ∀ w h', P w h' → Go wd K₀ l Z R y bytes ml ret n0 kc ks Q h' (k + rm.cells) (n + rm.slots) pc' ls (w :: st)) : Go wd K₀ l Z R y bytes ml ret n0 kc ks Q h k n pc ls st₀ := by
  subst hst
  intro p e s0 s m args below meth c T L Bs C X hh N
  obtain ⟨hd, rfl⟩ := D
  have hZ := C.2.2.2.2.1
  obtain ⟨v, vm₁, ⟨B, Lb, kb, nb⟩, -, X', ⟨Lq, ⟨⟨hQ, hsz⟩, Ns⟩, e1, e2, e3⟩, st'⟩ := Jvm.LawKit.callS X C.1 (y := y') C.2.2.2.1 (mvT hZ w1) (mvT hZ w2) (mvT hZ w3) (mvT hZ w4) hy (backOf (W := W) (Q := fun v h' L => ((R1 P) v h' ∧ h.size ≤ h'.size) ∧ Fr n0 L) (hM []) hZ w4 w3 hf hlo) (g := mkF m pc ls.toArray (argsL.reverse ++ st)) rfl
    (by rw [C.2.2.1]; simpa using hls) (argsL := argsL) (rest := st) hlen rfl (by show 2 * 0 + _ ≤ W; rw [← hW]; omega) (hb C.2.1 hd) (fun _ _ => ⟨rfl, hh, hk, hn⟩)
  dsimp only [Pt.U, Pt.locs, Pt.cells, Pt.slots] at X' hQ hsz e1 e2 e3 st'
  subst e1 e2 e3
  obtain ⟨w, rfl, hP⟩ := hQ
  exact (G w B.heap hP p e s0 s m args below meth c B _ (Bs.mono hsz) C X' rfl (N.app Ns)).pre st'
theorem go_callV1 {y' : MethodName} {b' : ByteArray} {m' : Nat} {r' : Option FieldType} {rm : Room} {idx W : Nat} {argsL : List Value} {P : Value → Heap → Prop} {x' : MethodName} {K : String} {a : Addr} (D : Dc bytes pc (.invokevirtual idx) 3 pc') (hM : Con false l Z y' b' m' r' rm (.ref a :: argsL).toArray h n0 (R1 P)) (E : Exa Z h a K)
    (w1 : (Cond.methodLink y.cls idx x').before a0 Z = true) (w5 : (Cond.declares x').before a0 Z = true) (nf : ∀ s : State, Z.Warmed39 s.vm → NotFace s x') (w6 : (Cond.selects K x' y').before a0 Z = true) (w2 : (Cond.instanceMethod y').before a0 Z = true) (w3 : (Cond.initialized y'.cls).before a0 Z = true) (w4 : (Cond.code y' b' m' r').before a0 Z = true)
    (hy : x'.cls ≠ "java/lang/invoke/MethodHandle" ∧ x'.cls ≠ "java/lang/invoke/VarHandle") (hlen : ∀ sig, parseMethodDescriptor x'.desc = some sig → argsL.length = sig.parameters.length) {st₀ : List Value} (hst : st₀ = argsL.reverse ++ .ref a :: st) (hW : (st.map fun v => v.category).sum = W) (hf : rm.frames + 1 ≤ R.frames) (hlo : W + (m' + 11) + rm.locals ≤ R.locals) (hk : k + rm.cells ≤ R.cells) (hn : n + rm.slots ≤ R.slots) (hls : ls.length = ml)
    (G : ∀ w h', P w h' → Go wd K₀ l Z R y bytes ml ret n0 kc ks Q h' (k + rm.cells) (n + rm.slots) pc' ls (w :: st)) : Go wd K₀ l Z R y bytes ml ret n0 kc ks Q h k n pc ls st₀ := by
  subst hst
  intro p e s0 s m args below meth c T L Bs C X hh N
  obtain ⟨hd, rfl⟩ := D
  have hZ := C.2.2.2.2.1
  obtain ⟨cq, kq, qa, qb, qc⟩ := isOf (T := T) hZ hh E
  obtain ⟨v, vm₁, ⟨B, Lb, kb, nb⟩, -, X', ⟨Lq, ⟨⟨hQ, hsz⟩, Ns⟩, e1, e2, e3⟩, st'⟩ := X.virtualBack C.1 (y := x') (z := y') C.2.2.2.1 (mvT hZ w1) (mvT hZ w5) (nf s hZ) (mvT hZ w6) (mvT hZ w2) hy (backOf (W := W) (Q := fun v h' L => ((R1 P) v h' ∧ h.size ≤ h'.size) ∧ Fr n0 L) (hM []) hZ w4 w3 hf hlo) qa qc (g := mkF m pc ls.toArray (argsL.reverse ++ .ref a :: st)) rfl
    (by rw [C.2.2.1]; simpa using hls) (Steps.refl _) (argsL := argsL) (rest := st) hlen rfl (by show 2 * 0 + _ ≤ W; rw [← hW]; omega) (hb C.2.1 hd) (fun _ _ => ⟨rfl, hh, hk, hn⟩)
  dsimp only [Pt.U, Pt.locs, Pt.cells, Pt.slots] at X' hQ hsz e1 e2 e3 st'
  subst e1 e2 e3
  obtain ⟨w, rfl, hP⟩ := hQ
  exact (G w B.heap hP p e s0 s m args below meth c B _ (Bs.mono hsz) C X' rfl (N.app Ns)).pre (fun t q => st'.trans q)
theorem go_callP1 {y' : MethodName} {b' : ByteArray} {m' : Nat} {r' : Option FieldType} {rm : Room} {idx W : Nat} {argsL : List Value} {P : Value → Heap → Prop} {K : String} {a : Addr} (D : Dc bytes pc (.invokevirtual idx) 3 pc') (hM : Con false l Z y' b' m' r' rm (.ref a :: argsL).toArray h n0 (R1 P)) (E : Exa Z h a K)
    (w1 : (Cond.methodLink y.cls idx y').before a0 Z = true) (w2 : (Cond.instanceMethod y').before a0 Z = true) {kk : Nat} (wi : (Cond.instantiable y'.cls kk).before a0 Z = true) (w5 : (Cond.privateMethod y').before a0 Z = true) (w3 : (Cond.initialized y'.cls).before a0 Z = true) (w4 : (Cond.code y' b' m' r').before a0 Z = true) (hy : y'.cls ≠ "java/lang/invoke/MethodHandle" ∧ y'.cls ≠ "java/lang/invoke/VarHandle")
    (hlen : ∀ sig, parseMethodDescriptor y'.desc = some sig → argsL.length = sig.parameters.length) {st₀ : List Value} (hst : st₀ = argsL.reverse ++ .ref a :: st) (hW : (st.map fun v => v.category).sum = W) (hf : rm.frames + 1 ≤ R.frames) (hlo : W + (m' + 11) + rm.locals ≤ R.locals) (hk : k + rm.cells ≤ R.cells) (hn : n + rm.slots ≤ R.slots) (hls : ls.length = ml)
    (G : ∀ w h', P w h' → Go wd K₀ l Z R y bytes ml ret n0 kc ks Q h' (k + rm.cells) (n + rm.slots) pc' ls (w :: st)) : Go wd K₀ l Z R y bytes ml ret n0 kc ks Q h k n pc ls st₀ := by
  subst hst
  intro p e s0 s m args below meth c T L Bs C X hh N
  obtain ⟨hd, rfl⟩ := D
  have hZ := C.2.2.2.2.1
  obtain ⟨cq, q1, q2⟩ := E.cell
  have wi' : (Cond.instantiable y'.cls kk).before args s = true := mvT hZ wi
  obtain ⟨c2, k2, i1, i2, -, i4, -⟩ := Cond.instantiable_spec wi'
  have hpa : s.PrivateAt y' := Cond.privateMethod_at (mvP hZ w5 (args := #[]))
  have w6 : (Cond.selects y'.cls y' y').before args s = true := selects_self_of_private i1 i2 (Bool.or_eq_false_iff.mp i4).1 hpa (mvT hZ w2) hy
  obtain ⟨v, vm₁, ⟨B, Lb, kb, nb⟩, -, X', ⟨Lq, ⟨⟨hQ, hsz⟩, Ns⟩, e1, e2, e3⟩, st'⟩ := X.privateBack C.1 (y := y') C.2.2.2.1 (mvT hZ w1) (mvT hZ w2) w6 hpa (mvT hZ w4) hy (backOf (W := W) (Q := fun v h' L => ((R1 P) v h' ∧ h.size ≤ h'.size) ∧ Fr n0 L) (hM []) hZ w4 w3 hf hlo) (g := mkF m pc ls.toArray (argsL.reverse ++ .ref a :: st)) rfl
    (by rw [C.2.2.1]; simpa using hls) (Steps.refl _) (a := a) (by rw [hh]; exact q1) q2 (argsL := argsL) (rest := st) hlen rfl (by show 2 * 0 + _ ≤ W; rw [← hW]; omega) (hb C.2.1 hd) (fun _ _ => ⟨rfl, hh, hk, hn⟩)
  dsimp only [Pt.U, Pt.locs, Pt.cells, Pt.slots] at X' hQ hsz e1 e2 e3 st'
  subst e1 e2 e3
  obtain ⟨w, rfl, hP⟩ := hQ
  exact (G w B.heap hP p e s0 s m args below meth c B _ (Bs.mono hsz) C X' rfl (N.app Ns)).pre (fun t q => st'.trans q)
theorem go_callS0 {y' : MethodName} {b' : ByteArray} {m' : Nat} {r' : Option FieldType} {rm : Room} {idx W : Nat} {argsL : List Value} {P : Heap → Prop} (D : Dc bytes pc (.invokestatic idx) 3 pc') (hM : Con false l Z y' b' m' r' rm argsL.toArray h n0 (R0 P))
    (w1 : (Cond.methodLink y.cls idx y').before a0 Z = true) (w2 : (Cond.static y').before a0 Z = true) (w3 : (Cond.initialized y'.cls).before a0 Z = true) (w4 : (Cond.code y' b' m' r').before a0 Z = true) (hy : y'.cls ≠ "java/lang/invoke/MethodHandle" ∧ y'.cls ≠ "java/lang/invoke/VarHandle")
    (hlen : ∀ sig, parseMethodDescriptor y'.desc = some sig → argsL.length = sig.parameters.length) {st₀ : List Value} (hst : st₀ = argsL.reverse ++ st) (hW : (st.map fun v => v.category).sum = W) (hf : rm.frames + 1 ≤ R.frames) (hlo : W + (m' + 11) + rm.locals ≤ R.locals) (hk : k + rm.cells ≤ R.cells) (hn : n + rm.slots ≤ R.slots) (hls : ls.length = ml)
    (G : ∀ h', P h' → Go wd K₀ l Z R y bytes ml ret n0 kc ks Q h' (k + rm.cells) (n + rm.slots) pc' ls st) : Go wd K₀ l Z R y bytes ml ret n0 kc ks Q h k n pc ls st₀ := by
  subst hst
  intro p e s0 s m args below meth c T L Bs C X hh N
  obtain ⟨hd, rfl⟩ := D
  have hZ := C.2.2.2.2.1
  obtain ⟨v, vm₁, ⟨B, Lb, kb, nb⟩, -, X', ⟨Lq, ⟨⟨hQ, hsz⟩, Ns⟩, e1, e2, e3⟩, st'⟩ := Jvm.LawKit.callS X C.1 (y := y') C.2.2.2.1 (mvT hZ w1) (mvT hZ w2) (mvT hZ w3) (mvT hZ w4) hy (backOf (W := W) (Q := fun v h' L => ((R0 P) v h' ∧ h.size ≤ h'.size) ∧ Fr n0 L) (hM []) hZ w4 w3 hf hlo) (g := mkF m pc ls.toArray (argsL.reverse ++ st)) rfl
    (by rw [C.2.2.1]; simpa using hls) (argsL := argsL) (rest := st) hlen rfl (by show 2 * 0 + _ ≤ W; rw [← hW]; omega) (hb C.2.1 hd) (fun _ _ => ⟨rfl, hh, hk, hn⟩)
  dsimp only [Pt.U, Pt.locs, Pt.cells, Pt.slots] at X' hQ hsz e1 e2 e3 st'
  subst e1 e2 e3
  obtain ⟨rfl, hP⟩ := hQ
  exact (G B.heap hP p e s0 s m args below meth c B _ (Bs.mono hsz) C X' rfl (N.app Ns)).pre st'
theorem go_callN0 {y' : MethodName} {b' : ByteArray} {m' : Nat} {r' : Option FieldType} {rm : Room} {idx W : Nat} {argsL : List Value} {P : Heap → Prop} {a : Addr} (D : Dc bytes pc (.invokespecial idx) 3 pc') (hi : y'.name = "<init>") (hr' : r' = none) (hM : Con false l Z y' b' m' r' rm (.ref a :: argsL).toArray h n0 (R0 P))
    (w1 : (Cond.methodLink y.cls idx y').before a0 Z = true) (w2 : (Cond.instanceMethod y').before a0 Z = true) (w3 : (Cond.initialized y'.cls).before a0 Z = true) (w4 : (Cond.code y' b' m' r').before a0 Z = true) (hy : y'.cls ≠ "java/lang/invoke/MethodHandle" ∧ y'.cls ≠ "java/lang/invoke/VarHandle")
    (hlen : ∀ sig, parseMethodDescriptor y'.desc = some sig → argsL.length = sig.parameters.length) {st₀ : List Value} (hst : st₀ = argsL.reverse ++ .ref a :: st) (hW : (st.map fun v => v.category).sum = W) (hf : rm.frames + 1 ≤ R.frames) (hlo : W + (m' + 11) + rm.locals ≤ R.locals) (hk : k + rm.cells ≤ R.cells) (hn : n + rm.slots ≤ R.slots) (hls : ls.length = ml)
    (G : ∀ h', P h' → Go wd K₀ l Z R y bytes ml ret n0 kc ks Q h' (k + rm.cells) (n + rm.slots) pc' ls st) : Go wd K₀ l Z R y bytes ml ret n0 kc ks Q h k n pc ls st₀ := by
  subst hst hr'
  intro p e s0 s m args below meth c T L Bs C X hh N
  obtain ⟨hd, rfl⟩ := D
  have hZ := C.2.2.2.2.1
  obtain ⟨v, vm₁, ⟨B, Lb, kb, nb⟩, -, X', ⟨Lq, ⟨⟨hQ, hsz⟩, Ns⟩, e1, e2, e3⟩, st'⟩ := X.specialBack C.1 (y := y') hi C.2.2.2.1 (mvT hZ w1) (mvT hZ w2) (mvT hZ w4) hy (backOf (W := W) (Q := fun v h' L => ((R0 P) v h' ∧ h.size ≤ h'.size) ∧ Fr n0 L) (hM []) hZ w4 w3 hf hlo) (g := mkF m pc ls.toArray (argsL.reverse ++ .ref a :: st)) rfl
    (by rw [C.2.2.1]; simpa using hls) (Steps.refl _) (a := a) (argsL := argsL) (rest := st) hlen rfl (by show 2 * 0 + _ ≤ W; rw [← hW]; omega) (hb C.2.1 hd) (fun _ _ => ⟨rfl, hh, hk, hn⟩)
  dsimp only [Pt.U, Pt.locs, Pt.cells, Pt.slots] at X' hQ hsz e1 e2 e3 st'
  subst e1 e2 e3
  obtain ⟨rfl, hP⟩ := hQ
  exact (G B.heap hP p e s0 s m args below meth c B _ (Bs.mono hsz) C X' rfl (N.app Ns)).pre (fun t q => st'.trans q)
theorem go_callV0 {y' : MethodName} {b' : ByteArray} {m' : Nat} {r' : Option FieldType} {rm : Room} {idx W : Nat} {argsL : List Value} {P : Heap → Prop} {x' : MethodName} {K : String} {a : Addr} (D : Dc bytes pc (.invokevirtual idx) 3 pc') (hM : Con false l Z y' b' m' r' rm (.ref a :: argsL).toArray h n0 (R0 P)) (E : Exa Z h a K)
    (w1 : (Cond.methodLink y.cls idx x').before a0 Z = true) (w5 : (Cond.declares x').before a0 Z = true) (nf : ∀ s : State, Z.Warmed39 s.vm → NotFace s x') (w6 : (Cond.selects K x' y').before a0 Z = true) (w2 : (Cond.instanceMethod y').before a0 Z = true) (w3 : (Cond.initialized y'.cls).before a0 Z = true) (w4 : (Cond.code y' b' m' r').before a0 Z = true)
    (hy : x'.cls ≠ "java/lang/invoke/MethodHandle" ∧ x'.cls ≠ "java/lang/invoke/VarHandle") (hlen : ∀ sig, parseMethodDescriptor x'.desc = some sig → argsL.length = sig.parameters.length) {st₀ : List Value} (hst : st₀ = argsL.reverse ++ .ref a :: st) (hW : (st.map fun v => v.category).sum = W) (hf : rm.frames + 1 ≤ R.frames) (hlo : W + (m' + 11) + rm.locals ≤ R.locals) (hk : k + rm.cells ≤ R.cells) (hn : n + rm.slots ≤ R.slots) (hls : ls.length = ml)
    (G : ∀ h', P h' → Go wd K₀ l Z R y bytes ml ret n0 kc ks Q h' (k + rm.cells) (n + rm.slots) pc' ls st) : Go wd K₀ l Z R y bytes ml ret n0 kc ks Q h k n pc ls st₀ := by
  subst hst
  intro p e s0 s m args below meth c T L Bs C X hh N
  obtain ⟨hd, rfl⟩ := D
  have hZ := C.2.2.2.2.1
  obtain ⟨cq, kq, qa, qb, qc⟩ := isOf (T := T) hZ hh E
  obtain ⟨v, vm₁, ⟨B, Lb, kb, nb⟩, -, X', ⟨Lq, ⟨⟨hQ, hsz⟩, Ns⟩, e1, e2, e3⟩, st'⟩ := X.virtualBack C.1 (y := x') (z := y') C.2.2.2.1 (mvT hZ w1) (mvT hZ w5) (nf s hZ) (mvT hZ w6) (mvT hZ w2) hy (backOf (W := W) (Q := fun v h' L => ((R0 P) v h' ∧ h.size ≤ h'.size) ∧ Fr n0 L) (hM []) hZ w4 w3 hf hlo) qa qc (g := mkF m pc ls.toArray (argsL.reverse ++ .ref a :: st)) rfl
    (by rw [C.2.2.1]; simpa using hls) (Steps.refl _) (argsL := argsL) (rest := st) hlen rfl (by show 2 * 0 + _ ≤ W; rw [← hW]; omega) (hb C.2.1 hd) (fun _ _ => ⟨rfl, hh, hk, hn⟩)
  dsimp only [Pt.U, Pt.locs, Pt.cells, Pt.slots] at X' hQ hsz e1 e2 e3 st'
  subst e1 e2 e3
  obtain ⟨rfl, hP⟩ := hQ
  exact (G B.heap hP p e s0 s m args below meth c B _ (Bs.mono hsz) C X' rfl (N.app Ns)).pre (fun t q => st'.trans q)
theorem go_callP0 {y' : MethodName} {b' : ByteArray} {m' : Nat} {r' : Option FieldType} {rm : Room} {idx W : Nat} {argsL : List Value} {P : Heap → Prop} {K : String} {a : Addr} (D : Dc bytes pc (.invokevirtual idx) 3 pc') (hM : Con false l Z y' b' m' r' rm (.ref a :: argsL).toArray h n0 (R0 P)) (E : Exa Z h a K)
    (w1 : (Cond.methodLink y.cls idx y').before a0 Z = true) (w2 : (Cond.instanceMethod y').before a0 Z = true) {kk : Nat} (wi : (Cond.instantiable y'.cls kk).before a0 Z = true) (w5 : (Cond.privateMethod y').before a0 Z = true) (w3 : (Cond.initialized y'.cls).before a0 Z = true) (w4 : (Cond.code y' b' m' r').before a0 Z = true) (hy : y'.cls ≠ "java/lang/invoke/MethodHandle" ∧ y'.cls ≠ "java/lang/invoke/VarHandle")
    (hlen : ∀ sig, parseMethodDescriptor y'.desc = some sig → argsL.length = sig.parameters.length) {st₀ : List Value} (hst : st₀ = argsL.reverse ++ .ref a :: st) (hW : (st.map fun v => v.category).sum = W) (hf : rm.frames + 1 ≤ R.frames) (hlo : W + (m' + 11) + rm.locals ≤ R.locals) (hk : k + rm.cells ≤ R.cells) (hn : n + rm.slots ≤ R.slots) (hls : ls.length = ml)
    (G : ∀ h', P h' → Go wd K₀ l Z R y bytes ml ret n0 kc ks Q h' (k + rm.cells) (n + rm.slots) pc' ls st) : Go wd K₀ l Z R y bytes ml ret n0 kc ks Q h k n pc ls st₀ := by
  subst hst
  intro p e s0 s m args below meth c T L Bs C X hh N
  obtain ⟨hd, rfl⟩ := D
  have hZ := C.2.2.2.2.1
  obtain ⟨cq, q1, q2⟩ := E.cell
  have wi' : (Cond.instantiable y'.cls kk).before args s = true := mvT hZ wi
  obtain ⟨c2, k2, i1, i2, -, i4, -⟩ := Cond.instantiable_spec wi'
  have hpa : s.PrivateAt y' := Cond.privateMethod_at (mvP hZ w5 (args := #[]))
  have w6 : (Cond.selects y'.cls y' y').before args s = true := selects_self_of_private i1 i2 (Bool.or_eq_false_iff.mp i4).1 hpa (mvT hZ w2) hy
  obtain ⟨v, vm₁, ⟨B, Lb, kb, nb⟩, -, X', ⟨Lq, ⟨⟨hQ, hsz⟩, Ns⟩, e1, e2, e3⟩, st'⟩ := X.privateBack C.1 (y := y') C.2.2.2.1 (mvT hZ w1) (mvT hZ w2) w6 hpa (mvT hZ w4) hy (backOf (W := W) (Q := fun v h' L => ((R0 P) v h' ∧ h.size ≤ h'.size) ∧ Fr n0 L) (hM []) hZ w4 w3 hf hlo) (g := mkF m pc ls.toArray (argsL.reverse ++ .ref a :: st)) rfl
    (by rw [C.2.2.1]; simpa using hls) (Steps.refl _) (a := a) (by rw [hh]; exact q1) q2 (argsL := argsL) (rest := st) hlen rfl (by show 2 * 0 + _ ≤ W; rw [← hW]; omega) (hb C.2.1 hd) (fun _ _ => ⟨rfl, hh, hk, hn⟩)
  dsimp only [Pt.U, Pt.locs, Pt.cells, Pt.slots] at X' hQ hsz e1 e2 e3 st'
  subst e1 e2 e3
  obtain ⟨rfl, hP⟩ := hQ
  exact (G B.heap hP p e s0 s m args below meth c B _ (Bs.mono hsz) C X' rfl (N.app Ns)).pre (fun t q => st'.trans q)
theorem Base.since {s0 s : State} {vm' : Vm} {h' : Heap} (B : Base true s0 s h) (q : s.Since vm' h'.size) (g : h.size ≤ h'.size) : Base true s0 (s.setVm vm') h' := by
  obtain ⟨vm0, k0, rfl, hS, hk⟩ := B
  exact ⟨vm', h'.size, rfl, hS.trans q (Nat.le_trans hk g), Nat.le_refl _⟩
theorem Ctx.since {p : Program} {s : State} {m : MethodId} {meth : Method} {c : Code} {vm' : Vm} {k' : Nat} (C : Ctx K₀ Z y bytes ml ret p s m meth c) (q : s.Since vm' k') : Ctx KT Z y bytes ml ret p (s.setVm vm') m meth c :=
  ⟨C.1, C.2.1, C.2.2.1, by rw [show (s.setVm vm').vm = vm' from rfl, q.1.alike.findClass]; exact C.2.2.2.1, State.Warmed39.trans C.2.2.2.2.1 q.1, C.2.2.2.2.2.1, C.2.2.2.2.2.2.1, C.2.2.2.2.2.2.2.1, trivial⟩
theorem go_ldcS {idx nn : Nat} {text : String} (D : Dc bytes pc (.ldc idx) 2 pc') (w : (Cond.stringLink y.cls idx text).before a0 Z = true) (wS : ∀ a ∈ Bundle.stringAtoms, a.before a0 Z = true) (hn : 4 * text.toList.length ≤ nn) (hbig : nn ≤ 536870912) (hc : k + 2 ≤ R.cells) (hl : n + (nn + 4) ≤ R.slots)
    (G : ∀ (a : Addr) h', Ext h h' → Go true KT l Z R y bytes ml ret n0 kc ks Q h' (k + 2) (n + (nn + 4)) pc' ls (.ref a :: st)) : Go true K₀ l Z R y bytes ml ret n0 kc ks Q h k n pc ls st := by
  intro p e s0 s m args below meth c T L Bs C X hh N
  obtain ⟨hd, rfl⟩ := D
  obtain ⟨vm0, k0, rfl, hS, hk⟩ := Bs
  obtain ⟨a, T', h', k1, X', e', E, hS', hk', hZ', hf', st'⟩ := ldcS X C.1 C.2.2.2.2.1 C.2.2.2.1 w wS hh hS hk (g := mkF m pc ls.toArray st) rfl (hb C.2.1 hd) hn hbig hc hl
  exact (G a h' E p e s0 _ m args below meth c T' L ⟨_, k1, rfl, hS', hk'⟩ ⟨C.1, C.2.1, C.2.2.1, hf', hZ', C.2.2.2.2.2.1, C.2.2.2.2.2.2.1, C.2.2.2.2.2.2.2.1, trivial⟩ X' e' N).pre st'
theorem go_K (G : Go true KT l Z R y bytes ml ret n0 kc ks Q h k n pc ls st) : Go true K₀ l Z R y bytes ml ret n0 kc ks Q h k n pc ls st := fun p e s0 s m args below meth c T L B C X hh N => G p e s0 s m args below meth c T L B ⟨C.1, C.2.1, C.2.2.1, C.2.2.2.1, C.2.2.2.2.1, C.2.2.2.2.2.1, C.2.2.2.2.2.2.1, C.2.2.2.2.2.2.2.1, trivial⟩ X hh N
theorem go_ldcV {idx nn : Nat} {text : String} {vs : List Value} {z : Int32} (D : Dc bytes pc (.ldc idx) 2 pc') (w : (Cond.stringLink y.cls idx text).before a0 Z = true) (wS : ∀ a ∈ Bundle.stringAtoms, a.before a0 Z = true) (hld : Jvm.Lit.constHeld Z y.cls idx) (hcw : Jvm.Lit.compactW.before a0 Z = true)
    (ht : (∀ c ∈ text.toList, c.toNat < 256) ∧ text.toList.map (fun c => Value.int (Jvm.Lit.byteI c.toNat.toUInt16)) = vs) (hz : ¬ z < 0) (hlv : z.toNatClampNeg = vs.length) (hn : 4 * text.toList.length ≤ nn) (hbig : nn ≤ 536870912) (hc : k + 2 ≤ R.cells) (hl : n + (nn + 4) ≤ R.slots) (hn0 : Z.heap.size = n0)
    (G : ∀ (a b : Addr) (kb : ClassId) h', Ext h h' → Exa Z h' a "java/lang/String" → Fld Z h' a "java/lang/String" "coder" "B" (.int 0) → Fld Z h' a "java/lang/String" "value" "[B" (.ref b) → Arv Z h' b kb .byte z vs (.int 0) → Go true KT l Z R y bytes ml ret n0 kc ks Q h' (k + 2) (n + (nn + 4)) pc' ls (.ref a :: st)) : Go true (fun s => s = Z) l Z R y bytes ml ret n0 kc ks Q h k n pc ls st := by
  intro p e s0 s m args below meth c T L Bs C X hh N
  obtain ⟨hd, rfl⟩ := D
  obtain ⟨vm0, k0, rfl, hS, hk⟩ := Bs
  have hZs : s0.setVm vm0 = Z := C.2.2.2.2.2.2.2.2
  subst hZs
  obtain ⟨a, T', h', k1, b, kb, X', e', E, hS', hk', hZ', hf', F1, F2, F3, F4, -, -, -, -, st'⟩ := ldcSVL (Z := s0.setVm vm0) (s := s0) (vm0 := vm0) (Ts := []) X C.1 C.2.2.2.2.1 C.2.2.2.1 w wS hh hS hk (hn0 ▸ N) (fun _ _ q => q) IB.start (by simp) hld hcw ht hz hlv (g := mkF m pc ls.toArray st) rfl (hb C.2.1 hd) hn hbig hc hl
  exact (G a b kb h' E F1 F2 F3 F4 p e s0 _ m args below meth c T' L ⟨_, k1, rfl, hS', hk'⟩ ⟨C.1, C.2.1, C.2.2.1, hf', hZ', C.2.2.2.2.2.1, C.2.2.2.2.2.2.1, C.2.2.2.2.2.2.2.1, trivial⟩ X' e' N).pre st'
theorem con_ofZ {as' : Array Value} (hp : plainFor y = true) (he : Jvm.Sym.laidSlots as'.toList ++ List.replicate (ml - (Jvm.Sym.laidSlots as'.toList).length) .unset = ls) (G : Go wd (fun s => s = Z) l Z R y bytes ml ret n0 R.cells R.slots Q Z.heap 0 0 0 ls []) (ws : List Cond) :
    MetFree l y (head1 (Cond.code y bytes ml ret :: ws) R) (fun a U => a = as' ∧ U = Z) (fun _ _ _ _ _ => True) (fun _ U o U' => ∃ v L, o = .returned v ∧ ((Q v U'.heap ∧ Z.heap.size ≤ U'.heap.size) ∧ Fr n0 L) ∧ EndK wd U o U' L R.cells R.slots) := by
  refine MetFree.of_bodySF hp hisR ?_
  intro p e s m args below meth c s₁ Bd hml hP hK
  obtain ⟨rfl, hZ⟩ := hP
  subst hZ
  have X0 : Stand p l e R s m args below meth c s₁ [] 0 0 := Stand.of_body Bd
  have e0 : s₁.heap = s.heap := by rw [Bd.state]; rfl
  obtain ⟨s₂, o, h1, h2, h3, v, L, e1, ⟨q1, q2⟩, q3⟩ := G p e s s m args below meth c s₁ [] (Base.start s rfl) ⟨Bd.exec, Bd.bytes, hml, findClass_of_methodNamed Bd.named, State.Warmed39.refl s, Bd.returns, Bd.notSynchronized, (name_of_methodNamed Bd.named Bd.method).1, rfl⟩ X0 e0 (Fr.nil n0)
  exact ⟨s₂, o, (XT.entry (Ls := ls.toArray) (by simpa using he)).trans h1, h2, h3, v, L, e1, ⟨⟨q1, q3.size⟩, q2⟩, q3⟩
theorem go_cast {idx : Nat} {C0 : String} {a : Addr} (D : Dc bytes pc (.checkcast idx) 3 pc') (w : (Cond.classLink y.cls idx C0).before a0 Z = true) (F : Ins Z h a C0 true) (G : Go wd K₀ l Z R y bytes ml ret n0 kc ks Q h k n pc' ls (.ref a :: st)) : Go wd K₀ l Z R y bytes ml ret n0 kc ks Q h k n pc ls (.ref a :: st) := by
  intro p e s0 s m args below meth c T L Bs C X hh N
  obtain ⟨hd, rfl⟩ := D
  obtain ⟨T', X', e', st'⟩ := castY X C.1 C.2.2.2.2.1 C.2.2.2.1 w hh F (g := mkF m pc ls.toArray (.ref a :: st)) rfl rfl (hb C.2.1 hd)
  exact (G p e s0 s m args below meth c T' L Bs C X' e' N).pre st'
theorem go_inst {idx : Nat} {C0 : String} {a : Addr} (D : Dc bytes pc (.instanceof idx) 3 pc') (w : (Cond.classLink y.cls idx C0).before a0 Z = true) (F : Ins Z h a C0 true) (G : Go wd K₀ l Z R y bytes ml ret n0 kc ks Q h k n pc' ls (.int 1 :: st)) : Go wd K₀ l Z R y bytes ml ret n0 kc ks Q h k n pc ls (.ref a :: st) := by
  intro p e s0 s m args below meth c T L Bs C X hh N
  obtain ⟨hd, rfl⟩ := D
  obtain ⟨T', X', e', st'⟩ := instY X C.1 C.2.2.2.2.1 C.2.2.2.1 w hh F (g := mkF m pc ls.toArray (.ref a :: st)) rfl rfl (hb C.2.1 hd)
  exact (G p e s0 s m args below meth c T' L Bs C X' e' N).pre st'
theorem go_wcallS1 {y' : MethodName} {b' : ByteArray} {m' : Nat} {r' : Option FieldType} {rm : Room} {idx W : Nat} {argsL : List Value} {P : Value → Heap → Prop} (D : Dc bytes pc (.invokestatic idx) 3 pc') (hM : Con true l Z y' b' m' r' rm argsL.toArray h n0 (R1 P))
    (w1 : (Cond.methodLink y.cls idx y').before a0 Z = true) (w2 : (Cond.static y').before a0 Z = true) (w3 : (Cond.initialized y'.cls).before a0 Z = true) (w4 : (Cond.code y' b' m' r').before a0 Z = true) (hy : y'.cls ≠ "java/lang/invoke/MethodHandle" ∧ y'.cls ≠ "java/lang/invoke/VarHandle")
    (hlen : ∀ sig, parseMethodDescriptor y'.desc = some sig → argsL.length = sig.parameters.length) {st₀ : List Value} (hst : st₀ = argsL.reverse ++ st) (hW : (st.map fun v => v.category).sum = W) (hf : rm.frames + 1 ≤ R.frames) (hlo : W + (m' + 11) + rm.locals ≤ R.locals) (hk : k + rm.cells ≤ R.cells) (hn : n + rm.slots ≤ R.slots) (hls : ls.length = ml)
    (G : ∀ w h', P w h' → Go true KT l Z R y bytes ml ret n0 kc ks Q h' (k + rm.cells) (n + rm.slots) pc' ls (w :: st)) : Go true K₀ l Z R y bytes ml ret n0 kc ks Q h k n pc ls st₀ := by
  subst hst
  intro p e s0 s m args below meth c T L Bs C X hh N
  obtain ⟨hd, rfl⟩ := D
  have hZ := C.2.2.2.2.1
  obtain ⟨v, vm₁, ⟨B, Lb, kb, nb⟩, -, X', hSi, -, ⟨Lq, ⟨⟨hQ, hsz⟩, Ns⟩, e1, e2, e3⟩, st'⟩ := callSS X C.1 (y := y') C.2.2.2.1 (mvT hZ w1) (mvT hZ w2) (mvT hZ w3) (mvT hZ w4) hy (backOfS (W := W) (Q := fun v h' L => ((R1 P) v h' ∧ h.size ≤ h'.size) ∧ Fr n0 L) (hM []) hZ w4 w3 hf hlo) (g := mkF m pc ls.toArray (argsL.reverse ++ st)) rfl
    (by rw [C.2.2.1]; simpa using hls) (argsL := argsL) (rest := st) hlen rfl (by show 2 * 0 + _ ≤ W; rw [← hW]; omega) (hb C.2.1 hd) (fun _ _ => ⟨rfl, hh, hk, hn⟩)
  dsimp only [Pt.U, Pt.locs, Pt.cells, Pt.slots] at X' hSi hQ hsz e1 e2 e3 st'
  subst e1 e2 e3
  obtain ⟨w, rfl, hP⟩ := hQ
  exact (G w B.heap hP p e s0 _ m args below meth c B _ (Bs.since hSi hsz) (C.since hSi) X' rfl (N.app Ns)).pre (fun t q => st'.trans q)
theorem go_wcallV1 {y' : MethodName} {b' : ByteArray} {m' : Nat} {r' : Option FieldType} {rm : Room} {idx W : Nat} {argsL : List Value} {P : Value → Heap → Prop} {x' : MethodName} {K : String} {a : Addr} (D : Dc bytes pc (.invokevirtual idx) 3 pc') (hM : Con true l Z y' b' m' r' rm (.ref a :: argsL).toArray h n0 (R1 P)) (E : Exa Z h a K)
    (w1 : (Cond.methodLink y.cls idx x').before a0 Z = true) (w5 : (Cond.declares x').before a0 Z = true) (nf : ∀ s : State, Z.Warmed39 s.vm → NotFace s x') (w6 : (Cond.selects K x' y').before a0 Z = true) (w2 : (Cond.instanceMethod y').before a0 Z = true) (w3 : (Cond.initialized y'.cls).before a0 Z = true) (w4 : (Cond.code y' b' m' r').before a0 Z = true)
    (hy : x'.cls ≠ "java/lang/invoke/MethodHandle" ∧ x'.cls ≠ "java/lang/invoke/VarHandle") (hlen : ∀ sig, parseMethodDescriptor x'.desc = some sig → argsL.length = sig.parameters.length) {st₀ : List Value} (hst : st₀ = argsL.reverse ++ .ref a :: st) (hW : (st.map fun v => v.category).sum = W) (hf : rm.frames + 1 ≤ R.frames) (hlo : W + (m' + 11) + rm.locals ≤ R.locals) (hk : k + rm.cells ≤ R.cells) (hn : n + rm.slots ≤ R.slots) (hls : ls.length = ml)
    (G : ∀ w h', P w h' → Go true KT l Z R y bytes ml ret n0 kc ks Q h' (k + rm.cells) (n + rm.slots) pc' ls (w :: st)) : Go true K₀ l Z R y bytes ml ret n0 kc ks Q h k n pc ls st₀ := by
  subst hst
  intro p e s0 s m args below meth c T L Bs C X hh N
  obtain ⟨hd, rfl⟩ := D
  have hZ := C.2.2.2.2.1
  obtain ⟨cq, kq, qa, qb, qc⟩ := isOf (T := T) hZ hh E
  obtain ⟨v, vm₁, ⟨B, Lb, kb, nb⟩, -, X', hSi, -, ⟨Lq, ⟨⟨hQ, hsz⟩, Ns⟩, e1, e2, e3⟩, st'⟩ := X.virtualBackS C.1 (y := x') (z := y') C.2.2.2.1 (mvT hZ w1) (mvT hZ w5) (nf s hZ) (mvT hZ w6) (mvT hZ w2) hy (backOfS (W := W) (Q := fun v h' L => ((R1 P) v h' ∧ h.size ≤ h'.size) ∧ Fr n0 L) (hM []) hZ w4 w3 hf hlo) qa qc (g := mkF m pc ls.toArray (argsL.reverse ++ .ref a :: st)) rfl
    (by rw [C.2.2.1]; simpa using hls) (Steps.refl _) (argsL := argsL) (rest := st) hlen rfl (by show 2 * 0 + _ ≤ W; rw [← hW]; omega) (hb C.2.1 hd) (fun _ _ => ⟨rfl, hh, hk, hn⟩)
  dsimp only [Pt.U, Pt.locs, Pt.cells, Pt.slots] at X' hSi hQ hsz e1 e2 e3 st'
  subst e1 e2 e3
  obtain ⟨w, rfl, hP⟩ := hQ
  exact (G w B.heap hP p e s0 _ m args below meth c B _ (Bs.since hSi hsz) (C.since hSi) X' rfl (N.app Ns)).pre (fun t q => st'.trans q)
theorem go_wcallP1 {y' : MethodName} {b' : ByteArray} {m' : Nat} {r' : Option FieldType} {rm : Room} {idx W : Nat} {argsL : List Value} {P : Value → Heap → Prop} {K : String} {a : Addr} (D : Dc bytes pc (.invokevirtual idx) 3 pc') (hM : Con true l Z y' b' m' r' rm (.ref a :: argsL).toArray h n0 (R1 P)) (E : Exa Z h a K)
    (w1 : (Cond.methodLink y.cls idx y').before a0 Z = true) (w2 : (Cond.instanceMethod y').before a0 Z = true) {kk : Nat} (wi : (Cond.instantiable y'.cls kk).before a0 Z = true) (w5 : (Cond.privateMethod y').before a0 Z = true) (w3 : (Cond.initialized y'.cls).before a0 Z = true) (w4 : (Cond.code y' b' m' r').before a0 Z = true) (hy : y'.cls ≠ "java/lang/invoke/MethodHandle" ∧ y'.cls ≠ "java/lang/invoke/VarHandle")
    (hlen : ∀ sig, parseMethodDescriptor y'.desc = some sig → argsL.length = sig.parameters.length) {st₀ : List Value} (hst : st₀ = argsL.reverse ++ .ref a :: st) (hW : (st.map fun v => v.category).sum = W) (hf : rm.frames + 1 ≤ R.frames) (hlo : W + (m' + 11) + rm.locals ≤ R.locals) (hk : k + rm.cells ≤ R.cells) (hn : n + rm.slots ≤ R.slots) (hls : ls.length = ml)
    (G : ∀ w h', P w h' → Go true KT l Z R y bytes ml ret n0 kc ks Q h' (k + rm.cells) (n + rm.slots) pc' ls (w :: st)) : Go true K₀ l Z R y bytes ml ret n0 kc ks Q h k n pc ls st₀ := by
  subst hst
  intro p e s0 s m args below meth c T L Bs C X hh N
  obtain ⟨hd, rfl⟩ := D
  have hZ := C.2.2.2.2.1
  obtain ⟨cq, q1, q2⟩ := E.cell
  have wi' : (Cond.instantiable y'.cls kk).before args s = true := mvT hZ wi
  obtain ⟨c2, k2, i1, i2, -, i4, -⟩ := Cond.instantiable_spec wi'
  have hpa : s.PrivateAt y' := Cond.privateMethod_at (mvP hZ w5 (args := #[]))
  have w6 : (Cond.selects y'.cls y' y').before args s = true := selects_self_of_private i1 i2 (Bool.or_eq_false_iff.mp i4).1 hpa (mvT hZ w2) hy
  obtain ⟨v, vm₁, ⟨B, Lb, kb, nb⟩, -, X', hSi, -, ⟨Lq, ⟨⟨hQ, hsz⟩, Ns⟩, e1, e2, e3⟩, st'⟩ := X.privateBackS C.1 (y := y') C.2.2.2.1 (mvT hZ w1) (mvT hZ w2) w6 hpa (mvT hZ w4) hy (backOfS (W := W) (Q := fun v h' L => ((R1 P) v h' ∧ h.size ≤ h'.size) ∧ Fr n0 L) (hM []) hZ w4 w3 hf hlo) (g := mkF m pc ls.toArray (argsL.reverse ++ .ref a :: st)) rfl
    (by rw [C.2.2.1]; simpa using hls) (Steps.refl _) (a := a) (by rw [hh]; exact q1) q2 (argsL := argsL) (rest := st) hlen rfl (by show 2 * 0 + _ ≤ W; rw [← hW]; omega) (hb C.2.1 hd) (fun _ _ => ⟨rfl, hh, hk, hn⟩)
  dsimp only [Pt.U, Pt.locs, Pt.cells, Pt.slots] at X' hSi hQ hsz e1 e2 e3 st'
  subst e1 e2 e3
  obtain ⟨w, rfl, hP⟩ := hQ
  exact (G w B.heap hP p e s0 _ m args below meth c B _ (Bs.since hSi hsz) (C.since hSi) X' rfl (N.app Ns)).pre (fun t q => st'.trans q)
theorem go_wcallS0 {y' : MethodName} {b' : ByteArray} {m' : Nat} {r' : Option FieldType} {rm : Room} {idx W : Nat} {argsL : List Value} {P : Heap → Prop} (D : Dc bytes pc (.invokestatic idx) 3 pc') (hM : Con true l Z y' b' m' r' rm argsL.toArray h n0 (R0 P))
    (w1 : (Cond.methodLink y.cls idx y').before a0 Z = true) (w2 : (Cond.static y').before a0 Z = true) (w3 : (Cond.initialized y'.cls).before a0 Z = true) (w4 : (Cond.code y' b' m' r').before a0 Z = true) (hy : y'.cls ≠ "java/lang/invoke/MethodHandle" ∧ y'.cls ≠ "java/lang/invoke/VarHandle")
    (hlen : ∀ sig, parseMethodDescriptor y'.desc = some sig → argsL.length = sig.parameters.length) {st₀ : List Value} (hst : st₀ = argsL.reverse ++ st) (hW : (st.map fun v => v.category).sum = W) (hf : rm.frames + 1 ≤ R.frames) (hlo : W + (m' + 11) + rm.locals ≤ R.locals) (hk : k + rm.cells ≤ R.cells) (hn : n + rm.slots ≤ R.slots) (hls : ls.length = ml)
    (G : ∀ h', P h' → Go true KT l Z R y bytes ml ret n0 kc ks Q h' (k + rm.cells) (n + rm.slots) pc' ls st) : Go true K₀ l Z R y bytes ml ret n0 kc ks Q h k n pc ls st₀ := by
  subst hst
  intro p e s0 s m args below meth c T L Bs C X hh N
  obtain ⟨hd, rfl⟩ := D
  have hZ := C.2.2.2.2.1
  obtain ⟨v, vm₁, ⟨B, Lb, kb, nb⟩, -, X', hSi, -, ⟨Lq, ⟨⟨hQ, hsz⟩, Ns⟩, e1, e2, e3⟩, st'⟩ := callSS X C.1 (y := y') C.2.2.2.1 (mvT hZ w1) (mvT hZ w2) (mvT hZ w3) (mvT hZ w4) hy (backOfS (W := W) (Q := fun v h' L => ((R0 P) v h' ∧ h.size ≤ h'.size) ∧ Fr n0 L) (hM []) hZ w4 w3 hf hlo) (g := mkF m pc ls.toArray (argsL.reverse ++ st)) rfl
    (by rw [C.2.2.1]; simpa using hls) (argsL := argsL) (rest := st) hlen rfl (by show 2 * 0 + _ ≤ W; rw [← hW]; omega) (hb C.2.1 hd) (fun _ _ => ⟨rfl, hh, hk, hn⟩)
  dsimp only [Pt.U, Pt.locs, Pt.cells, Pt.slots] at X' hSi hQ hsz e1 e2 e3 st'
  subst e1 e2 e3
  obtain ⟨rfl, hP⟩ := hQ
  exact (G B.heap hP p e s0 _ m args below meth c B _ (Bs.since hSi hsz) (C.since hSi) X' rfl (N.app Ns)).pre (fun t q => st'.trans q)
theorem go_wcallN0 {y' : MethodName} {b' : ByteArray} {m' : Nat} {r' : Option FieldType} {rm : Room} {idx W : Nat} {argsL : List Value} {P : Heap → Prop} {a : Addr} (D : Dc bytes pc (.invokespecial idx) 3 pc') (hi : y'.name = "<init>") (hr' : r' = none) (hM : Con true l Z y' b' m' r' rm (.ref a :: argsL).toArray h n0 (R0 P))
    (w1 : (Cond.methodLink y.cls idx y').before a0 Z = true) (w2 : (Cond.instanceMethod y').before a0 Z = true) (w3 : (Cond.initialized y'.cls).before a0 Z = true) (w4 : (Cond.code y' b' m' r').before a0 Z = true) (hy : y'.cls ≠ "java/lang/invoke/MethodHandle" ∧ y'.cls ≠ "java/lang/invoke/VarHandle")
    (hlen : ∀ sig, parseMethodDescriptor y'.desc = some sig → argsL.length = sig.parameters.length) {st₀ : List Value} (hst : st₀ = argsL.reverse ++ .ref a :: st) (hW : (st.map fun v => v.category).sum = W) (hf : rm.frames + 1 ≤ R.frames) (hlo : W + (m' + 11) + rm.locals ≤ R.locals) (hk : k + rm.cells ≤ R.cells) (hn : n + rm.slots ≤ R.slots) (hls : ls.length = ml)
    (G : ∀ h', P h' → Go true KT l Z R y bytes ml ret n0 kc ks Q h' (k + rm.cells) (n + rm.slots) pc' ls st) : Go true K₀ l Z R y bytes ml ret n0 kc ks Q h k n pc ls st₀ := by
  subst hst hr'
  intro p e s0 s m args below meth c T L Bs C X hh N
  obtain ⟨hd, rfl⟩ := D
  have hZ := C.2.2.2.2.1
  obtain ⟨v, vm₁, ⟨B, Lb, kb, nb⟩, -, X', hSi, -, ⟨Lq, ⟨⟨hQ, hsz⟩, Ns⟩, e1, e2, e3⟩, st'⟩ := X.specialBackS C.1 (y := y') hi C.2.2.2.1 (mvT hZ w1) (mvT hZ w2) (mvT hZ w4) hy (backOfS (W := W) (Q := fun v h' L => ((R0 P) v h' ∧ h.size ≤ h'.size) ∧ Fr n0 L) (hM []) hZ w4 w3 hf hlo) (g := mkF m pc ls.toArray (argsL.reverse ++ .ref a :: st)) rfl
    (by rw [C.2.2.1]; simpa using hls) (Steps.refl _) (a := a) (argsL := argsL) (rest := st) hlen rfl (by show 2 * 0 + _ ≤ W; rw [← hW]; omega) (hb C.2.1 hd) (fun _ _ => ⟨rfl, hh, hk, hn⟩)
  dsimp only [Pt.U, Pt.locs, Pt.cells, Pt.slots] at X' hSi hQ hsz e1 e2 e3 st'
  subst e1 e2 e3
  obtain ⟨rfl, hP⟩ := hQ
  exact (G B.heap hP p e s0 _ m args below meth c B _ (Bs.since hSi hsz) (C.since hSi) X' rfl (N.app Ns)).pre (fun t q => st'.trans q)
theorem go_wcallV0 {y' : MethodName} {b' : ByteArray} {m' : Nat} {r' : Option FieldType} {rm : Room} {idx W : Nat} {argsL : List Value} {P : Heap → Prop} {x' : MethodName} {K : String} {a : Addr} (D : Dc bytes pc (.invokevirtual idx) 3 pc') (hM : Con true l Z y' b' m' r' rm (.ref a :: argsL).toArray h n0 (R0 P)) (E : Exa Z h a K)
    (w1 : (Cond.methodLink y.cls idx x').before a0 Z = true) (w5 : (Cond.declares x').before a0 Z = true) (nf : ∀ s : State, Z.Warmed39 s.vm → NotFace s x') (w6 : (Cond.selects K x' y').before a0 Z = true) (w2 : (Cond.instanceMethod y').before a0 Z = true) (w3 : (Cond.initialized y'.cls).before a0 Z = true) (w4 : (Cond.code y' b' m' r').before a0 Z = true)
    (hy : x'.cls ≠ "java/lang/invoke/MethodHandle" ∧ x'.cls ≠ "java/lang/invoke/VarHandle") (hlen : ∀ sig, parseMethodDescriptor x'.desc = some sig → argsL.length = sig.parameters.length) {st₀ : List Value} (hst : st₀ = argsL.reverse ++ .ref a :: st) (hW : (st.map fun v => v.category).sum = W) (hf : rm.frames + 1 ≤ R.frames) (hlo : W + (m' + 11) + rm.locals ≤ R.locals) (hk : k + rm.cells ≤ R.cells) (hn : n + rm.slots ≤ R.slots) (hls : ls.length = ml)
    (G : ∀ h', P h' → Go true KT l Z R y bytes ml ret n0 kc ks Q h' (k + rm.cells) (n + rm.slots) pc' ls st) : Go true K₀ l Z R y bytes ml ret n0 kc ks Q h k n pc ls st₀ := by
  subst hst
  intro p e s0 s m args below meth c T L Bs C X hh N
  obtain ⟨hd, rfl⟩ := D
  have hZ := C.2.2.2.2.1
  obtain ⟨cq, kq, qa, qb, qc⟩ := isOf (T := T) hZ hh E
  obtain ⟨v, vm₁, ⟨B, Lb, kb, nb⟩, -, X', hSi, -, ⟨Lq, ⟨⟨hQ, hsz⟩, Ns⟩, e1, e2, e3⟩, st'⟩ := X.virtualBackS C.1 (y := x') (z := y') C.2.2.2.1 (mvT hZ w1) (mvT hZ w5) (nf s hZ) (mvT hZ w6) (mvT hZ w2) hy (backOfS (W := W) (Q := fun v h' L => ((R0 P) v h' ∧ h.size ≤ h'.size) ∧ Fr n0 L) (hM []) hZ w4 w3 hf hlo) qa qc (g := mkF m pc ls.toArray (argsL.reverse ++ .ref a :: st)) rfl
    (by rw [C.2.2.1]; simpa using hls) (Steps.refl _) (argsL := argsL) (rest := st) hlen rfl (by show 2 * 0 + _ ≤ W; rw [← hW]; omega) (hb C.2.1 hd) (fun _ _ => ⟨rfl, hh, hk, hn⟩)
  dsimp only [Pt.U, Pt.locs, Pt.cells, Pt.slots] at X' hSi hQ hsz e1 e2 e3 st'
  subst e1 e2 e3
  obtain ⟨rfl, hP⟩ := hQ
  exact (G B.heap hP p e s0 _ m args below meth c B _ (Bs.since hSi hsz) (C.since hSi) X' rfl (N.app Ns)).pre (fun t q => st'.trans q)
theorem go_wcallP0 {y' : MethodName} {b' : ByteArray} {m' : Nat} {r' : Option FieldType} {rm : Room} {idx W : Nat} {argsL : List Value} {P : Heap → Prop} {K : String} {a : Addr} (D : Dc bytes pc (.invokevirtual idx) 3 pc') (hM : Con true l Z y' b' m' r' rm (.ref a :: argsL).toArray h n0 (R0 P)) (E : Exa Z h a K)
    (w1 : (Cond.methodLink y.cls idx y').before a0 Z = true) (w2 : (Cond.instanceMethod y').before a0 Z = true) {kk : Nat} (wi : (Cond.instantiable y'.cls kk).before a0 Z = true) (w5 : (Cond.privateMethod y').before a0 Z = true) (w3 : (Cond.initialized y'.cls).before a0 Z = true) (w4 : (Cond.code y' b' m' r').before a0 Z = true) (hy : y'.cls ≠ "java/lang/invoke/MethodHandle" ∧ y'.cls ≠ "java/lang/invoke/VarHandle")
    (hlen : ∀ sig, parseMethodDescriptor y'.desc = some sig → argsL.length = sig.parameters.length) {st₀ : List Value} (hst : st₀ = argsL.reverse ++ .ref a :: st) (hW : (st.map fun v => v.category).sum = W) (hf : rm.frames + 1 ≤ R.frames) (hlo : W + (m' + 11) + rm.locals ≤ R.locals) (hk : k + rm.cells ≤ R.cells) (hn : n + rm.slots ≤ R.slots) (hls : ls.length = ml)
    (G : ∀ h', P h' → Go true KT l Z R y bytes ml ret n0 kc ks Q h' (k + rm.cells) (n + rm.slots) pc' ls st) : Go true K₀ l Z R y bytes ml ret n0 kc ks Q h k n pc ls st₀ := by
  subst hst
  intro p e s0 s m args below meth c T L Bs C X hh N
  obtain ⟨hd, rfl⟩ := D
  have hZ := C.2.2.2.2.1
  obtain ⟨cq, q1, q2⟩ := E.cell
  have wi' : (Cond.instantiable y'.cls kk).before args s = true := mvT hZ wi
  obtain ⟨c2, k2, i1, i2, -, i4, -⟩ := Cond.instantiable_spec wi'
  have hpa : s.PrivateAt y' := Cond.privateMethod_at (mvP hZ w5 (args := #[]))
  have w6 : (Cond.selects y'.cls y' y').before args s = true := selects_self_of_private i1 i2 (Bool.or_eq_false_iff.mp i4).1 hpa (mvT hZ w2) hy
  obtain ⟨v, vm₁, ⟨B, Lb, kb, nb⟩, -, X', hSi, -, ⟨Lq, ⟨⟨hQ, hsz⟩, Ns⟩, e1, e2, e3⟩, st'⟩ := X.privateBackS C.1 (y := y') C.2.2.2.1 (mvT hZ w1) (mvT hZ w2) w6 hpa (mvT hZ w4) hy (backOfS (W := W) (Q := fun v h' L => ((R0 P) v h' ∧ h.size ≤ h'.size) ∧ Fr n0 L) (hM []) hZ w4 w3 hf hlo) (g := mkF m pc ls.toArray (argsL.reverse ++ .ref a :: st)) rfl
    (by rw [C.2.2.1]; simpa using hls) (Steps.refl _) (a := a) (by rw [hh]; exact q1) q2 (argsL := argsL) (rest := st) hlen rfl (by show 2 * 0 + _ ≤ W; rw [← hW]; omega) (hb C.2.1 hd) (fun _ _ => ⟨rfl, hh, hk, hn⟩)
  dsimp only [Pt.U, Pt.locs, Pt.cells, Pt.slots] at X' hSi hQ hsz e1 e2 e3 st'
  subst e1 e2 e3
  obtain ⟨rfl, hP⟩ := hQ
  exact (G B.heap hP p e s0 _ m args below meth c B _ (Bs.since hSi hsz) (C.since hSi) X' rfl (N.app Ns)).pre (fun t q => st'.trans q)
theorem go_initO {idx W : Nat} {a : Addr} (D : Dc bytes pc (.invokespecial idx) 3 pc') (w1 : (Cond.methodLink y.cls idx Lib.objectInit).before a0 Z = true) (w2 : (Cond.instanceMethod Lib.objectInit).before a0 Z = true) (w3 : (Cond.code Lib.objectInit ⟨#[0xb1]⟩ 1 none).before a0 Z = true)
    (hls : ls.length = ml) (hf : 1 ≤ R.frames) (hW : (st.map fun v => v.category).sum = W) (hlo : W + 12 ≤ R.locals) (G : Go wd K₀ l Z R y bytes ml ret n0 kc ks Q h k n pc' ls st) : Go wd K₀ l Z R y bytes ml ret n0 kc ks Q h k n pc ls (.ref a :: st) := by
  intro p e s0 s m args below meth c T L Bs C X hh N
  obtain ⟨hd, rfl⟩ := D
  obtain ⟨T', X', e', st'⟩ := initO X C.1 C.2.2.2.2.1 C.2.2.2.1 w1 w2 w3 hh (g := mkF m pc ls.toArray (.ref a :: st)) rfl (by rw [C.2.2.1]; simpa using hls) rfl (hb C.2.1 hd) hf (W := W) (by show 2 * 0 + _ ≤ W; rw [← hW]; omega) hlo
  exact (G p e s0 s m args below meth c T' L Bs C X' e' N).pre st'
/-! ## 2. fields, objects, arrays, by the library's own facts -/
theorem go_getF {idx : Nat} {R0 O nm d host : String} {a : Addr} {v : Value} (D : Dc bytes pc (.getfield idx) 3 pc') (w : (Cond.fieldLink y.cls idx R0 nm d).before a0 Z = true ∨ (Cond.fieldLinkNest y.cls idx R0 nm d host).before a0 Z = true) (via : Via Z R0 O nm d) (F : Fld Z h a O nm d v) (G : Go wd K₀ l Z R y bytes ml ret n0 kc ks Q h k n pc' ls (v :: st)) : Go wd K₀ l Z R y bytes ml ret n0 kc ks Q h k n pc ls (.ref a :: st) := by
  intro p e s0 s m args below meth c T L Bs C X hh N
  obtain ⟨hd, rfl⟩ := D
  obtain ⟨T', X', e', st'⟩ := getF X C.1 C.2.2.2.2.1 C.2.2.2.1 w via hh F (g := mkF m pc ls.toArray (.ref a :: st)) rfl rfl (hb C.2.1 hd)
  exact (G p e s0 s m args below meth c T' L Bs C X' e' N).pre st'
theorem go_getS {idx : Nat} {R0 O nm d host : String} {v : Value} (D : Dc bytes pc (.getstatic idx) 3 pc') (w : (Cond.fieldLink y.cls idx R0 nm d).before a0 Z = true ∨ (Cond.fieldLinkNest y.cls idx R0 nm d host).before a0 Z = true) (via : Via Z R0 O nm d) (F : Sta Z h O nm d v) (G : Go wd K₀ l Z R y bytes ml ret n0 kc ks Q h k n pc' ls (v :: st)) : Go wd K₀ l Z R y bytes ml ret n0 kc ks Q h k n pc ls st := by
  intro p e s0 s m args below meth c T L Bs C X hh N
  obtain ⟨hd, rfl⟩ := D
  obtain ⟨T', X', e', st'⟩ := getS2 X C.1 C.2.2.2.2.1 C.2.2.2.1 w via hh F (g := mkF m pc ls.toArray st) rfl (hb C.2.1 hd)
  exact (G p e s0 s m args below meth c T' L Bs C X' e' N).pre st'
theorem go_putF {idx kk : Nat} {R0 O nm d host K : String} {ty : FieldType} {a : Addr} {v old : Value} (D : Dc bytes pc (.putfield idx) 3 pc') (w : (Cond.fieldLink y.cls idx R0 nm d).before a0 Z = true ∨ (Cond.fieldLinkNest y.cls idx R0 nm d host).before a0 Z = true) (via : Via Z R0 O nm d) (F : Fld Z h a O nm d old) (E : Exa Z h a K)
    (Lw : (Cond.lays K O nm d).before a0 Z = true ∨ ((Cond.laysFinal K O nm d).before a0 Z = true ∧ y.cls = O ∧ y.name = "<init>")) (wi : (Cond.instantiable K kk).before a0 Z = true) (hty : parseFieldDescriptor d = some ty) (hnr : narrow ty v = v) (hfi : fits ty v = true) (ha : n0 ≤ a)
    (G : ∀ h', Wr h h' a (Jvm.RoadKit.slotOf Z O nm d) v → Go wd K₀ l Z R y bytes ml ret n0 kc ks Q h' k n pc' ls st) : Go wd K₀ l Z R y bytes ml ret n0 kc ks Q h k n pc ls (v :: .ref a :: st) := by
  intro p e s0 s m args below meth c T L Bs C X hh N
  obtain ⟨hd, rfl⟩ := D
  obtain ⟨T', h', X', e', W', st'⟩ := putF X C.1 C.2.2.2.2.1 C.2.2.2.1 w via hh F E (Lw.imp id fun q => ⟨q.1, q.2.1, C.2.2.2.2.2.2.2.1.trans q.2.2⟩) wi hty hnr hfi (g := mkF m pc ls.toArray (v :: .ref a :: st)) rfl rfl (hb C.2.1 hd)
  exact (G h' W' p e s0 s m args below meth c T' _ (Bs.mono (Nat.le_of_eq W'.size.symm)) C X' e' (Fr.snoc X' N ha)).pre st'
theorem go_newO {idx sl : Nat} {K : String} (D : Dc bytes pc (.new idx) 3 pc') (w : (Cond.classLink y.cls idx K).before a0 Z = true) (wi : (Cond.instantiable K sl).before a0 Z = true) (wz : (Cond.initialized K).before a0 Z = true) (hk : k + 1 ≤ R.cells) (hn : n + sl ≤ R.slots)
    (G : ∀ h', Ext h h' → Exa Z h' h.size K → (∀ {O nm d : String} {ty : FieldType}, Laid Z a0 K O nm d → parseFieldDescriptor d = some ty → Fld Z h' h.size O nm d (defaultValue ty)) → Go wd K₀ l Z R y bytes ml ret n0 kc ks Q h' (k + 1) (n + sl) pc' ls (.ref h.size :: st)) : Go wd K₀ l Z R y bytes ml ret n0 kc ks Q h k n pc ls st := by
  intro p e s0 s m args below meth c T L Bs C X hh N
  obtain ⟨hd, rfl⟩ := D
  obtain ⟨T', h', X', e', E', A', F', -, st'⟩ := newO X C.1 C.2.2.2.2.1 C.2.2.2.1 w wi wz hh (g := mkF m pc ls.toArray st) rfl (hb C.2.1 hd) hk hn
  exact (G h' E' A' F' p e s0 s m args below meth c T' _ (Bs.mono E'.1) C X' e' N).pre st'
theorem go_newP {aty : ArrayType} {z : Int32} {ad : String} (D : Dc bytes pc (.newarray aty) 2 pc') (w : (Cond.arrayClass (newarray.typeOf aty)).before a0 Z = true) (hz : ¬ z < 0) (cap : Nat) (hcap : z.toNatClampNeg ≤ cap) (hb8 : cap * 8 ≤ 536870912) (hk : k + 1 ≤ R.cells) (hn : n + cap ≤ R.slots) (had : "[" ++ (newarray.typeOf aty).toString = ad)
    (G : ∀ h' cA, Ext h h' → Arr Z h' h.size (newA cA (newarray.typeOf aty) z) (newarray.typeOf aty) → Exa Z h' h.size ad → Go wd K₀ l Z R y bytes ml ret n0 kc ks Q h' (k + 1) (n + cap) pc' ls (.ref h.size :: st)) : Go wd K₀ l Z R y bytes ml ret n0 kc ks Q h k n pc ls (.int z :: st) := by
  intro p e s0 s m args below meth c T L Bs C X hh N
  obtain ⟨hd, rfl⟩ := D
  obtain ⟨T', h', cA, X', e', E', A', F', st'⟩ := newPE X C.1 C.2.2.2.2.1 w hh (g := mkF m pc ls.toArray (.int z :: st)) rfl (hb C.2.1 hd) rfl hz hcap hb8 hk hn had
  exact (G h' cA E' A' F' p e s0 s m args below meth c T' _ (Bs.mono E'.1) C X' e' N).pre st'
theorem go_newR {idx : Nat} {K : String} {z : Int32} {ad : String} (D : Dc bytes pc (.anewarray idx) 3 pc') (w1 : (Cond.classLink y.cls idx K).before a0 Z = true) (w2 : (Cond.arrayOver (.object K)).before a0 Z = true) (hz : ¬ z < 0) (cap : Nat) (hcap : z.toNatClampNeg ≤ cap) (hb8 : cap * 8 ≤ 536870912) (hk : k + 1 ≤ R.cells) (hn : n + cap ≤ R.slots) (had : "[" ++ (FieldType.object K).toString = ad)
    (G : ∀ h' cA, Ext h h' → Arr Z h' h.size (newA cA (.object K) z) (.object K) → Exa Z h' h.size ad → Ovr Z cA K → Go wd K₀ l Z R y bytes ml ret n0 kc ks Q h' (k + 1) (n + cap) pc' ls (.ref h.size :: st)) : Go wd K₀ l Z R y bytes ml ret n0 kc ks Q h k n pc ls (.int z :: st) := by
  intro p e s0 s m args below meth c T L Bs C X hh N
  obtain ⟨hd, rfl⟩ := D
  obtain ⟨T', h', cA, X', e', E', A', F', O', st'⟩ := newRE X C.1 C.2.2.2.2.1 C.2.2.2.1 w1 w2 hh (g := mkF m pc ls.toArray (.int z :: st)) rfl (hb C.2.1 hd) rfl hz hcap hb8 hk hn had
  exact (G h' cA E' A' F' O' p e s0 s m args below meth c T' _ (Bs.mono E'.1) C X' e' N).pre st'
theorem go_len {a : Addr} {cl : Cell} {ty : FieldType} {z : Int32} (D : Dc bytes pc .arraylength 1 pc') (A : Arr Z h a cl ty) (hz : cl.slots.size.toInt32 = z) (G : Go wd K₀ l Z R y bytes ml ret n0 kc ks Q h k n pc' ls (.int z :: st)) : Go wd K₀ l Z R y bytes ml ret n0 kc ks Q h k n pc ls (.ref a :: st) := by
  intro p e s0 s m args below meth c T L Bs C X hh N
  obtain ⟨hd, rfl⟩ := D
  subst hz
  exact (G p e s0 s m args below meth c T L Bs C X hh N).pre fun t q => X.arraylength C.1 (by rw [hh]; exact A.1) (State.isArrayOf_alike C.2.2.2.2.1.alike A.2.1) (g := mkF m pc ls.toArray (.ref a :: st)) rfl rfl (hb C.2.1 hd) _ q
theorem go_iaload {a : Addr} {cl : Cell} {j : Int32} {v : Value} (D : Dc bytes pc .iaload 1 pc') (A : Arr Z h a cl .int) (hj : ¬ (j < 0 ∨ cl.slots.size ≤ j.toNatClampNeg)) (hv : cl.slots[j.toNatClampNeg]? = some v) (G : Go wd K₀ l Z R y bytes ml ret n0 kc ks Q h k n pc' ls (v :: st)) : Go wd K₀ l Z R y bytes ml ret n0 kc ks Q h k n pc ls (.int j :: .ref a :: st) := by
  intro p e s0 s m args below meth c T L Bs C X hh N
  obtain ⟨hd, rfl⟩ := D
  exact (G p e s0 s m args below meth c T L Bs C X hh N).pre fun t q => X.iaload C.1 (j := j) (v := v) (by rw [hh]; exact A.1) (State.isArrayOf_alike C.2.2.2.2.1.alike A.2.1) A.2.2 hj hv (g := mkF m pc ls.toArray (.int j :: .ref a :: st)) rfl rfl (hb C.2.1 hd) _ q
theorem go_caload {a : Addr} {cl : Cell} {j : Int32} {v : Value} (D : Dc bytes pc .caload 1 pc') (A : Arr Z h a cl .char) (hj : ¬ (j < 0 ∨ cl.slots.size ≤ j.toNatClampNeg)) (hv : cl.slots[j.toNatClampNeg]? = some v) (G : Go wd K₀ l Z R y bytes ml ret n0 kc ks Q h k n pc' ls (v :: st)) : Go wd K₀ l Z R y bytes ml ret n0 kc ks Q h k n pc ls (.int j :: .ref a :: st) := by
  intro p e s0 s m args below meth c T L Bs C X hh N
  obtain ⟨hd, rfl⟩ := D
  exact (G p e s0 s m args below meth c T L Bs C X hh N).pre fun t q => X.caload C.1 (j := j) (v := v) (by rw [hh]; exact A.1) (State.isArrayOf_alike C.2.2.2.2.1.alike A.2.1) A.2.2 hj hv (g := mkF m pc ls.toArray (.int j :: .ref a :: st)) rfl rfl (hb C.2.1 hd) _ q
theorem go_baload {a : Addr} {cl : Cell} {j : Int32} {v : Value} (D : Dc bytes pc .baload 1 pc') (A : Arr Z h a cl .byte) (hj : ¬ (j < 0 ∨ cl.slots.size ≤ j.toNatClampNeg)) (hv : cl.slots[j.toNatClampNeg]? = some v) (G : Go wd K₀ l Z R y bytes ml ret n0 kc ks Q h k n pc' ls (v :: st)) : Go wd K₀ l Z R y bytes ml ret n0 kc ks Q h k n pc ls (.int j :: .ref a :: st) := by
  intro p e s0 s m args below meth c T L Bs C X hh N
  obtain ⟨hd, rfl⟩ := D
  exact (G p e s0 s m args below meth c T L Bs C X hh N).pre fun t q => X.baloadBytes C.1 (j := j) (v := v) (by rw [hh]; exact A.1) (State.isArrayOf_alike C.2.2.2.2.1.alike A.2.1) A.2.2 hj hv (g := mkF m pc ls.toArray (.int j :: .ref a :: st)) rfl rfl (hb C.2.1 hd) _ q
theorem go_laload {a : Addr} {cl : Cell} {j : Int32} {v : Value} (D : Dc bytes pc .laload 1 pc') (A : Arr Z h a cl .long) (hj : ¬ (j < 0 ∨ cl.slots.size ≤ j.toNatClampNeg)) (hv : cl.slots[j.toNatClampNeg]? = some v) (G : Go wd K₀ l Z R y bytes ml ret n0 kc ks Q h k n pc' ls (v :: st)) : Go wd K₀ l Z R y bytes ml ret n0 kc ks Q h k n pc ls (.int j :: .ref a :: st) := by
  intro p e s0 s m args below meth c T L Bs C X hh N
  obtain ⟨hd, rfl⟩ := D
  exact (G p e s0 s m args below meth c T L Bs C X hh N).pre fun t q => X.laload C.1 (j := j) (v := v) (by rw [hh]; exact A.1) (State.isArrayOf_alike C.2.2.2.2.1.alike A.2.1) A.2.2 hj hv (g := mkF m pc ls.toArray (.int j :: .ref a :: st)) rfl rfl (hb C.2.1 hd) _ q
theorem go_aaload {a : Addr} {cl : Cell} {ty : FieldType} {j : Int32} {v : Value} (D : Dc bytes pc .aaload 1 pc') (A : Arr Z h a cl ty) (hty : ty.isReference = true) (hj : ¬ (j < 0 ∨ cl.slots.size ≤ j.toNatClampNeg)) (hv : cl.slots[j.toNatClampNeg]? = some v) (G : Go wd K₀ l Z R y bytes ml ret n0 kc ks Q h k n pc' ls (v :: st)) : Go wd K₀ l Z R y bytes ml ret n0 kc ks Q h k n pc ls (.int j :: .ref a :: st) := by
  intro p e s0 s m args below meth c T L Bs C X hh N
  obtain ⟨hd, rfl⟩ := D
  exact (G p e s0 s m args below meth c T L Bs C X hh N).pre fun t q => X.aaload C.1 (j := j) (v := v) (by rw [hh]; exact A.1) (State.isArrayOf_alike C.2.2.2.2.1.alike A.2.1) hty A.2.2 hj hv (g := mkF m pc ls.toArray (.int j :: .ref a :: st)) rfl rfl (hb C.2.1 hd) _ q
theorem go_iastore {a : Addr} {cl : Cell} {j : Int32} {x : Int32} (D : Dc bytes pc .iastore 1 pc') (A : Arr Z h a cl .int) (hj : ¬ (j < 0 ∨ cl.slots.size ≤ j.toNatClampNeg)) (ha : n0 ≤ a) (G : ∀ h', Wr h h' a j.toNatClampNeg (.int x) → Go wd K₀ l Z R y bytes ml ret n0 kc ks Q h' k n pc' ls st) : Go wd K₀ l Z R y bytes ml ret n0 kc ks Q h k n pc ls (.int x :: .int j :: .ref a :: st) := by
  intro p e s0 s m args below meth c T L Bs C X hh N
  obtain ⟨hd, rfl⟩ := D
  obtain ⟨T', h', X', e', W', st'⟩ := stI X C.1 C.2.2.2.2.1 hh A hj (g := mkF m pc ls.toArray (.int x :: .int j :: .ref a :: st)) rfl rfl (hb C.2.1 hd)
  exact (G h' W' p e s0 s m args below meth c T' _ (Bs.mono (Nat.le_of_eq W'.size.symm)) C X' e' (Fr.snoc X' N ha)).pre st'
theorem go_lastore {a : Addr} {cl : Cell} {j : Int32} {x : Int64} (D : Dc bytes pc .lastore 1 pc') (A : Arr Z h a cl .long) (hj : ¬ (j < 0 ∨ cl.slots.size ≤ j.toNatClampNeg)) (ha : n0 ≤ a) (G : ∀ h', Wr h h' a j.toNatClampNeg (.long x) → Go wd K₀ l Z R y bytes ml ret n0 kc ks Q h' k n pc' ls st) : Go wd K₀ l Z R y bytes ml ret n0 kc ks Q h k n pc ls (.long x :: .int j :: .ref a :: st) := by
  intro p e s0 s m args below meth c T L Bs C X hh N
  obtain ⟨hd, rfl⟩ := D
  obtain ⟨T', h', X', e', W', st'⟩ := stJ X C.1 C.2.2.2.2.1 hh A hj (g := mkF m pc ls.toArray (.long x :: .int j :: .ref a :: st)) rfl rfl (hb C.2.1 hd)
  exact (G h' W' p e s0 s m args below meth c T' _ (Bs.mono (Nat.le_of_eq W'.size.symm)) C X' e' (Fr.snoc X' N ha)).pre st'
theorem go_castore {a : Addr} {cl : Cell} {j : Int32} {x : Int32} (D : Dc bytes pc .castore 1 pc') (A : Arr Z h a cl .char) (hj : ¬ (j < 0 ∨ cl.slots.size ≤ j.toNatClampNeg)) (ha : n0 ≤ a) (G : ∀ h', Wr h h' a j.toNatClampNeg (.int (nar .char x)) → Go wd K₀ l Z R y bytes ml ret n0 kc ks Q h' k n pc' ls st) : Go wd K₀ l Z R y bytes ml ret n0 kc ks Q h k n pc ls (.int x :: .int j :: .ref a :: st) := by
  intro p e s0 s m args below meth c T L Bs C X hh N
  obtain ⟨hd, rfl⟩ := D
  obtain ⟨T', h', X', e', W', st'⟩ := stC X C.1 C.2.2.2.2.1 hh A hj (g := mkF m pc ls.toArray (.int x :: .int j :: .ref a :: st)) rfl rfl (hb C.2.1 hd)
  exact (G h' W' p e s0 s m args below meth c T' _ (Bs.mono (Nat.le_of_eq W'.size.symm)) C X' e' (Fr.snoc X' N ha)).pre st'
theorem go_bastore {a : Addr} {cl : Cell} {j : Int32} {x : Int32} (D : Dc bytes pc .bastore 1 pc') (A : Arr Z h a cl .byte) (hj : ¬ (j < 0 ∨ cl.slots.size ≤ j.toNatClampNeg)) (ha : n0 ≤ a) (G : ∀ h', Wr h h' a j.toNatClampNeg (.int (nar .byte x)) → Go wd K₀ l Z R y bytes ml ret n0 kc ks Q h' k n pc' ls st) : Go wd K₀ l Z R y bytes ml ret n0 kc ks Q h k n pc ls (.int x :: .int j :: .ref a :: st) := by
  intro p e s0 s m args below meth c T L Bs C X hh N
  obtain ⟨hd, rfl⟩ := D
  obtain ⟨T', h', X', e', W', st'⟩ := stB X C.1 C.2.2.2.2.1 hh A hj (g := mkF m pc ls.toArray (.int x :: .int j :: .ref a :: st)) rfl rfl (hb C.2.1 hd)
  exact (G h' W' p e s0 s m args below meth c T' _ (Bs.mono (Nat.le_of_eq W'.size.symm)) C X' e' (Fr.snoc X' N ha)).pre st'
theorem go_zastore {a : Addr} {cl : Cell} {j : Int32} {x : Int32} (D : Dc bytes pc .bastore 1 pc') (A : Arr Z h a cl .boolean) (hj : ¬ (j < 0 ∨ cl.slots.size ≤ j.toNatClampNeg)) (ha : n0 ≤ a) (G : ∀ h', Wr h h' a j.toNatClampNeg (.int (nar .boolean x)) → Go wd K₀ l Z R y bytes ml ret n0 kc ks Q h' k n pc' ls st) : Go wd K₀ l Z R y bytes ml ret n0 kc ks Q h k n pc ls (.int x :: .int j :: .ref a :: st) := by
  intro p e s0 s m args below meth c T L Bs C X hh N
  obtain ⟨hd, rfl⟩ := D
  obtain ⟨T', h', X', e', W', st'⟩ := stZ X C.1 C.2.2.2.2.1 hh A hj (g := mkF m pc ls.toArray (.int x :: .int j :: .ref a :: st)) rfl rfl (hb C.2.1 hd)
  exact (G h' W' p e s0 s m args below meth c T' _ (Bs.mono (Nat.le_of_eq W'.size.symm)) C X' e' (Fr.snoc X' N ha)).pre st'
theorem go_aastore {a : Addr} {cl : Cell} {ty : FieldType} {j : Int32} {v : Value} (D : Dc bytes pc .aastore 1 pc') (A : Arr Z h a cl ty) (hj : ¬ (j < 0 ∨ cl.slots.size ≤ j.toNatClampNeg)) (hty : ty.isReference = true) (F : Sto Z h a v) (ha : n0 ≤ a) (G : ∀ h', Wr h h' a j.toNatClampNeg v → Go wd K₀ l Z R y bytes ml ret n0 kc ks Q h' k n pc' ls st) : Go wd K₀ l Z R y bytes ml ret n0 kc ks Q h k n pc ls (v :: .int j :: .ref a :: st) := by
  intro p e s0 s m args below meth c T L Bs C X hh N
  obtain ⟨hd, rfl⟩ := D
  obtain ⟨T', h', X', e', W', st'⟩ := stR X C.1 C.2.2.2.2.1 hh A hj hty F (g := mkF m pc ls.toArray (v :: .int j :: .ref a :: st)) rfl rfl (hb C.2.1 hd)
  exact (G h' W' p e s0 s m args below meth c T' _ (Bs.mono (Nat.le_of_eq W'.size.symm)) C X' e' (Fr.snoc X' N ha)).pre st'
end Walk
end Jvm.OwnGo
namespace Jvm.OwnGo
open Jvm Sem ClassFile Op Lib Jvm.Stand Jvm.Free Jvm.LawKit Jvm.RoadKit
/-! ## 3. the heap since the start, as a list of what lies where -/
abbrev FD := (String × String × String) × Value
abbrev Desc := (String × List FD) ⊕ (FieldType × String × List Value)
def slotF (Z : State) (f : FD) : Nat := Jvm.RoadKit.slotOf Z f.1.1 f.1.2.1 f.1.2.2
def Is (Z : State) (h : Heap) (a : Addr) : Desc → Prop
  | .inl (K, fs) => Exa Z h a K ∧ (fs.map (slotF Z)).Nodup ∧ ∀ f ∈ fs, Fld Z h a f.1.1 f.1.2.1 f.1.2.2 f.2
  | .inr (ty, ad, vs) => Exa Z h a ad ∧ ∃ c : Cell, Arr Z h a c ty ∧ c.slots = vs.toArray ∧ vs.length < 2 ^ 31 ∧ (∀ v ∈ vs, fits ty v = true) ∧ ∀ K, ty = .object K → Ovr Z c.cls K
def Hp (Z : State) (n0 : Nat) (h : Heap) (L : List (Addr × Desc)) : Prop := Old Z n0 h ∧ (L.map Prod.fst).Nodup ∧ ∀ x ∈ L, n0 ≤ x.1 ∧ Is Z h x.1 x.2
def LaysD (Z : State) (a0 : Array Value) (K : String) : List FD → Prop
  | [] => True
  | f :: r => (Laid Z a0 K f.1.1 f.1.2.1 f.1.2.2 ∧ ∃ t, parseFieldDescriptor f.1.2.2 = some t ∧ defaultValue t = f.2) ∧ LaysD Z a0 K r
def front {α : Type} (L : List α) (i : Nat) : List α := match L[i]? with | some x => x :: L.eraseIdx i | none => L
section Hp
variable {Z : State} {n0 : Nat} {h h' : Heap} {L : List (Addr × Desc)} {a b : Addr} {K ad O nm d : String} {fs : List FD} {vs : List Value} {ty : FieldType} {v old : Value} {i j sl : Nat} {a0 : Array Value}
theorem Is.ext {D : Desc} (E : Ext h h') (F : Is Z h a D) : Is Z h' a D := by
  rcases D with ⟨K, fs⟩ | ⟨ty, ad, vs⟩
  · obtain ⟨h1, h2, h3⟩ := F; exact ⟨h1.ext E, h2, fun f hf => (h3 f hf).ext E⟩
  · obtain ⟨h1, c, h2, r⟩ := F; exact ⟨h1.ext E, c, h2.ext E, r⟩
theorem Is.other {D : Desc} (W : Wr h h' b sl v) (ne : a ≠ b) (F : Is Z h a D) : Is Z h' a D := by
  rcases D with ⟨K, fs⟩ | ⟨ty, ad, vs⟩
  · obtain ⟨h1, h2, h3⟩ := F; exact ⟨h1.wr W, h2, fun f hf => (h3 f hf).other W (Or.inl ne)⟩
  · obtain ⟨h1, c, h2, r⟩ := F; exact ⟨h1.wr W, c, h2.other W ne, r⟩
theorem Is.exa {D : Desc} (F : Is Z h a D) : ∃ K, Exa Z h a K := by
  rcases D with ⟨K, fs⟩ | ⟨ty, ad, vs⟩
  · exact ⟨K, F.1⟩
  · exact ⟨ad, F.1⟩
theorem mem_upd {α : Type} {L : List α} {i : Nat} {x y : α} (hx : x ∈ lupd L i y) : x = y ∨ ∃ q, q ≠ i ∧ L[q]? = some x := by
  rw [upd_set] at hx
  obtain ⟨q, hq⟩ := List.mem_iff_getElem?.mp hx
  rw [List.getElem?_set] at hq
  split at hq
  · rename_i e
    split at hq
    · left; exact (Option.some.inj hq).symm
    · cases hq
  · rename_i e
    exact Or.inr ⟨q, fun u => e u.symm, hq⟩
theorem Hp.mem (hi : L[i]? = some (a, D)) : (a, D) ∈ L := List.mem_of_getElem? hi
theorem Hp.is {D : Desc} (P : Hp Z n0 h L) (hi : L[i]? = some (a, D)) : Is Z h a D := (P.2.2 _ (List.mem_of_getElem? hi)).2
theorem Hp.ge {D : Desc} (P : Hp Z n0 h L) (hi : L[i]? = some (a, D)) : n0 ≤ a := (P.2.2 _ (List.mem_of_getElem? hi)).1
theorem Hp.exa (P : Hp Z n0 h L) (hi : L[i]? = some (a, .inl (K, fs))) : Exa Z h a K := (P.is hi).1
theorem Hp.exaA (P : Hp Z n0 h L) (hi : L[i]? = some (a, .inr (ty, ad, vs))) : Exa Z h a ad := (P.is hi).1
theorem Hp.fld (P : Hp Z n0 h L) (hi : L[i]? = some (a, .inl (K, fs))) (hj : fs[j]? = some ((O, nm, d), v)) : Fld Z h a O nm d v := (P.is hi).2.2 _ (List.mem_of_getElem? hj)
theorem Hp.lt {D : Desc} (P : Hp Z n0 h L) (hx : (a, D) ∈ L) : a < h.size := by
  obtain ⟨K, E⟩ := (P.2.2 _ hx).2.exa; exact E.lt
theorem Hp.ne {D D' : Desc} (P : Hp Z n0 h L) (hi : L[i]? = some (a, D)) (hj : L[j]? = some (b, D')) (q : i ≠ j) : a ≠ b := fun e => q (by
  have hl : i < (L.map Prod.fst).length := by rw [List.length_map]; exact (List.getElem?_eq_some_iff.mp hi).1
  refine (List.getElem?_inj hl P.2.1).mp ?_
  rw [List.getElem?_map, List.getElem?_map, hi, hj]; simp [e])
theorem map_upd {α β : Type} {f : α → β} {L : List α} {i : Nat} {x y : α} (hi : L[i]? = some x) (e : f y = f x) : (lupd L i y).map f = L.map f := by
  rw [upd_set]
  apply List.ext_getElem?
  intro q
  rw [List.getElem?_map, List.getElem?_map, List.getElem?_set]
  split
  · rename_i u
    subst u
    obtain ⟨hl, -⟩ := List.getElem?_eq_some_iff.mp hi
    rw [if_pos hl, hi]; simp [e]
  · rfl
theorem Hp.wr {D D' : Desc} (P : Hp Z n0 h L) (hi : L[i]? = some (a, D)) (W : Wr h h' a sl v) (I : Is Z h' a D') : Hp Z n0 h' (lupd L i (a, D')) := by
  have ha := P.ge hi
  refine ⟨P.1.wr W ha, by rw [map_upd (f := Prod.fst) (y := (a, D')) hi rfl]; exact P.2.1, fun x hx => ?_⟩
  rcases mem_upd hx with rfl | ⟨q, hq, hx'⟩
  · exact ⟨ha, I⟩
  · obtain ⟨b, D2⟩ := x
    exact ⟨P.ge hx', (P.is hx').other W (P.ne hx' hi hq)⟩
theorem Hp.put (P : Hp Z n0 h L) (hi : L[i]? = some (a, .inl (K, fs))) (hj : fs[j]? = some ((O, nm, d), old)) (W : Wr h h' a (Jvm.RoadKit.slotOf Z O nm d) v) : Hp Z n0 h' (lupd L i (a, .inl (K, lupd fs j ((O, nm, d), v)))) := by
  obtain ⟨h1, h2, h3⟩ := P.is hi
  refine P.wr hi W ⟨h1.wr W, by rw [map_upd (f := slotF Z) (y := ((O, nm, d), v)) hj rfl]; exact h2, fun f hf => ?_⟩
  rcases mem_upd hf with rfl | ⟨q, hq, hf'⟩
  · exact (h3 _ (List.mem_of_getElem? hj)).same W
  · refine (h3 _ (List.mem_of_getElem? hf')).other W (Or.inr fun e => hq ?_)
    have hl : q < (fs.map (slotF Z)).length := by rw [List.length_map]; exact (List.getElem?_eq_some_iff.mp hf').1
    refine (List.getElem?_inj hl h2).mp ?_
    rw [List.getElem?_map, List.getElem?_map, hf', hj]; simp [slotF, e]
theorem Hp.aput (P : Hp Z n0 h L) (hi : L[i]? = some (a, .inr (ty, ad, vs))) (hv : fits ty v = true) (W : Wr h h' a j v) : Hp Z n0 h' (lupd L i (a, .inr (ty, ad, lupd vs j v))) := by
  obtain ⟨h1, c, h2, h3, h4, h5, h6⟩ := P.is hi
  refine P.wr hi W ⟨h1.wr W, c.setSlot j v, h2.same W, ?_, ?_, fun w hw => ?_, h6⟩
  · rw [upd_set]; show c.slots.setIfInBounds j v = _; rw [h3]; simp
  · rw [upd_set]; simpa using h4
  · rcases mem_upd hw with rfl | ⟨q, -, hq⟩
    · exact hv
    · exact h5 _ (List.mem_of_getElem? hq)
theorem Hp.grow {D : Desc} (P : Hp Z n0 h L) (E : Ext h h') (I : Is Z h' h.size D) : Hp Z n0 h' ((h.size, D) :: L) := by
  have hs : n0 ≤ h.size := by have := P.1.1; have := P.1.2.1; omega
  refine ⟨P.1.ext E, ?_, fun x hx => ?_⟩
  · rw [List.map_cons, List.nodup_cons]
    refine ⟨fun hm => ?_, P.2.1⟩
    obtain ⟨⟨b, D2⟩, hb, e⟩ := List.mem_map.mp hm
    have q := P.lt hb
    have e' : b = h.size := e
    rw [e'] at q
    exact Nat.lt_irrefl _ q
  · rcases List.mem_cons.mp hx with rfl | hx'
    · exact ⟨hs, I⟩
    · exact ⟨(P.2.2 _ hx').1, (P.2.2 _ hx').2.ext E⟩
theorem lays_mem : ∀ {fs : List FD}, LaysD Z a0 K fs → ∀ f ∈ fs, Laid Z a0 K f.1.1 f.1.2.1 f.1.2.2 ∧ ∃ t, parseFieldDescriptor f.1.2.2 = some t ∧ defaultValue t = f.2
  | [], _, _, hf => nomatch hf
  | _ :: _, H, f, hf => (List.mem_cons.mp hf).elim (fun e => e ▸ H.1) (lays_mem H.2 f)
theorem lays_nodup : ∀ {fs : List FD}, LaysD Z a0 K fs → (fs.map fun f => f.1.2.1).Nodup → (fs.map (slotF Z)).Nodup
  | [], _, _ => List.nodup_nil
  | f :: r, H, N => by
    rw [List.map_cons, List.nodup_cons] at N ⊢
    refine ⟨fun hm => ?_, lays_nodup H.2 N.2⟩
    obtain ⟨g, hg, e⟩ := List.mem_map.mp hm
    obtain ⟨Lg, t', ht', -⟩ := lays_mem H.2 g hg
    obtain ⟨Lf, t, ht, -⟩ := H.1
    exact slot_ne Lf Lg (fun q => N.1 (List.mem_map.mpr ⟨g, hg, q.symm⟩)) ht ht' e.symm
theorem Hp.new (P : Hp Z n0 h L) (E : Ext h h') (A : Exa Z h' h.size K) (F : ∀ {O nm d : String} {ty : FieldType}, Laid Z a0 K O nm d → parseFieldDescriptor d = some ty → Fld Z h' h.size O nm d (defaultValue ty)) (Ld : LaysD Z a0 K fs) (nd : (fs.map fun f => f.1.2.1).Nodup) : Hp Z n0 h' ((h.size, .inl (K, fs)) :: L) :=
  P.grow E ⟨A, lays_nodup Ld nd, fun f hf => by
    obtain ⟨Lf, t, ht, e⟩ := lays_mem Ld f hf
    rw [← e]; exact F Lf ht⟩
theorem Hp.newA {cA : ClassId} {z : Int32} (P : Hp Z n0 h L) (E : Ext h h') (A : Arr Z h' h.size (newA cA ty z) ty) (X : Exa Z h' h.size ad) (O : ∀ K, ty = .object K → Ovr Z cA K) (hvs : List.replicate z.toNatClampNeg (defaultValue ty) = vs) (hz : ¬ z < 0) : Hp Z n0 h' ((h.size, .inr (ty, ad, vs)) :: L) :=
  P.grow E ⟨X, _, A, by rw [← hvs]; simp [Jvm.RoadKit.newA], by rw [← hvs, List.length_replicate]; exact (back32 hz).2, fun w hw => by
    rw [← hvs] at hw; rw [List.eq_of_mem_replicate hw]; cases ty <;> rfl, O⟩
theorem Hp.perm {L' : List (Addr × Desc)} (P : Hp Z n0 h L) (q : L'.Perm L) : Hp Z n0 h L' := ⟨P.1, ((q.map Prod.fst).nodup_iff).mpr P.2.1, fun x hx => P.2.2 x (q.mem_iff.mp hx)⟩
theorem erase_perm {α : Type} : ∀ (L : List α) (i : Nat) (h : i < L.length), (L[i] :: L.eraseIdx i).Perm L
  | [], _, h => absurd h (Nat.not_lt_zero _)
  | _ :: _, 0, _ => List.Perm.refl _
  | a :: l, i + 1, h => by
    have hl : i < l.length := Nat.lt_of_succ_lt_succ h
    show (l[i] :: a :: l.eraseIdx i).Perm (a :: l)
    exact (List.Perm.swap _ _ _).trans ((erase_perm l i hl).cons a)
theorem front_perm {α : Type} (L : List α) (i : Nat) : (front L i).Perm L := by
  unfold front
  cases hx : L[i]? with
  | none => exact List.Perm.refl _
  | some x =>
    obtain ⟨hl, rfl⟩ := List.getElem?_eq_some_iff.mp hx
    exact erase_perm L i hl
theorem Hp.front (P : Hp Z n0 h L) (i : Nat) : Hp Z n0 h (front L i) := P.perm (front_perm L i)
theorem Hp.tail {x : Addr × Desc} (P : Hp Z n0 h (x :: L)) : Hp Z n0 h L := ⟨P.1, (List.nodup_cons.mp P.2.1).2, fun z hz => P.2.2 z (List.mem_cons_of_mem _ hz)⟩
theorem Hp.ext (P : Hp Z n0 h L) (E : Ext h h') : Hp Z n0 h' L := ⟨P.1.ext E, P.2.1, fun x hx => ⟨(P.2.2 _ hx).1, (P.2.2 _ hx).2.ext E⟩⟩
theorem Hp.nil (P : Hp Z n0 h L) : Hp Z n0 h [] := ⟨P.1, List.nodup_nil, fun z hz => nomatch hz⟩
theorem Hp.start (s : State) : Hp s s.heap.size s.heap [] := ⟨Old.start s, List.nodup_nil, fun z hz => nomatch hz⟩
theorem Hp.sto {y : Addr} {fs : List FD} (P : Hp Z n0 h L) (hi : L[i]? = some (a, .inr (.object K, ad, vs))) (hj : L[j]? = some (y, .inl (K, fs))) : Sto Z h a (.ref y) := by
  obtain ⟨-, c, h2, -, -, -, h6⟩ := P.is hi
  exact Sto.of h2 (h6 K rfl) (Ins.self (P.exa hj))
theorem Hp.stoI {y : Addr} (P : Hp Z n0 h L) (hi : L[i]? = some (a, .inr (.object K, ad, vs))) (I : Ins Z h y K true) : Sto Z h a (.ref y) := by
  obtain ⟨-, c, h2, -, -, -, h6⟩ := P.is hi
  exact Sto.of h2 (h6 K rfl) I
theorem inb {c : Cell} {j : Int32} (hc : c.slots = vs.toArray) (hj : ¬ j < 0) (hv : vs[j.toNatClampNeg]? = some v) : ¬ (j < 0 ∨ c.slots.size ≤ j.toNatClampNeg) := by
  have := (List.getElem?_eq_some_iff.mp hv).1
  rw [hc]; simp; exact ⟨by simpa using Int32.not_lt.mp hj, this⟩
theorem inb' {c : Cell} {j : Int32} (hc : c.slots = vs.toArray) (hj : ¬ j < 0) (hv : j.toNatClampNeg < vs.length) : ¬ (j < 0 ∨ c.slots.size ≤ j.toNatClampNeg) := by
  rw [hc]; simp; exact ⟨by simpa using Int32.not_lt.mp hj, hv⟩
end Hp
section WalkHp
variable {wd : Bool} {K₀ : State → Prop} {l : Launch} {Z : State} {R : Room} {y : MethodName} {bytes : ByteArray} {ml : Nat} {ret : Option FieldType} {n0 kc ks : Nat} {Q : Option Value → Heap → Prop} {h : Heap} {k n pc pc' tg : Nat} {ls : List Slot} {st : List Value} {a0 : Array Value} {L : List (Addr × Desc)} {i j : Nat} {K ad O nm d R0 host : String} {fs : List FD} {vs : List Value} {a : Addr} {ty : FieldType} {v old : Value}
theorem go_get {idx : Nat} (P : Hp Z n0 h L) (i j : Nat) (D : Dc bytes pc (.getfield idx) 3 pc') (hi : L[i]? = some (a, .inl (K, fs))) (hj : fs[j]? = some ((O, nm, d), v)) (w : (Cond.fieldLink y.cls idx O nm d).before a0 Z = true) (G : Go wd K₀ l Z R y bytes ml ret n0 kc ks Q h k n pc' ls (v :: st)) : Go wd K₀ l Z R y bytes ml ret n0 kc ks Q h k n pc ls (.ref a :: st) :=
  go_getF (host := "") D (Or.inl w) Via.refl (P.fld hi hj) G
theorem go_getN {idx : Nat} (P : Hp Z n0 h L) (i j : Nat) (D : Dc bytes pc (.getfield idx) 3 pc') (hi : L[i]? = some (a, .inl (K, fs))) (hj : fs[j]? = some ((O, nm, d), v)) (w : (Cond.fieldLinkNest y.cls idx O nm d host).before a0 Z = true) (G : Go wd K₀ l Z R y bytes ml ret n0 kc ks Q h k n pc' ls (v :: st)) : Go wd K₀ l Z R y bytes ml ret n0 kc ks Q h k n pc ls (.ref a :: st) :=
  go_getF (host := host) D (Or.inr w) Via.refl (P.fld hi hj) G
theorem go_put {idx kk : Nat} (P : Hp Z n0 h L) (i j : Nat) (ty : FieldType) (D : Dc bytes pc (.putfield idx) 3 pc') (hi : L[i]? = some (a, .inl (K, fs))) (hj : fs[j]? = some ((O, nm, d), old)) (w : (Cond.fieldLink y.cls idx O nm d).before a0 Z = true)
    (Lw : (Cond.lays K O nm d).before a0 Z = true ∨ ((Cond.laysFinal K O nm d).before a0 Z = true ∧ y.cls = O ∧ y.name = "<init>")) (wi : (Cond.instantiable K kk).before a0 Z = true) (hty : parseFieldDescriptor d = some ty) (hnr : narrow ty v = v) (hfi : fits ty v = true)
    (G : ∀ h', Hp Z n0 h' (lupd L i (a, .inl (K, lupd fs j ((O, nm, d), v)))) → Go wd K₀ l Z R y bytes ml ret n0 kc ks Q h' k n pc' ls st) : Go wd K₀ l Z R y bytes ml ret n0 kc ks Q h k n pc ls (v :: .ref a :: st) :=
  go_putF (host := "") D (Or.inl w) Via.refl (P.fld hi hj) (P.exa hi) Lw wi hty hnr hfi (P.ge hi) fun h' W => G h' (P.put hi hj W)
theorem go_new {idx sl : Nat} (P : Hp Z n0 h L) (fs : List FD) (D : Dc bytes pc (.new idx) 3 pc') (w : (Cond.classLink y.cls idx K).before a0 Z = true) (wi : (Cond.instantiable K sl).before a0 Z = true) (wz : (Cond.initialized K).before a0 Z = true) (Ld : LaysD Z a0 K fs) (nd : (fs.map fun f => f.1.2.1).Nodup) (hk : k + 1 ≤ R.cells) (hn : n + sl ≤ R.slots)
    (G : ∀ h' a, Hp Z n0 h' ((a, .inl (K, fs)) :: L) → Go wd K₀ l Z R y bytes ml ret n0 kc ks Q h' (k + 1) (n + sl) pc' ls (.ref a :: st)) : Go wd K₀ l Z R y bytes ml ret n0 kc ks Q h k n pc ls st :=
  go_newO D w wi wz hk hn fun h' E A F => G h' h.size (P.new E A F Ld nd)
theorem go_newarr {aty : ArrayType} {z : Int32} (P : Hp Z n0 h L) (ad : String) (vs : List Value) (cap : Nat) (D : Dc bytes pc (.newarray aty) 2 pc') (w : (Cond.arrayClass (newarray.typeOf aty)).before a0 Z = true) (hz : ¬ z < 0) (hcap : z.toNatClampNeg ≤ cap) (hb8 : cap * 8 ≤ 536870912) (had : "[" ++ (newarray.typeOf aty).toString = ad) (hty : newarray.typeOf aty = ty) (hvs : List.replicate z.toNatClampNeg (defaultValue ty) = vs) (hk : k + 1 ≤ R.cells) (hn : n + cap ≤ R.slots)
    (G : ∀ h' a, Hp Z n0 h' ((a, .inr (ty, ad, vs)) :: L) → Go wd K₀ l Z R y bytes ml ret n0 kc ks Q h' (k + 1) (n + cap) pc' ls (.ref a :: st)) : Go wd K₀ l Z R y bytes ml ret n0 kc ks Q h k n pc ls (.int z :: st) :=
  go_newP D w hz cap hcap hb8 hk hn had fun h' cA E A X => G h' h.size (P.newA E (hty ▸ A) X (fun K q => by subst hty; cases aty <;> cases q) hvs hz)
theorem go_newobjarr {idx : Nat} {z : Int32} (P : Hp Z n0 h L) (ad : String) (vs : List Value) (cap : Nat) (D : Dc bytes pc (.anewarray idx) 3 pc') (w1 : (Cond.classLink y.cls idx K).before a0 Z = true) (w2 : (Cond.arrayOver (.object K)).before a0 Z = true) (hz : ¬ z < 0) (hcap : z.toNatClampNeg ≤ cap) (hb8 : cap * 8 ≤ 536870912) (had : "[" ++ (FieldType.object K).toString = ad) (hvs : List.replicate z.toNatClampNeg Value.null = vs) (hk : k + 1 ≤ R.cells) (hn : n + cap ≤ R.slots)
    (G : ∀ h' a, Hp Z n0 h' ((a, .inr (.object K, ad, vs)) :: L) → Go wd K₀ l Z R y bytes ml ret n0 kc ks Q h' (k + 1) (n + cap) pc' ls (.ref a :: st)) : Go wd K₀ l Z R y bytes ml ret n0 kc ks Q h k n pc ls (.int z :: st) :=
  go_newR D w1 w2 hz cap hcap hb8 hk hn had fun h' cA E A X O => G h' h.size (P.newA E A X (fun K' q => by cases q; exact O) hvs hz)
theorem go_alen {z : Int32} (P : Hp Z n0 h L) (i : Nat) (D : Dc bytes pc .arraylength 1 pc') (hi : L[i]? = some (a, .inr (ty, ad, vs))) (hz : vs.length.toInt32 = z) (G : Go wd K₀ l Z R y bytes ml ret n0 kc ks Q h k n pc' ls (.int z :: st)) : Go wd K₀ l Z R y bytes ml ret n0 kc ks Q h k n pc ls (.ref a :: st) := by
  obtain ⟨-, c, h2, h3, -⟩ := P.is hi
  exact go_len D h2 (by rw [h3]; simpa using hz) G
theorem go_ialoadH {q : Int32} (P : Hp Z n0 h L) (i : Nat) (D : Dc bytes pc .iaload 1 pc') (hi : L[i]? = some (a, .inr (.int, ad, vs))) (hq : ¬ q < 0) (hv : vs[q.toNatClampNeg]? = some v) (G : Go wd K₀ l Z R y bytes ml ret n0 kc ks Q h k n pc' ls (v :: st)) : Go wd K₀ l Z R y bytes ml ret n0 kc ks Q h k n pc ls (.int q :: .ref a :: st) := by
  obtain ⟨-, c, h2, h3, -⟩ := P.is hi
  exact go_iaload D h2 (inb h3 hq hv) (by rw [h3]; simpa using hv) G
theorem go_caloadH {q : Int32} (P : Hp Z n0 h L) (i : Nat) (D : Dc bytes pc .caload 1 pc') (hi : L[i]? = some (a, .inr (.char, ad, vs))) (hq : ¬ q < 0) (hv : vs[q.toNatClampNeg]? = some v) (G : Go wd K₀ l Z R y bytes ml ret n0 kc ks Q h k n pc' ls (v :: st)) : Go wd K₀ l Z R y bytes ml ret n0 kc ks Q h k n pc ls (.int q :: .ref a :: st) := by
  obtain ⟨-, c, h2, h3, -⟩ := P.is hi
  exact go_caload D h2 (inb h3 hq hv) (by rw [h3]; simpa using hv) G
theorem go_baloadH {q : Int32} (P : Hp Z n0 h L) (i : Nat) (D : Dc bytes pc .baload 1 pc') (hi : L[i]? = some (a, .inr (.byte, ad, vs))) (hq : ¬ q < 0) (hv : vs[q.toNatClampNeg]? = some v) (G : Go wd K₀ l Z R y bytes ml ret n0 kc ks Q h k n pc' ls (v :: st)) : Go wd K₀ l Z R y bytes ml ret n0 kc ks Q h k n pc ls (.int q :: .ref a :: st) := by
  obtain ⟨-, c, h2, h3, -⟩ := P.is hi
  exact go_baload D h2 (inb h3 hq hv) (by rw [h3]; simpa using hv) G
theorem go_laloadH {q : Int32} (P : Hp Z n0 h L) (i : Nat) (D : Dc bytes pc .laload 1 pc') (hi : L[i]? = some (a, .inr (.long, ad, vs))) (hq : ¬ q < 0) (hv : vs[q.toNatClampNeg]? = some v) (G : Go wd K₀ l Z R y bytes ml ret n0 kc ks Q h k n pc' ls (v :: st)) : Go wd K₀ l Z R y bytes ml ret n0 kc ks Q h k n pc ls (.int q :: .ref a :: st) := by
  obtain ⟨-, c, h2, h3, -⟩ := P.is hi
  exact go_laload D h2 (inb h3 hq hv) (by rw [h3]; simpa using hv) G
theorem go_aaloadH {q : Int32} (P : Hp Z n0 h L) (i : Nat) (D : Dc bytes pc .aaload 1 pc') (hi : L[i]? = some (a, .inr (ty, ad, vs))) (hty : ty.isReference = true) (hq : ¬ q < 0) (hv : vs[q.toNatClampNeg]? = some v) (G : Go wd K₀ l Z R y bytes ml ret n0 kc ks Q h k n pc' ls (v :: st)) : Go wd K₀ l Z R y bytes ml ret n0 kc ks Q h k n pc ls (.int q :: .ref a :: st) := by
  obtain ⟨-, c, h2, h3, -⟩ := P.is hi
  exact go_aaload D h2 hty (inb h3 hq hv) (by rw [h3]; simpa using hv) G
theorem go_iastoreH {q : Int32} {x : Int32} (P : Hp Z n0 h L) (i : Nat) (D : Dc bytes pc .iastore 1 pc') (hi : L[i]? = some (a, .inr (.int, ad, vs))) (hq : ¬ q < 0) (hv : q.toNatClampNeg < vs.length) (G : ∀ h', Hp Z n0 h' (lupd L i (a, .inr (.int, ad, lupd vs q.toNatClampNeg (.int x)))) → Go wd K₀ l Z R y bytes ml ret n0 kc ks Q h' k n pc' ls st) : Go wd K₀ l Z R y bytes ml ret n0 kc ks Q h k n pc ls (.int x :: .int q :: .ref a :: st) := by
  obtain ⟨-, c, h2, h3, -⟩ := P.is hi
  exact go_iastore D h2 (inb' h3 hq hv) (P.ge hi) fun h' W => G h' (P.aput hi rfl W)
theorem go_lastoreH {q : Int32} {x : Int64} (P : Hp Z n0 h L) (i : Nat) (D : Dc bytes pc .lastore 1 pc') (hi : L[i]? = some (a, .inr (.long, ad, vs))) (hq : ¬ q < 0) (hv : q.toNatClampNeg < vs.length) (G : ∀ h', Hp Z n0 h' (lupd L i (a, .inr (.long, ad, lupd vs q.toNatClampNeg (.long x)))) → Go wd K₀ l Z R y bytes ml ret n0 kc ks Q h' k n pc' ls st) : Go wd K₀ l Z R y bytes ml ret n0 kc ks Q h k n pc ls (.long x :: .int q :: .ref a :: st) := by
  obtain ⟨-, c, h2, h3, -⟩ := P.is hi
  exact go_lastore D h2 (inb' h3 hq hv) (P.ge hi) fun h' W => G h' (P.aput hi rfl W)
theorem go_castoreH {q : Int32} {x : Int32} (P : Hp Z n0 h L) (i : Nat) (D : Dc bytes pc .castore 1 pc') (hi : L[i]? = some (a, .inr (.char, ad, vs))) (hq : ¬ q < 0) (hv : q.toNatClampNeg < vs.length) (G : ∀ h', Hp Z n0 h' (lupd L i (a, .inr (.char, ad, lupd vs q.toNatClampNeg (.int (nar .char x))))) → Go wd K₀ l Z R y bytes ml ret n0 kc ks Q h' k n pc' ls st) : Go wd K₀ l Z R y bytes ml ret n0 kc ks Q h k n pc ls (.int x :: .int q :: .ref a :: st) := by
  obtain ⟨-, c, h2, h3, -⟩ := P.is hi
  exact go_castore D h2 (inb' h3 hq hv) (P.ge hi) fun h' W => G h' (P.aput hi (fits_nar_char x) W)
theorem go_bastoreH {q : Int32} {x : Int32} (P : Hp Z n0 h L) (i : Nat) (D : Dc bytes pc .bastore 1 pc') (hi : L[i]? = some (a, .inr (.byte, ad, vs))) (hq : ¬ q < 0) (hv : q.toNatClampNeg < vs.length) (G : ∀ h', Hp Z n0 h' (lupd L i (a, .inr (.byte, ad, lupd vs q.toNatClampNeg (.int (nar .byte x))))) → Go wd K₀ l Z R y bytes ml ret n0 kc ks Q h' k n pc' ls st) : Go wd K₀ l Z R y bytes ml ret n0 kc ks Q h k n pc ls (.int x :: .int q :: .ref a :: st) := by
  obtain ⟨-, c, h2, h3, -⟩ := P.is hi
  exact go_bastore D h2 (inb' h3 hq hv) (P.ge hi) fun h' W => G h' (P.aput hi (fits_nar_byte x) W)
theorem go_zastoreH {q : Int32} {x : Int32} (P : Hp Z n0 h L) (i : Nat) (D : Dc bytes pc .bastore 1 pc') (hi : L[i]? = some (a, .inr (.boolean, ad, vs))) (hq : ¬ q < 0) (hv : q.toNatClampNeg < vs.length) (G : ∀ h', Hp Z n0 h' (lupd L i (a, .inr (.boolean, ad, lupd vs q.toNatClampNeg (.int (nar .boolean x))))) → Go wd K₀ l Z R y bytes ml ret n0 kc ks Q h' k n pc' ls st) : Go wd K₀ l Z R y bytes ml ret n0 kc ks Q h k n pc ls (.int x :: .int q :: .ref a :: st) := by
  obtain ⟨-, c, h2, h3, -⟩ := P.is hi
  exact go_zastore D h2 (inb' h3 hq hv) (P.ge hi) fun h' W => G h' (P.aput hi (fits_nar_bool x) W)
theorem go_clone {idx W : Nat} (P : Hp Z n0 h L) (i : Nat) (cap : Nat) (D : Dc bytes pc (.invokevirtual idx) 3 pc') (hi : L[i]? = some (a, .inr (ty, ad, vs)))
    (w1 : (Cond.methodLink y.cls idx ⟨ad, "clone", "()Ljava/lang/Object;"⟩).before a0 Z = true) (w2 : (Cond.sameMethod ad "java/lang/Object" "clone" "()Ljava/lang/Object;").before a0 Z = true) (w3 : (Cond.native ⟨"java/lang/Object", "clone", "()Ljava/lang/Object;"⟩).before a0 Z = true)
    (w4 : (Cond.instanceMethod ⟨"java/lang/Object", "clone", "()Ljava/lang/Object;"⟩).before a0 Z = true) (w5 : (Cond.selects ad ⟨ad, "clone", "()Ljava/lang/Object;"⟩ ⟨"java/lang/Object", "clone", "()Ljava/lang/Object;"⟩).before a0 Z = true) (w6 : (Cond.castable ad "java/lang/Cloneable").before a0 Z = true)
    (hlen : vs.length ≤ cap) (hls : ls.length = ml) (hf : 1 ≤ R.frames) (hW : (st.map fun v => v.category).sum = W) (hlo : W + 14 ≤ R.locals) (hk : k + 1 ≤ R.cells) (hn : n + cap ≤ R.slots)
    (G : ∀ h' b, Hp Z n0 h' ((b, .inr (ty, ad, vs)) :: L) → Go wd K₀ l Z R y bytes ml ret n0 kc ks Q h' (k + 1) (n + cap) pc' ls (.ref b :: st)) : Go wd K₀ l Z R y bytes ml ret n0 kc ks Q h k n pc ls (.ref a :: st) := by
  obtain ⟨E, cl, A, hs, hl31, hfit, hov⟩ := P.is hi
  intro p e s0 s m args below meth c T L' Bs C X hh N
  obtain ⟨hd, rfl⟩ := D
  have FC : FitC Z cl := fitC_of A fun q hq v hv => hfit v (by rw [hs] at hv; exact List.mem_of_getElem? (by simpa using hv))
  obtain ⟨T', h', X', e', ex, A', E', st'⟩ := cloneA X C.1 C.2.2.2.2.1 C.2.2.2.1 w1 w2 w3 w4 w5 w6 hh A E FC (g := mkF m pc ls.toArray (.ref a :: st)) rfl (by rw [C.2.2.1]; simpa using hls) rfl (hb C.2.1 hd) hf (W := W) (cap := cap) (by show 2 * 0 + _ ≤ W; rw [← hW]; omega) hlo (by rw [hs]; simpa using hlen) hk hn
  exact (G h' h.size (P.grow ex ⟨E', cloneOf cl, A', hs, hl31, hfit, hov⟩) p e s0 s m args below meth c T' L' (Bs.mono ex.1) C X' e' N).pre st'
def Dts (bytes : ByteArray) (pc : Nat) (x : Int32) (tg : Nat) : Prop := ∃ (d lo hi : Int) (offs : Array Int) (len : Nat) (o : Int), decode bytes pc = .ok (.tableswitch d lo hi offs, len) ∧ ¬ (x.toInt < lo ∨ x.toInt > hi) ∧ offs[(x.toInt - lo).toNat]? = some o ∧ 0 ≤ (pc : Int) + o ∧ ((pc : Int) + o).toNat = tg
def Dlk (bytes : ByteArray) (pc : Nat) (x : Int32) (tg : Nat) : Prop := ∃ (d : Int) (prs : Array (Int × Int)) (len : Nat), decode bytes pc = .ok (.lookupswitch d prs, len) ∧ (prs.toList.zip (prs.toList.drop 1)).all (fun (a, next) => a.1 < next.1) = true ∧ 0 ≤ (pc : Int) + lookupswitch.offset prs.toList d x.toInt ∧ ((pc : Int) + lookupswitch.offset prs.toList d x.toInt).toNat = tg
theorem lswX {tb : Tables} [Ours tb] {e : Env} {below : List Frame} {T target : State} {m : MethodId} {c : Code} {g : JFrame} (h : At T m c below) (hx : tb.exec = Jvm.exec) (hg : g.method = m) {d : Int} {prs : Array (Int × Int)} {len : Nat} {pc0 pc' : Nat} (hpc : g.pc = pc0) (hd : decode c.code g.pc = .ok (.lookupswitch d prs, len)) {i : Int32} {rest : List Value} (hs : g.stack = .int i :: rest)
    (hor : (prs.toList.zip (prs.toList.drop 1)).all (fun (a, next) => a.1 < next.1) = true) (ho : 0 ≤ (pc0 : Int) + lookupswitch.offset prs.toList d i.toInt) (hp : ((pc0 : Int) + lookupswitch.offset prs.toList d i.toInt).toNat = pc')
    (hr : Steps tb e below (T.setTop { g with pc := pc', stack := rest }) target) : Steps tb e below (T.setTop g) target := by
  subst hg hpc hp
  jvm_step h [h.top, hx, hd, hs, hor, ho, lookupswitch.wp_chain]
  exact ⟨by simpa using hor, hr⟩
theorem go_tsw {x : Int32} (D : Dts bytes pc x tg) (G : Go wd K₀ l Z R y bytes ml ret n0 kc ks Q h k n tg ls st) : Go wd K₀ l Z R y bytes ml ret n0 kc ks Q h k n pc ls (.int x :: st) := by
  obtain ⟨d, lo, hi, offs, len, o, hd, h1, h2, h3, h4⟩ := D
  exact go_pure G (fun C X t => XS.tswIn X.here C.1 (g := mkF _ pc ls.toArray (.int x :: st)) rfl (pc0 := pc) rfl (hb C.2.1 hd) rfl h1 h2 h3 h4)
theorem go_lsw {x : Int32} (D : Dlk bytes pc x tg) (G : Go wd K₀ l Z R y bytes ml ret n0 kc ks Q h k n tg ls st) : Go wd K₀ l Z R y bytes ml ret n0 kc ks Q h k n pc ls (.int x :: st) := by
  obtain ⟨d, prs, len, hd, h1, h3, h4⟩ := D
  exact go_pure G (fun C X t => lswX X.here C.1 (g := mkF _ pc ls.toArray (.int x :: st)) rfl (pc0 := pc) rfl (hb C.2.1 hd) rfl h1 h3 h4)
theorem Hp.insA {i : Nat} (P : Hp Z n0 h L) (hi : L[i]? = some (a, .inr (ty, ad, vs))) : Ins Z h a ad true := Ins.self (P.exaA hi)
theorem go_aastoreH {q : Int32} (P : Hp Z n0 h L) (i : Nat) (D : Dc bytes pc .aastore 1 pc') (hi : L[i]? = some (a, .inr (ty, ad, vs))) (hty : ty.isReference = true) (hf : fits ty v = true) (hq : ¬ q < 0) (hv : q.toNatClampNeg < vs.length) (F : Sto Z h a v) (G : ∀ h', Hp Z n0 h' (lupd L i (a, .inr (ty, ad, lupd vs q.toNatClampNeg v))) → Go wd K₀ l Z R y bytes ml ret n0 kc ks Q h' k n pc' ls st) : Go wd K₀ l Z R y bytes ml ret n0 kc ks Q h k n pc ls (v :: .int q :: .ref a :: st) := by
  obtain ⟨-, c, h2, h3, -⟩ := P.is hi
  exact go_aastore D h2 (inb' h3 hq hv) hty F (P.ge hi) fun h' W => G h' (P.aput hi hf W)
end WalkHp
end Jvm.OwnGo
namespace Jvm.Pilot.@@N@@
open Jvm Jvm.ClassFile Sem Op Lib Jvm.Free Jvm.Stand Jvm.LawKit Jvm.RoadKit Bundle Jvm.OwnGo Jvm.Pilot.@@N@@.Jvm.D
theorem t0 {Z : State} {a0 : Array Value} (hw : ∀ d ∈ tables_1, d.before a0 Z = true) : (Jvm.Cond.classLink "com/example/umbrella_state/umbrellastate/runtime/DelayedDeliveriesPeekPinLaw" (7 : Nat) "com/example/umbrella_state/umbrellastate/runtime/Delivery").before a0 Z = true := hw _ (List.mem_of_getElem? (i := 0) rfl)
theorem t1 {Z : State} {a0 : Array Value} (hw : ∀ d ∈ tables_1, d.before a0 Z = true) : (Jvm.Cond.instantiable "com/example/umbrella_state/umbrellastate/runtime/Delivery" (5 : Nat)).before a0 Z = true := hw _ (List.mem_of_getElem? (i := 1) rfl)
theorem t2 {Z : State} {a0 : Array Value} (hw : ∀ d ∈ tables_1, d.before a0 Z = true) : (Jvm.Cond.initialized "com/example/umbrella_state/umbrellastate/runtime/Delivery").before a0 Z = true := hw _ (List.mem_of_getElem? (i := 2) rfl)
theorem t3 {Z : State} {a0 : Array Value} (hw : ∀ d ∈ tables_1, d.before a0 Z = true) : (Jvm.Cond.methodLink "com/example/umbrella_state/umbrellastate/runtime/DelayedDeliveriesPeekPinLaw" (9 : Nat) ({ cls := "com/example/umbrella_state/umbrellastate/runtime/Delivery", name := "<init>", desc := "(Ljava/util/function/Consumer;Lcom/example/umbrella_state/umbrellastate/model/Message;JJ)V" } : Jvm.MethodName)).before a0 Z = true := hw _ (List.mem_of_getElem? (i := 3) rfl)
theorem t4 {Z : State} {a0 : Array Value} (hw : ∀ d ∈ tables_1, d.before a0 Z = true) : (Jvm.Cond.instanceMethod ({ cls := "com/example/umbrella_state/umbrellastate/runtime/Delivery", name := "<init>", desc := "(Ljava/util/function/Consumer;Lcom/example/umbrella_state/umbrellastate/model/Message;JJ)V" } : Jvm.MethodName)).before a0 Z = true := hw _ (List.mem_of_getElem? (i := 4) rfl)
theorem t5 {Z : State} {a0 : Array Value} (hw : ∀ d ∈ tables_1, d.before a0 Z = true) : (Jvm.Cond.code ({ cls := "com/example/umbrella_state/umbrellastate/runtime/Delivery", name := "<init>", desc := "(Ljava/util/function/Consumer;Lcom/example/umbrella_state/umbrellastate/model/Message;JJ)V" } : Jvm.MethodName) prog_54_method_1_code (7 : Nat) (Option.none : Option Jvm.ClassFile.FieldType)).before a0 Z = true := hw _ (List.mem_of_getElem? (i := 5) rfl)
theorem t6 {Z : State} {a0 : Array Value} (hw : ∀ d ∈ tables_1, d.before a0 Z = true) : (Jvm.Cond.methodLink "com/example/umbrella_state/umbrellastate/runtime/Delivery" (3 : Nat) ({ cls := "java/lang/Object", name := "<init>", desc := "()V" } : Jvm.MethodName)).before a0 Z = true := hw _ (List.mem_of_getElem? (i := 6) rfl)
theorem t7 {Z : State} {a0 : Array Value} (hw : ∀ d ∈ tables_1, d.before a0 Z = true) : (Jvm.Cond.instanceMethod ({ cls := "java/lang/Object", name := "<init>", desc := "()V" } : Jvm.MethodName)).before a0 Z = true := hw _ (List.mem_of_getElem? (i := 7) rfl)
theorem t8 {Z : State} {a0 : Array Value} (hw : ∀ d ∈ tables_1, d.before a0 Z = true) : (Jvm.Cond.code ({ cls := "java/lang/Object", name := "<init>", desc := "()V" } : Jvm.MethodName) object_method_1_code (1 : Nat) (Option.none : Option Jvm.ClassFile.FieldType)).before a0 Z = true := hw _ (List.mem_of_getElem? (i := 8) rfl)
theorem t9 {Z : State} {a0 : Array Value} (hw : ∀ d ∈ tables_1, d.before a0 Z = true) : (Jvm.Cond.fieldLink "com/example/umbrella_state/umbrellastate/runtime/Delivery" (9 : Nat) "com/example/umbrella_state/umbrellastate/runtime/Delivery" "handler" "Ljava/util/function/Consumer;").before a0 Z = true := hw _ (List.mem_of_getElem? (i := 9) rfl)
theorem t10 {Z : State} {a0 : Array Value} (hw : ∀ d ∈ tables_1, d.before a0 Z = true) : (Jvm.Cond.lays "com/example/umbrella_state/umbrellastate/runtime/Delivery" "com/example/umbrella_state/umbrellastate/runtime/Delivery" "handler" "Ljava/util/function/Consumer;").before a0 Z = true := hw _ (List.mem_of_getElem? (i := 10) rfl)
theorem t11 {Z : State} {a0 : Array Value} (hw : ∀ d ∈ tables_1, d.before a0 Z = true) : (Jvm.Cond.fieldLink "com/example/umbrella_state/umbrellastate/runtime/Delivery" (15 : Nat) "com/example/umbrella_state/umbrellastate/runtime/Delivery" "message" "Lcom/example/umbrella_state/umbrellastate/model/Message;").before a0 Z = true := hw _ (List.mem_of_getElem? (i := 11) rfl)
theorem t12 {Z : State} {a0 : Array Value} (hw : ∀ d ∈ tables_1, d.before a0 Z = true) : (Jvm.Cond.lays "com/example/umbrella_state/umbrellastate/runtime/Delivery" "com/example/umbrella_state/umbrellastate/runtime/Delivery" "message" "Lcom/example/umbrella_state/umbrellastate/model/Message;").before a0 Z = true := hw _ (List.mem_of_getElem? (i := 12) rfl)
theorem t13 {Z : State} {a0 : Array Value} (hw : ∀ d ∈ tables_1, d.before a0 Z = true) : (Jvm.Cond.fieldLink "com/example/umbrella_state/umbrellastate/runtime/Delivery" (19 : Nat) "com/example/umbrella_state/umbrellastate/runtime/Delivery" "due" "J").before a0 Z = true := hw _ (List.mem_of_getElem? (i := 13) rfl)
theorem t14 {Z : State} {a0 : Array Value} (hw : ∀ d ∈ tables_1, d.before a0 Z = true) : (Jvm.Cond.laysFinal "com/example/umbrella_state/umbrellastate/runtime/Delivery" "com/example/umbrella_state/umbrellastate/runtime/Delivery" "due" "J").before a0 Z = true := hw _ (List.mem_of_getElem? (i := 14) rfl)
theorem t15 {Z : State} {a0 : Array Value} (hw : ∀ d ∈ tables_1, d.before a0 Z = true) : (Jvm.Cond.fieldLink "com/example/umbrella_state/umbrellastate/runtime/Delivery" (23 : Nat) "com/example/umbrella_state/umbrellastate/runtime/Delivery" "order" "J").before a0 Z = true := hw _ (List.mem_of_getElem? (i := 15) rfl)
theorem t16 {Z : State} {a0 : Array Value} (hw : ∀ d ∈ tables_1, d.before a0 Z = true) : (Jvm.Cond.laysFinal "com/example/umbrella_state/umbrellastate/runtime/Delivery" "com/example/umbrella_state/umbrellastate/runtime/Delivery" "order" "J").before a0 Z = true := hw _ (List.mem_of_getElem? (i := 16) rfl)
theorem t17 {Z : State} {a0 : Array Value} (hw : ∀ d ∈ tables_1, d.before a0 Z = true) : (Jvm.Cond.classLink "com/example/umbrella_state/umbrellastate/runtime/DelayedDeliveriesPeekPinLaw" (12 : Nat) "com/example/umbrella_state/umbrellastate/runtime/DelayedDeliveries").before a0 Z = true := hw _ (List.mem_of_getElem? (i := 17) rfl)
theorem t18 {Z : State} {a0 : Array Value} (hw : ∀ d ∈ tables_1, d.before a0 Z = true) : (Jvm.Cond.instantiable "com/example/umbrella_state/umbrellastate/runtime/DelayedDeliveries" (2 : Nat)).before a0 Z = true := hw _ (List.mem_of_getElem? (i := 18) rfl)
theorem t19 {Z : State} {a0 : Array Value} (hw : ∀ d ∈ tables_1, d.before a0 Z = true) : (Jvm.Cond.initialized "com/example/umbrella_state/umbrellastate/runtime/DelayedDeliveries").before a0 Z = true := hw _ (List.mem_of_getElem? (i := 19) rfl)
theorem t20 {Z : State} {a0 : Array Value} (hw : ∀ d ∈ tables_1, d.before a0 Z = true) : (Jvm.Cond.methodLink "com/example/umbrella_state/umbrellastate/runtime/DelayedDeliveriesPeekPinLaw" (14 : Nat) ({ cls := "com/example/umbrella_state/umbrellastate/runtime/DelayedDeliveries", name := "<init>", desc := "()V" } : Jvm.MethodName)).before a0 Z = true := hw _ (List.mem_of_getElem? (i := 20) rfl)
theorem t21 {Z : State} {a0 : Array Value} (hw : ∀ d ∈ tables_1, d.before a0 Z = true) : (Jvm.Cond.instanceMethod ({ cls := "com/example/umbrella_state/umbrellastate/runtime/DelayedDeliveries", name := "<init>", desc := "()V" } : Jvm.MethodName)).before a0 Z = true := hw _ (List.mem_of_getElem? (i := 21) rfl)
theorem t22 {Z : State} {a0 : Array Value} (hw : ∀ d ∈ tables_1, d.before a0 Z = true) : (Jvm.Cond.code ({ cls := "com/example/umbrella_state/umbrellastate/runtime/DelayedDeliveries", name := "<init>", desc := "()V" } : Jvm.MethodName) prog_52_method_1_code (1 : Nat) (Option.none : Option Jvm.ClassFile.FieldType)).before a0 Z = true := hw _ (List.mem_of_getElem? (i := 22) rfl)
theorem t23 {Z : State} {a0 : Array Value} (hw : ∀ d ∈ tables_1, d.before a0 Z = true) : (Jvm.Cond.methodLink "com/example/umbrella_state/umbrellastate/runtime/DelayedDeliveries" (1 : Nat) ({ cls := "java/lang/Object", name := "<init>", desc := "()V" } : Jvm.MethodName)).before a0 Z = true := hw _ (List.mem_of_getElem? (i := 23) rfl)
theorem t24 {Z : State} {a0 : Array Value} (hw : ∀ d ∈ tables_1, d.before a0 Z = true) : (Jvm.Cond.classLink "com/example/umbrella_state/umbrellastate/runtime/DelayedDeliveries" (7 : Nat) "com/example/umbrella_state/umbrellastate/runtime/Delivery").before a0 Z = true := hw _ (List.mem_of_getElem? (i := 24) rfl)
theorem t25 {Z : State} {a0 : Array Value} (hw : ∀ d ∈ tables_1, d.before a0 Z = true) : (Jvm.Cond.arrayOver (Jvm.ClassFile.FieldType.object "com/example/umbrella_state/umbrellastate/runtime/Delivery")).before a0 Z = true := hw _ (List.mem_of_getElem? (i := 25) rfl)
theorem t26 {Z : State} {a0 : Array Value} (hw : ∀ d ∈ tables_1, d.before a0 Z = true) : (Jvm.Cond.fieldLink "com/example/umbrella_state/umbrellastate/runtime/DelayedDeliveries" (9 : Nat) "com/example/umbrella_state/umbrellastate/runtime/DelayedDeliveries" "heap" "[Lcom/example/umbrella_state/umbrellastate/runtime/Delivery;").before a0 Z = true := hw _ (List.mem_of_getElem? (i := 26) rfl)
theorem t27 {Z : State} {a0 : Array Value} (hw : ∀ d ∈ tables_1, d.before a0 Z = true) : (Jvm.Cond.lays "com/example/umbrella_state/umbrellastate/runtime/DelayedDeliveries" "com/example/umbrella_state/umbrellastate/runtime/DelayedDeliveries" "heap" "[Lcom/example/umbrella_state/umbrellastate/runtime/Delivery;").before a0 Z = true := hw _ (List.mem_of_getElem? (i := 27) rfl)
theorem t28 {Z : State} {a0 : Array Value} (hw : ∀ d ∈ tables_1, d.before a0 Z = true) : (Jvm.Cond.methodLink "com/example/umbrella_state/umbrellastate/runtime/DelayedDeliveriesPeekPinLaw" (19 : Nat) ({ cls := "com/example/umbrella_state/umbrellastate/runtime/DelayedDeliveries", name := "peek", desc := "()Lcom/example/umbrella_state/umbrellastate/runtime/Delivery;" } : Jvm.MethodName)).before a0 Z = true := hw _ (List.mem_of_getElem? (i := 28) rfl)
theorem t29 {Z : State} {a0 : Array Value} (hw : ∀ d ∈ tables_1, d.before a0 Z = true) : (Jvm.Cond.declares ({ cls := "com/example/umbrella_state/umbrellastate/runtime/DelayedDeliveries", name := "peek", desc := "()Lcom/example/umbrella_state/umbrellastate/runtime/Delivery;" } : Jvm.MethodName)).before a0 Z = true := hw _ (List.mem_of_getElem? (i := 29) rfl)
theorem t30 {Z : State} {a0 : Array Value} (hw : ∀ d ∈ tables_1, d.before a0 Z = true) : (Jvm.Cond.instanceMethod ({ cls := "com/example/umbrella_state/umbrellastate/runtime/DelayedDeliveries", name := "peek", desc := "()Lcom/example/umbrella_state/umbrellastate/runtime/Delivery;" } : Jvm.MethodName)).before a0 Z = true := hw _ (List.mem_of_getElem? (i := 30) rfl)
theorem t31 {Z : State} {a0 : Array Value} (hw : ∀ d ∈ tables_1, d.before a0 Z = true) : (Jvm.Cond.selects "com/example/umbrella_state/umbrellastate/runtime/DelayedDeliveries" ({ cls := "com/example/umbrella_state/umbrellastate/runtime/DelayedDeliveries", name := "peek", desc := "()Lcom/example/umbrella_state/umbrellastate/runtime/Delivery;" } : Jvm.MethodName) ({ cls := "com/example/umbrella_state/umbrellastate/runtime/DelayedDeliveries", name := "peek", desc := "()Lcom/example/umbrella_state/umbrellastate/runtime/Delivery;" } : Jvm.MethodName)).before a0 Z = true := hw _ (List.mem_of_getElem? (i := 31) rfl)
theorem t32 {Z : State} {a0 : Array Value} (hw : ∀ d ∈ tables_1, d.before a0 Z = true) : (Jvm.Cond.code ({ cls := "com/example/umbrella_state/umbrellastate/runtime/DelayedDeliveries", name := "peek", desc := "()Lcom/example/umbrella_state/umbrellastate/runtime/Delivery;" } : Jvm.MethodName) prog_52_method_3_code (1 : Nat) (Option.some (Jvm.ClassFile.FieldType.object "com/example/umbrella_state/umbrellastate/runtime/Delivery"))).before a0 Z = true := hw _ (List.mem_of_getElem? (i := 32) rfl)
theorem t33 {Z : State} {a0 : Array Value} (hw : ∀ d ∈ tables_1, d.before a0 Z = true) : (Jvm.Cond.fieldLink "com/example/umbrella_state/umbrellastate/runtime/DelayedDeliveries" (15 : Nat) "com/example/umbrella_state/umbrellastate/runtime/DelayedDeliveries" "size" "I").before a0 Z = true := hw _ (List.mem_of_getElem? (i := 33) rfl)
theorem t34 {Z : State} {a0 : Array Value} (hw : ∀ d ∈ tables_1, d.before a0 Z = true) : (Jvm.Cond.lays "com/example/umbrella_state/umbrellastate/runtime/DelayedDeliveries" "com/example/umbrella_state/umbrellastate/runtime/DelayedDeliveries" "size" "I").before a0 Z = true := hw _ (List.mem_of_getElem? (i := 34) rfl)
theorem t35 {Z : State} {a0 : Array Value} (hw : ∀ d ∈ tables_1, d.before a0 Z = true) : (Jvm.Cond.methodLink "com/example/umbrella_state/umbrellastate/runtime/DelayedDeliveriesPeekPinLaw" (23 : Nat) ({ cls := "com/example/umbrella_state/umbrellastate/runtime/DelayedDeliveries", name := "isEmpty", desc := "()Z" } : Jvm.MethodName)).before a0 Z = true := hw _ (List.mem_of_getElem? (i := 35) rfl)
theorem t36 {Z : State} {a0 : Array Value} (hw : ∀ d ∈ tables_1, d.before a0 Z = true) : (Jvm.Cond.declares ({ cls := "com/example/umbrella_state/umbrellastate/runtime/DelayedDeliveries", name := "isEmpty", desc := "()Z" } : Jvm.MethodName)).before a0 Z = true := hw _ (List.mem_of_getElem? (i := 36) rfl)
theorem t37 {Z : State} {a0 : Array Value} (hw : ∀ d ∈ tables_1, d.before a0 Z = true) : (Jvm.Cond.instanceMethod ({ cls := "com/example/umbrella_state/umbrellastate/runtime/DelayedDeliveries", name := "isEmpty", desc := "()Z" } : Jvm.MethodName)).before a0 Z = true := hw _ (List.mem_of_getElem? (i := 37) rfl)
theorem t38 {Z : State} {a0 : Array Value} (hw : ∀ d ∈ tables_1, d.before a0 Z = true) : (Jvm.Cond.selects "com/example/umbrella_state/umbrellastate/runtime/DelayedDeliveries" ({ cls := "com/example/umbrella_state/umbrellastate/runtime/DelayedDeliveries", name := "isEmpty", desc := "()Z" } : Jvm.MethodName) ({ cls := "com/example/umbrella_state/umbrellastate/runtime/DelayedDeliveries", name := "isEmpty", desc := "()Z" } : Jvm.MethodName)).before a0 Z = true := hw _ (List.mem_of_getElem? (i := 38) rfl)
theorem t39 {Z : State} {a0 : Array Value} (hw : ∀ d ∈ tables_1, d.before a0 Z = true) : (Jvm.Cond.code ({ cls := "com/example/umbrella_state/umbrellastate/runtime/DelayedDeliveries", name := "isEmpty", desc := "()Z" } : Jvm.MethodName) prog_52_method_2_code (1 : Nat) (Option.some Jvm.ClassFile.FieldType.boolean)).before a0 Z = true := hw _ (List.mem_of_getElem? (i := 39) rfl)
theorem t40 {Z : State} {a0 : Array Value} (hw : ∀ d ∈ tables_1, d.before a0 Z = true) : (Jvm.Cond.methodLink "com/example/umbrella_state/umbrellastate/runtime/DelayedDeliveriesPeekPinLaw" (15 : Nat) ({ cls := "com/example/umbrella_state/umbrellastate/runtime/DelayedDeliveries", name := "add", desc := "(Lcom/example/umbrella_state/umbrellastate/runtime/Delivery;)V" } : Jvm.MethodName)).before a0 Z = true := hw _ (List.mem_of_getElem? (i := 40) rfl)
theorem t41 {Z : State} {a0 : Array Value} (hw : ∀ d ∈ tables_1, d.before a0 Z = true) : (Jvm.Cond.declares ({ cls := "com/example/umbrella_state/umbrellastate/runtime/DelayedDeliveries", name := "add", desc := "(Lcom/example/umbrella_state/umbrellastate/runtime/Delivery;)V" } : Jvm.MethodName)).before a0 Z = true := hw _ (List.mem_of_getElem? (i := 41) rfl)
theorem t42 {Z : State} {a0 : Array Value} (hw : ∀ d ∈ tables_1, d.before a0 Z = true) : (Jvm.Cond.instanceMethod ({ cls := "com/example/umbrella_state/umbrellastate/runtime/DelayedDeliveries", name := "add", desc := "(Lcom/example/umbrella_state/umbrellastate/runtime/Delivery;)V" } : Jvm.MethodName)).before a0 Z = true := hw _ (List.mem_of_getElem? (i := 42) rfl)
theorem t43 {Z : State} {a0 : Array Value} (hw : ∀ d ∈ tables_1, d.before a0 Z = true) : (Jvm.Cond.selects "com/example/umbrella_state/umbrellastate/runtime/DelayedDeliveries" ({ cls := "com/example/umbrella_state/umbrellastate/runtime/DelayedDeliveries", name := "add", desc := "(Lcom/example/umbrella_state/umbrellastate/runtime/Delivery;)V" } : Jvm.MethodName) ({ cls := "com/example/umbrella_state/umbrellastate/runtime/DelayedDeliveries", name := "add", desc := "(Lcom/example/umbrella_state/umbrellastate/runtime/Delivery;)V" } : Jvm.MethodName)).before a0 Z = true := hw _ (List.mem_of_getElem? (i := 43) rfl)
theorem t44 {Z : State} {a0 : Array Value} (hw : ∀ d ∈ tables_1, d.before a0 Z = true) : (Jvm.Cond.code ({ cls := "com/example/umbrella_state/umbrellastate/runtime/DelayedDeliveries", name := "add", desc := "(Lcom/example/umbrella_state/umbrellastate/runtime/Delivery;)V" } : Jvm.MethodName) prog_52_method_4_code (5 : Nat) (Option.none : Option Jvm.ClassFile.FieldType)).before a0 Z = true := hw _ (List.mem_of_getElem? (i := 44) rfl)
theorem t46 {Z : State} {a0 : Array Value} (hw : ∀ d ∈ tables_1, d.before a0 Z = true) : (Jvm.Cond.methodLink "com/example/umbrella_state/umbrellastate/runtime/DelayedDeliveries" (26 : Nat) ({ cls := "com/example/umbrella_state/umbrellastate/runtime/DelayedDeliveries", name := "parentOf", desc := "(I)I" } : Jvm.MethodName)).before a0 Z = true := hw _ (List.mem_of_getElem? (i := 46) rfl)
theorem t47 {Z : State} {a0 : Array Value} (hw : ∀ d ∈ tables_1, d.before a0 Z = true) : (Jvm.Cond.static ({ cls := "com/example/umbrella_state/umbrellastate/runtime/DelayedDeliveries", name := "parentOf", desc := "(I)I" } : Jvm.MethodName)).before a0 Z = true := hw _ (List.mem_of_getElem? (i := 47) rfl)
theorem t48 {Z : State} {a0 : Array Value} (hw : ∀ d ∈ tables_1, d.before a0 Z = true) : (Jvm.Cond.code ({ cls := "com/example/umbrella_state/umbrellastate/runtime/DelayedDeliveries", name := "parentOf", desc := "(I)I" } : Jvm.MethodName) prog_52_method_11_code (1 : Nat) (Option.some Jvm.ClassFile.FieldType.int)).before a0 Z = true := hw _ (List.mem_of_getElem? (i := 48) rfl)
theorem t49 {Z : State} {a0 : Array Value} (hw : ∀ d ∈ tables_1, d.before a0 Z = true) : (Jvm.Cond.methodLink "com/example/umbrella_state/umbrellastate/runtime/DelayedDeliveries" (30 : Nat) ({ cls := "com/example/umbrella_state/umbrellastate/runtime/DelayedDeliveries", name := "goesBefore", desc := "(Lcom/example/umbrella_state/umbrellastate/runtime/Delivery;Lcom/example/umbrella_state/umbrellastate/runtime/Delivery;)Z" } : Jvm.MethodName)).before a0 Z = true := hw _ (List.mem_of_getElem? (i := 49) rfl)
theorem t50 {Z : State} {a0 : Array Value} (hw : ∀ d ∈ tables_1, d.before a0 Z = true) : (Jvm.Cond.static ({ cls := "com/example/umbrella_state/umbrellastate/runtime/DelayedDeliveries", name := "goesBefore", desc := "(Lcom/example/umbrella_state/umbrellastate/runtime/Delivery;Lcom/example/umbrella_state/umbrellastate/runtime/Delivery;)Z" } : Jvm.MethodName)).before a0 Z = true := hw _ (List.mem_of_getElem? (i := 50) rfl)
theorem t51 {Z : State} {a0 : Array Value} (hw : ∀ d ∈ tables_1, d.before a0 Z = true) : (Jvm.Cond.code ({ cls := "com/example/umbrella_state/umbrellastate/runtime/DelayedDeliveries", name := "goesBefore", desc := "(Lcom/example/umbrella_state/umbrellastate/runtime/Delivery;Lcom/example/umbrella_state/umbrellastate/runtime/Delivery;)Z" } : Jvm.MethodName) prog_52_method_10_code (2 : Nat) (Option.some Jvm.ClassFile.FieldType.boolean)).before a0 Z = true := hw _ (List.mem_of_getElem? (i := 51) rfl)
theorem t52 {Z : State} {a0 : Array Value} (hw : ∀ d ∈ tables_1, d.before a0 Z = true) : (Jvm.Cond.fieldLink "com/example/umbrella_state/umbrellastate/runtime/DelayedDeliveries" (54 : Nat) "com/example/umbrella_state/umbrellastate/runtime/Delivery" "due" "J").before a0 Z = true := hw _ (List.mem_of_getElem? (i := 52) rfl)
theorem t53 {Z : State} {a0 : Array Value} (hw : ∀ d ∈ tables_1, d.before a0 Z = true) : (Jvm.Cond.methodLink "com/example/umbrella_state/umbrellastate/runtime/DelayedDeliveriesPeekPinLaw" (27 : Nat) ({ cls := "com/example/umbrella_state/umbrellastate/runtime/DelayedDeliveriesPeekPinLaw", name := "before", desc := "(Lcom/example/umbrella_state/umbrellastate/runtime/Delivery;Lcom/example/umbrella_state/umbrellastate/runtime/Delivery;)Z" } : Jvm.MethodName)).before a0 Z = true := hw _ (List.mem_of_getElem? (i := 53) rfl)
theorem t54 {Z : State} {a0 : Array Value} (hw : ∀ d ∈ tables_1, d.before a0 Z = true) : (Jvm.Cond.static ({ cls := "com/example/umbrella_state/umbrellastate/runtime/DelayedDeliveriesPeekPinLaw", name := "before", desc := "(Lcom/example/umbrella_state/umbrellastate/runtime/Delivery;Lcom/example/umbrella_state/umbrellastate/runtime/Delivery;)Z" } : Jvm.MethodName)).before a0 Z = true := hw _ (List.mem_of_getElem? (i := 54) rfl)
theorem t55 {Z : State} {a0 : Array Value} (hw : ∀ d ∈ tables_1, d.before a0 Z = true) : (Jvm.Cond.initialized "com/example/umbrella_state/umbrellastate/runtime/DelayedDeliveriesPeekPinLaw").before a0 Z = true := hw _ (List.mem_of_getElem? (i := 55) rfl)
theorem t56 {Z : State} {a0 : Array Value} (hw : ∀ d ∈ tables_1, d.before a0 Z = true) : (Jvm.Cond.code ({ cls := "com/example/umbrella_state/umbrellastate/runtime/DelayedDeliveriesPeekPinLaw", name := "before", desc := "(Lcom/example/umbrella_state/umbrellastate/runtime/Delivery;Lcom/example/umbrella_state/umbrellastate/runtime/Delivery;)Z" } : Jvm.MethodName) method_3_code (2 : Nat) (Option.some Jvm.ClassFile.FieldType.boolean)).before a0 Z = true := hw _ (List.mem_of_getElem? (i := 56) rfl)
theorem t57 {Z : State} {a0 : Array Value} (hw : ∀ d ∈ tables_1, d.before a0 Z = true) : (Jvm.Cond.fieldLink "com/example/umbrella_state/umbrellastate/runtime/DelayedDeliveriesPeekPinLaw" (33 : Nat) "com/example/umbrella_state/umbrellastate/runtime/Delivery" "due" "J").before a0 Z = true := hw _ (List.mem_of_getElem? (i := 57) rfl)
theorem t58 {Z : State} {a0 : Array Value} (hw : ∀ d ∈ tables_1, d.before a0 Z = true) : (Jvm.Cond.fieldLink "com/example/umbrella_state/umbrellastate/runtime/DelayedDeliveriesPeekPinLaw" (37 : Nat) "com/example/umbrella_state/umbrellastate/runtime/Delivery" "order" "J").before a0 Z = true := hw _ (List.mem_of_getElem? (i := 58) rfl)
theorem t59 {Z : State} {a0 : Array Value} (hw : ∀ d ∈ tables_1, d.before a0 Z = true) : (Jvm.Cond.fieldLink "com/example/umbrella_state/umbrellastate/runtime/DelayedDeliveries" (58 : Nat) "com/example/umbrella_state/umbrellastate/runtime/Delivery" "order" "J").before a0 Z = true := hw _ (List.mem_of_getElem? (i := 59) rfl)
theorem pd0 : parseMethodDescriptor "(I)I" = some ⟨[.int], some .int⟩ := by decide +kernel
theorem pd1 : parseMethodDescriptor "(Lcom/example/umbrella_state/umbrellastate/runtime/Delivery;Lcom/example/umbrella_state/umbrellastate/runtime/Delivery;)Z" = some ⟨[(.object "com/example/umbrella_state/umbrellastate/runtime/Delivery"), (.object "com/example/umbrella_state/umbrellastate/runtime/Delivery")], some .boolean⟩ := by decide +kernel
theorem pd2 : parseMethodDescriptor "(Ljava/util/function/Consumer;Lcom/example/umbrella_state/umbrellastate/model/Message;JJ)V" = some ⟨[(.object "java/util/function/Consumer"), (.object "com/example/umbrella_state/umbrellastate/model/Message"), .long, .long], none⟩ := by decide +kernel
theorem pd3 : parseMethodDescriptor "()V" = some ⟨[], none⟩ := by decide +kernel
theorem pd4 : parseMethodDescriptor "()Lcom/example/umbrella_state/umbrellastate/runtime/Delivery;" = some ⟨[], some (.object "com/example/umbrella_state/umbrellastate/runtime/Delivery")⟩ := by decide +kernel
theorem pd5 : parseMethodDescriptor "()Z" = some ⟨[], some .boolean⟩ := by decide +kernel
theorem pd6 : parseMethodDescriptor "(Lcom/example/umbrella_state/umbrellastate/runtime/Delivery;)V" = some ⟨[(.object "com/example/umbrella_state/umbrellastate/runtime/Delivery")], none⟩ := by decide +kernel
theorem pn0 : plainName "com/example/umbrella_state/umbrellastate/runtime/Delivery" = true := by first | (simp [plainName, overriddenIn]; done) | decide +kernel
theorem pn1 : plainName "com/example/umbrella_state/umbrellastate/runtime/DelayedDeliveries" = true := by first | (simp [plainName, overriddenIn]; done) | decide +kernel
theorem pn2 : plainName "com/example/umbrella_state/umbrellastate/runtime/DelayedDeliveriesPeekPinLaw" = true := by first | (simp [plainName, overriddenIn]; done) | decide +kernel
theorem c1_0 : Dal prog_54_method_1_code 0 0 1 := Or.inr ⟨0, (by decide +kernel), rfl, rfl⟩
theorem c1_1 : Dc prog_54_method_1_code 1 (.invokespecial 3) 3 4 := ⟨(by decide +kernel), rfl⟩
theorem c1_4 : Dal prog_54_method_1_code 4 0 5 := Or.inr ⟨0, (by decide +kernel), rfl, rfl⟩
theorem c1_5 : Dal prog_54_method_1_code 5 1 6 := Or.inr ⟨1, (by decide +kernel), rfl, rfl⟩
theorem c1_6 : Dc prog_54_method_1_code 6 (.putfield 9) 3 9 := ⟨(by decide +kernel), rfl⟩
theorem c1_9 : Dal prog_54_method_1_code 9 0 10 := Or.inr ⟨0, (by decide +kernel), rfl, rfl⟩
theorem c1_10 : Dal prog_54_method_1_code 10 2 11 := Or.inr ⟨2, (by decide +kernel), rfl, rfl⟩
theorem c1_11 : Dc prog_54_method_1_code 11 (.putfield 15) 3 14 := ⟨(by decide +kernel), rfl⟩
theorem c1_14 : Dal prog_54_method_1_code 14 0 15 := Or.inr ⟨0, (by decide +kernel), rfl, rfl⟩
theorem c1_15 : Dll prog_54_method_1_code 15 3 16 := Or.inr ⟨3, (by decide +kernel), rfl, rfl⟩
theorem c1_16 : Dc prog_54_method_1_code 16 (.putfield 19) 3 19 := ⟨(by decide +kernel), rfl⟩
theorem c1_19 : Dal prog_54_method_1_code 19 0 20 := Or.inr ⟨0, (by decide +kernel), rfl, rfl⟩
theorem c1_20 : Dll prog_54_method_1_code 20 5 22 := Or.inl ⟨(by decide +kernel), rfl⟩
theorem c1_22 : Dc prog_54_method_1_code 22 (.putfield 23) 3 25 := ⟨(by decide +kernel), rfl⟩
theorem c1_25 : Dc prog_54_method_1_code 25 .return_ 1 26 := ⟨(by decide +kernel), rfl⟩
theorem c3_0 : Dal prog_52_method_1_code 0 0 1 := Or.inr ⟨0, (by decide +kernel), rfl, rfl⟩
theorem c3_1 : Dc prog_52_method_1_code 1 (.invokespecial 1) 3 4 := ⟨(by decide +kernel), rfl⟩
theorem c3_4 : Dal prog_52_method_1_code 4 0 5 := Or.inr ⟨0, (by decide +kernel), rfl, rfl⟩
theorem c3_5 : Dp prog_52_method_1_code 5 8 7 := Or.inr (Or.inl ⟨8, (by decide +kernel), by decide, rfl⟩)
theorem c3_7 : Dc prog_52_method_1_code 7 (.anewarray 7) 3 10 := ⟨(by decide +kernel), rfl⟩
theorem c3_10 : Dc prog_52_method_1_code 10 (.putfield 9) 3 13 := ⟨(by decide +kernel), rfl⟩
theorem c3_13 : Dc prog_52_method_1_code 13 .return_ 1 14 := ⟨(by decide +kernel), rfl⟩
theorem c7_0 : Dil prog_52_method_11_code 0 0 1 := Or.inr ⟨0, (by decide +kernel), rfl, rfl⟩
theorem c7_1 : Dp prog_52_method_11_code 1 1 2 := Or.inl ⟨1, (by decide +kernel), by decide, rfl⟩
theorem c7_2 : Dc prog_52_method_11_code 2 .isub 1 3 := ⟨(by decide +kernel), rfl⟩
theorem c7_3 : Dp prog_52_method_11_code 3 1 4 := Or.inl ⟨1, (by decide +kernel), by decide, rfl⟩
theorem c7_4 : Dc prog_52_method_11_code 4 .iushr 1 5 := ⟨(by decide +kernel), rfl⟩
theorem c7_5 : Dc prog_52_method_11_code 5 .ireturn 1 6 := ⟨(by decide +kernel), rfl⟩
theorem c8_0 : Dal prog_52_method_10_code 0 0 1 := Or.inr ⟨0, (by decide +kernel), rfl, rfl⟩
theorem c8_1 : Dc prog_52_method_10_code 1 (.getfield 54) 3 4 := ⟨(by decide +kernel), rfl⟩
theorem c8_4 : Dal prog_52_method_10_code 4 1 5 := Or.inr ⟨1, (by decide +kernel), rfl, rfl⟩
theorem c8_5 : Dc prog_52_method_10_code 5 (.getfield 54) 3 8 := ⟨(by decide +kernel), rfl⟩
theorem c8_8 : Dc prog_52_method_10_code 8 .lcmp 1 9 := ⟨(by decide +kernel), rfl⟩
theorem c8_9 : Db prog_52_method_10_code 9 (.ifCond .lt) 12 36 := ⟨27, (by decide +kernel), rfl, by decide, by decide⟩
theorem c8_12 : Dal prog_52_method_10_code 12 0 13 := Or.inr ⟨0, (by decide +kernel), rfl, rfl⟩
theorem c8_13 : Dc prog_52_method_10_code 13 (.getfield 54) 3 16 := ⟨(by decide +kernel), rfl⟩
theorem c8_16 : Dal prog_52_method_10_code 16 1 17 := Or.inr ⟨1, (by decide +kernel), rfl, rfl⟩
theorem c8_17 : Dc prog_52_method_10_code 17 (.getfield 54) 3 20 := ⟨(by decide +kernel), rfl⟩
theorem c8_20 : Dc prog_52_method_10_code 20 .lcmp 1 21 := ⟨(by decide +kernel), rfl⟩
theorem c8_21 : Db prog_52_method_10_code 21 (.ifCond .ne) 24 40 := ⟨19, (by decide +kernel), rfl, by decide, by decide⟩
theorem c8_24 : Dal prog_52_method_10_code 24 0 25 := Or.inr ⟨0, (by decide +kernel), rfl, rfl⟩
theorem c8_25 : Dc prog_52_method_10_code 25 (.getfield 58) 3 28 := ⟨(by decide +kernel), rfl⟩
theorem c8_28 : Dal prog_52_method_10_code 28 1 29 := Or.inr ⟨1, (by decide +kernel), rfl, rfl⟩
theorem c8_29 : Dc prog_52_method_10_code 29 (.getfield 58) 3 32 := ⟨(by decide +kernel), rfl⟩
theorem c8_32 : Dc prog_52_method_10_code 32 .lcmp 1 33 := ⟨(by decide +kernel), rfl⟩
theorem c8_33 : Db prog_52_method_10_code 33 (.ifCond .ge) 36 40 := ⟨7, (by decide +kernel), rfl, by decide, by decide⟩
theorem c8_36 : Dp prog_52_method_10_code 36 1 37 := Or.inl ⟨1, (by decide +kernel), by decide, rfl⟩
theorem c8_37 : Db prog_52_method_10_code 37 .goto 40 41 := ⟨4, (by decide +kernel), rfl, by decide, by decide⟩
theorem c8_40 : Dp prog_52_method_10_code 40 0 41 := Or.inl ⟨0, (by decide +kernel), by decide, rfl⟩
theorem c8_41 : Dc prog_52_method_10_code 41 .ireturn 1 42 := ⟨(by decide +kernel), rfl⟩
theorem c5_0 : Dal prog_52_method_2_code 0 0 1 := Or.inr ⟨0, (by decide +kernel), rfl, rfl⟩
theorem c5_1 : Dc prog_52_method_2_code 1 (.getfield 15) 3 4 := ⟨(by decide +kernel), rfl⟩
theorem c5_4 : Db prog_52_method_2_code 4 (.ifCond .ne) 7 11 := ⟨7, (by decide +kernel), rfl, by decide, by decide⟩
theorem c5_7 : Dp prog_52_method_2_code 7 1 8 := Or.inl ⟨1, (by decide +kernel), by decide, rfl⟩
theorem c5_8 : Db prog_52_method_2_code 8 .goto 11 12 := ⟨4, (by decide +kernel), rfl, by decide, by decide⟩
theorem c5_11 : Dp prog_52_method_2_code 11 0 12 := Or.inl ⟨0, (by decide +kernel), by decide, rfl⟩
theorem c5_12 : Dc prog_52_method_2_code 12 .ireturn 1 13 := ⟨(by decide +kernel), rfl⟩
theorem c6_0 : Dal prog_52_method_4_code 0 0 1 := Or.inr ⟨0, (by decide +kernel), rfl, rfl⟩
theorem c6_1 : Dc prog_52_method_4_code 1 (.getfield 15) 3 4 := ⟨(by decide +kernel), rfl⟩
theorem c6_4 : Dal prog_52_method_4_code 4 0 5 := Or.inr ⟨0, (by decide +kernel), rfl, rfl⟩
theorem c6_5 : Dc prog_52_method_4_code 5 (.getfield 9) 3 8 := ⟨(by decide +kernel), rfl⟩
theorem c6_8 : Dc prog_52_method_4_code 8 .arraylength 1 9 := ⟨(by decide +kernel), rfl⟩
theorem c6_9 : Db prog_52_method_4_code 9 (.if_icmp .ne) 12 32 := ⟨23, (by decide +kernel), rfl, by decide, by decide⟩
theorem c6_12 : Dal prog_52_method_4_code 12 0 13 := Or.inr ⟨0, (by decide +kernel), rfl, rfl⟩
theorem c6_13 : Dal prog_52_method_4_code 13 0 14 := Or.inr ⟨0, (by decide +kernel), rfl, rfl⟩
theorem c6_14 : Dc prog_52_method_4_code 14 (.getfield 9) 3 17 := ⟨(by decide +kernel), rfl⟩
theorem c6_17 : Dp prog_52_method_4_code 17 2 18 := Or.inl ⟨2, (by decide +kernel), by decide, rfl⟩
theorem c6_18 : Dal prog_52_method_4_code 18 0 19 := Or.inr ⟨0, (by decide +kernel), rfl, rfl⟩
theorem c6_19 : Dc prog_52_method_4_code 19 (.getfield 15) 3 22 := ⟨(by decide +kernel), rfl⟩
theorem c6_22 : Dc prog_52_method_4_code 22 .imul 1 23 := ⟨(by decide +kernel), rfl⟩
theorem c6_23 : Dc prog_52_method_4_code 23 (.invokestatic 19) 3 26 := ⟨(by decide +kernel), rfl⟩
theorem c6_26 : Dc prog_52_method_4_code 26 (.checkcast 25) 3 29 := ⟨(by decide +kernel), rfl⟩
theorem c6_29 : Dc prog_52_method_4_code 29 (.putfield 9) 3 32 := ⟨(by decide +kernel), rfl⟩
theorem c6_32 : Dal prog_52_method_4_code 32 0 33 := Or.inr ⟨0, (by decide +kernel), rfl, rfl⟩
theorem c6_33 : Dc prog_52_method_4_code 33 (.getfield 15) 3 36 := ⟨(by decide +kernel), rfl⟩
theorem c6_36 : Dis prog_52_method_4_code 36 2 37 := Or.inr ⟨2, (by decide +kernel), rfl, rfl⟩
theorem c6_37 : Dil prog_52_method_4_code 37 2 38 := Or.inr ⟨2, (by decide +kernel), rfl, rfl⟩
theorem c6_38 : Db prog_52_method_4_code 38 (.ifCond .le) 41 65 := ⟨27, (by decide +kernel), rfl, by decide, by decide⟩
theorem c6_41 : Dal prog_52_method_4_code 41 1 42 := Or.inr ⟨1, (by decide +kernel), rfl, rfl⟩
theorem c6_42 : Dal prog_52_method_4_code 42 0 43 := Or.inr ⟨0, (by decide +kernel), rfl, rfl⟩
theorem c6_43 : Dc prog_52_method_4_code 43 (.getfield 9) 3 46 := ⟨(by decide +kernel), rfl⟩
theorem c6_46 : Dil prog_52_method_4_code 46 2 47 := Or.inr ⟨2, (by decide +kernel), rfl, rfl⟩
theorem c6_47 : Dc prog_52_method_4_code 47 (.invokestatic 26) 3 50 := ⟨(by decide +kernel), rfl⟩
theorem c6_50 : Dc prog_52_method_4_code 50 .aaload 1 51 := ⟨(by decide +kernel), rfl⟩
theorem c6_51 : Dc prog_52_method_4_code 51 (.invokestatic 30) 3 54 := ⟨(by decide +kernel), rfl⟩
theorem c6_54 : Db prog_52_method_4_code 54 (.ifCond .eq) 57 65 := ⟨11, (by decide +kernel), rfl, by decide, by decide⟩
theorem c6_57 : Dil prog_52_method_4_code 57 2 58 := Or.inr ⟨2, (by decide +kernel), rfl, rfl⟩
theorem c6_58 : Dc prog_52_method_4_code 58 (.invokestatic 26) 3 61 := ⟨(by decide +kernel), rfl⟩
theorem c6_61 : Dis prog_52_method_4_code 61 2 62 := Or.inr ⟨2, (by decide +kernel), rfl, rfl⟩
theorem c6_62 : Db prog_52_method_4_code 62 .goto 65 37 := ⟨(-25), (by decide +kernel), rfl, by decide, by decide⟩
theorem c6_65 : Dal prog_52_method_4_code 65 0 66 := Or.inr ⟨0, (by decide +kernel), rfl, rfl⟩
theorem c6_66 : Dc prog_52_method_4_code 66 (.getfield 15) 3 69 := ⟨(by decide +kernel), rfl⟩
theorem c6_69 : Dis prog_52_method_4_code 69 3 70 := Or.inr ⟨3, (by decide +kernel), rfl, rfl⟩
theorem c6_70 : Dil prog_52_method_4_code 70 3 71 := Or.inr ⟨3, (by decide +kernel), rfl, rfl⟩
theorem c6_71 : Dil prog_52_method_4_code 71 2 72 := Or.inr ⟨2, (by decide +kernel), rfl, rfl⟩
theorem c6_72 : Db prog_52_method_4_code 72 (.if_icmp .le) 75 101 := ⟨29, (by decide +kernel), rfl, by decide, by decide⟩
theorem c6_75 : Dil prog_52_method_4_code 75 3 76 := Or.inr ⟨3, (by decide +kernel), rfl, rfl⟩
theorem c6_76 : Dp prog_52_method_4_code 76 1 77 := Or.inl ⟨1, (by decide +kernel), by decide, rfl⟩
theorem c6_77 : Dc prog_52_method_4_code 77 .isub 1 78 := ⟨(by decide +kernel), rfl⟩
theorem c6_78 : Dp prog_52_method_4_code 78 1 79 := Or.inl ⟨1, (by decide +kernel), by decide, rfl⟩
theorem c6_79 : Dc prog_52_method_4_code 79 .iushr 1 80 := ⟨(by decide +kernel), rfl⟩
theorem c6_80 : Dis prog_52_method_4_code 80 4 82 := Or.inl ⟨(by decide +kernel), rfl⟩
theorem c6_82 : Dal prog_52_method_4_code 82 0 83 := Or.inr ⟨0, (by decide +kernel), rfl, rfl⟩
theorem c6_83 : Dc prog_52_method_4_code 83 (.getfield 9) 3 86 := ⟨(by decide +kernel), rfl⟩
theorem c6_86 : Dil prog_52_method_4_code 86 3 87 := Or.inr ⟨3, (by decide +kernel), rfl, rfl⟩
theorem c6_87 : Dal prog_52_method_4_code 87 0 88 := Or.inr ⟨0, (by decide +kernel), rfl, rfl⟩
theorem c6_88 : Dc prog_52_method_4_code 88 (.getfield 9) 3 91 := ⟨(by decide +kernel), rfl⟩
theorem c6_91 : Dil prog_52_method_4_code 91 4 93 := Or.inl ⟨(by decide +kernel), rfl⟩
theorem c6_93 : Dc prog_52_method_4_code 93 .aaload 1 94 := ⟨(by decide +kernel), rfl⟩
theorem c6_94 : Dc prog_52_method_4_code 94 .aastore 1 95 := ⟨(by decide +kernel), rfl⟩
theorem c6_95 : Dil prog_52_method_4_code 95 4 97 := Or.inl ⟨(by decide +kernel), rfl⟩
theorem c6_97 : Dis prog_52_method_4_code 97 3 98 := Or.inr ⟨3, (by decide +kernel), rfl, rfl⟩
theorem c6_98 : Db prog_52_method_4_code 98 .goto 101 70 := ⟨(-28), (by decide +kernel), rfl, by decide, by decide⟩
theorem c6_101 : Dal prog_52_method_4_code 101 0 102 := Or.inr ⟨0, (by decide +kernel), rfl, rfl⟩
theorem c6_102 : Dc prog_52_method_4_code 102 (.getfield 9) 3 105 := ⟨(by decide +kernel), rfl⟩
theorem c6_105 : Dil prog_52_method_4_code 105 2 106 := Or.inr ⟨2, (by decide +kernel), rfl, rfl⟩
theorem c6_106 : Dal prog_52_method_4_code 106 1 107 := Or.inr ⟨1, (by decide +kernel), rfl, rfl⟩
theorem c6_107 : Dc prog_52_method_4_code 107 .aastore 1 108 := ⟨(by decide +kernel), rfl⟩
theorem c6_108 : Dal prog_52_method_4_code 108 0 109 := Or.inr ⟨0, (by decide +kernel), rfl, rfl⟩
theorem c6_109 : Dc prog_52_method_4_code 109 .dup 1 110 := ⟨(by decide +kernel), rfl⟩
theorem c6_110 : Dc prog_52_method_4_code 110 (.getfield 15) 3 113 := ⟨(by decide +kernel), rfl⟩
theorem c6_113 : Dp prog_52_method_4_code 113 1 114 := Or.inl ⟨1, (by decide +kernel), by decide, rfl⟩
theorem c6_114 : Dc prog_52_method_4_code 114 .iadd 1 115 := ⟨(by decide +kernel), rfl⟩
theorem c6_115 : Dc prog_52_method_4_code 115 (.putfield 15) 3 118 := ⟨(by decide +kernel), rfl⟩
theorem c6_118 : Dc prog_52_method_4_code 118 .return_ 1 119 := ⟨(by decide +kernel), rfl⟩
theorem c9_0 : Dal method_3_code 0 0 1 := Or.inr ⟨0, (by decide +kernel), rfl, rfl⟩
theorem c9_1 : Dc method_3_code 1 (.getfield 33) 3 4 := ⟨(by decide +kernel), rfl⟩
theorem c9_4 : Dal method_3_code 4 1 5 := Or.inr ⟨1, (by decide +kernel), rfl, rfl⟩
theorem c9_5 : Dc method_3_code 5 (.getfield 33) 3 8 := ⟨(by decide +kernel), rfl⟩
theorem c9_8 : Dc method_3_code 8 .lcmp 1 9 := ⟨(by decide +kernel), rfl⟩
theorem c9_9 : Db method_3_code 9 (.ifCond .lt) 12 36 := ⟨27, (by decide +kernel), rfl, by decide, by decide⟩
theorem c9_12 : Dal method_3_code 12 0 13 := Or.inr ⟨0, (by decide +kernel), rfl, rfl⟩
theorem c9_13 : Dc method_3_code 13 (.getfield 33) 3 16 := ⟨(by decide +kernel), rfl⟩
theorem c9_16 : Dal method_3_code 16 1 17 := Or.inr ⟨1, (by decide +kernel), rfl, rfl⟩
theorem c9_17 : Dc method_3_code 17 (.getfield 33) 3 20 := ⟨(by decide +kernel), rfl⟩
theorem c9_20 : Dc method_3_code 20 .lcmp 1 21 := ⟨(by decide +kernel), rfl⟩
theorem c9_21 : Db method_3_code 21 (.ifCond .ne) 24 40 := ⟨19, (by decide +kernel), rfl, by decide, by decide⟩
theorem c9_24 : Dal method_3_code 24 0 25 := Or.inr ⟨0, (by decide +kernel), rfl, rfl⟩
theorem c9_25 : Dc method_3_code 25 (.getfield 37) 3 28 := ⟨(by decide +kernel), rfl⟩
theorem c9_28 : Dal method_3_code 28 1 29 := Or.inr ⟨1, (by decide +kernel), rfl, rfl⟩
theorem c9_29 : Dc method_3_code 29 (.getfield 37) 3 32 := ⟨(by decide +kernel), rfl⟩
theorem c9_32 : Dc method_3_code 32 .lcmp 1 33 := ⟨(by decide +kernel), rfl⟩
theorem c9_33 : Db method_3_code 33 (.ifCond .ge) 36 40 := ⟨7, (by decide +kernel), rfl, by decide, by decide⟩
theorem c9_36 : Dp method_3_code 36 1 37 := Or.inl ⟨1, (by decide +kernel), by decide, rfl⟩
theorem c9_37 : Db method_3_code 37 .goto 40 41 := ⟨4, (by decide +kernel), rfl, by decide, by decide⟩
theorem c9_40 : Dp method_3_code 40 0 41 := Or.inl ⟨0, (by decide +kernel), by decide, rfl⟩
theorem c9_41 : Dc method_3_code 41 .ireturn 1 42 := ⟨(by decide +kernel), rfl⟩
theorem c4_0 : Dal prog_52_method_3_code 0 0 1 := Or.inr ⟨0, (by decide +kernel), rfl, rfl⟩
theorem c4_1 : Dc prog_52_method_3_code 1 (.getfield 15) 3 4 := ⟨(by decide +kernel), rfl⟩
theorem c4_4 : Db prog_52_method_3_code 4 (.ifCond .ne) 7 11 := ⟨7, (by decide +kernel), rfl, by decide, by decide⟩
theorem c4_7 : Dc prog_52_method_3_code 7 .aconst_null 1 8 := ⟨(by decide +kernel), rfl⟩
theorem c4_8 : Db prog_52_method_3_code 8 .goto 11 17 := ⟨9, (by decide +kernel), rfl, by decide, by decide⟩
theorem c4_11 : Dal prog_52_method_3_code 11 0 12 := Or.inr ⟨0, (by decide +kernel), rfl, rfl⟩
theorem c4_12 : Dc prog_52_method_3_code 12 (.getfield 9) 3 15 := ⟨(by decide +kernel), rfl⟩
theorem c4_15 : Dp prog_52_method_3_code 15 0 16 := Or.inl ⟨0, (by decide +kernel), by decide, rfl⟩
theorem c4_16 : Dc prog_52_method_3_code 16 .aaload 1 17 := ⟨(by decide +kernel), rfl⟩
theorem c4_17 : Dc prog_52_method_3_code 17 .areturn 1 18 := ⟨(by decide +kernel), rfl⟩
theorem c0_0 : Dil code 0 0 1 := Or.inr ⟨0, at_0, rfl, rfl⟩
theorem c0_1 : Dp code 1 3 2 := Or.inl ⟨3, at_1, by decide, rfl⟩
theorem c0_2 : Dc code 2 .iand 1 3 := ⟨at_2, rfl⟩
theorem c0_3 : Dis code 3 11 5 := Or.inl ⟨at_3, rfl⟩
theorem c0_5 : Dil code 5 0 6 := Or.inr ⟨0, at_5, rfl, rfl⟩
theorem c0_6 : Dp code 6 2 7 := Or.inl ⟨2, at_6, by decide, rfl⟩
theorem c0_7 : Dc code 7 .ishr 1 8 := ⟨at_7, rfl⟩
theorem c0_8 : Dc code 8 .i2l 1 9 := ⟨at_8, rfl⟩
theorem c0_9 : Dls code 9 12 11 := Or.inl ⟨at_9, rfl⟩
theorem c0_11 : Dc code 11 (.new 7) 3 14 := ⟨at_11, rfl⟩
theorem c0_14 : Dc code 14 .dup 1 15 := ⟨at_14, rfl⟩
theorem c0_15 : Dc code 15 .aconst_null 1 16 := ⟨at_15, rfl⟩
theorem c0_16 : Dc code 16 .aconst_null 1 17 := ⟨at_16, rfl⟩
theorem c0_17 : Dll code 17 1 18 := Or.inr ⟨1, at_17, rfl, rfl⟩
theorem c0_18 : Dll code 18 7 20 := Or.inl ⟨at_18, rfl⟩
theorem c0_20 : Dc code 20 (.invokespecial 9) 3 23 := ⟨at_20, rfl⟩
theorem c0_23 : Das code 23 14 25 := Or.inl ⟨at_23, rfl⟩
theorem c0_25 : Dc code 25 (.new 7) 3 28 := ⟨at_25, rfl⟩
theorem c0_28 : Dc code 28 .dup 1 29 := ⟨at_28, rfl⟩
theorem c0_29 : Dc code 29 .aconst_null 1 30 := ⟨at_29, rfl⟩
theorem c0_30 : Dc code 30 .aconst_null 1 31 := ⟨at_30, rfl⟩
theorem c0_31 : Dll code 31 3 32 := Or.inr ⟨3, at_31, rfl, rfl⟩
theorem c0_32 : Dll code 32 9 34 := Or.inl ⟨at_32, rfl⟩
theorem c0_34 : Dc code 34 (.invokespecial 9) 3 37 := ⟨at_34, rfl⟩
theorem c0_37 : Das code 37 15 39 := Or.inl ⟨at_37, rfl⟩
theorem c0_39 : Dc code 39 (.new 7) 3 42 := ⟨at_39, rfl⟩
theorem c0_42 : Dc code 42 .dup 1 43 := ⟨at_42, rfl⟩
theorem c0_43 : Dc code 43 .aconst_null 1 44 := ⟨at_43, rfl⟩
theorem c0_44 : Dc code 44 .aconst_null 1 45 := ⟨at_44, rfl⟩
theorem c0_45 : Dll code 45 5 47 := Or.inl ⟨at_45, rfl⟩
theorem c0_47 : Dll code 47 12 49 := Or.inl ⟨at_47, rfl⟩
theorem c0_49 : Dc code 49 (.invokespecial 9) 3 52 := ⟨at_49, rfl⟩
theorem c0_52 : Das code 52 16 54 := Or.inl ⟨at_52, rfl⟩
theorem c0_54 : Dc code 54 (.new 12) 3 57 := ⟨at_54, rfl⟩
theorem c0_57 : Dc code 57 .dup 1 58 := ⟨at_57, rfl⟩
theorem c0_58 : Dc code 58 (.invokespecial 14) 3 61 := ⟨at_58, rfl⟩
theorem c0_61 : Das code 61 17 63 := Or.inl ⟨at_61, rfl⟩
theorem c0_63 : Dil code 63 11 65 := Or.inl ⟨at_63, rfl⟩
theorem c0_65 : Dp code 65 1 66 := Or.inl ⟨1, at_65, by decide, rfl⟩
theorem c0_66 : Db code 66 (.if_icmp .lt) 69 76 := ⟨10, at_66, rfl, by decide, by decide⟩
theorem c0_69 : Dal code 69 17 71 := Or.inl ⟨at_69, rfl⟩
theorem c0_71 : Dal code 71 14 73 := Or.inl ⟨at_71, rfl⟩
theorem c0_73 : Dc code 73 (.invokevirtual 15) 3 76 := ⟨at_73, rfl⟩
theorem c0_76 : Dil code 76 11 78 := Or.inl ⟨at_76, rfl⟩
theorem c0_78 : Dp code 78 2 79 := Or.inl ⟨2, at_78, by decide, rfl⟩
theorem c0_79 : Db code 79 (.if_icmp .lt) 82 89 := ⟨10, at_79, rfl, by decide, by decide⟩
theorem c0_82 : Dal code 82 17 84 := Or.inl ⟨at_82, rfl⟩
theorem c0_84 : Dal code 84 15 86 := Or.inl ⟨at_84, rfl⟩
theorem c0_86 : Dc code 86 (.invokevirtual 15) 3 89 := ⟨at_86, rfl⟩
theorem c0_89 : Dil code 89 11 91 := Or.inl ⟨at_89, rfl⟩
theorem c0_91 : Dp code 91 3 92 := Or.inl ⟨3, at_91, by decide, rfl⟩
theorem c0_92 : Db code 92 (.if_icmp .lt) 95 102 := ⟨10, at_92, rfl, by decide, by decide⟩
theorem c0_95 : Dal code 95 17 97 := Or.inl ⟨at_95, rfl⟩
theorem c0_97 : Dal code 97 16 99 := Or.inl ⟨at_97, rfl⟩
theorem c0_99 : Dc code 99 (.invokevirtual 15) 3 102 := ⟨at_99, rfl⟩
theorem c0_102 : Dal code 102 17 104 := Or.inl ⟨at_102, rfl⟩
theorem c0_104 : Dc code 104 (.invokevirtual 19) 3 107 := ⟨at_104, rfl⟩
theorem c0_107 : Das code 107 18 109 := Or.inl ⟨at_107, rfl⟩
theorem c0_109 : Dil code 109 11 111 := Or.inl ⟨at_109, rfl⟩
theorem c0_111 : Db code 111 (.ifCond .ne) 114 141 := ⟨30, at_111, rfl, by decide, by decide⟩
theorem c0_114 : Dal code 114 18 116 := Or.inl ⟨at_114, rfl⟩
theorem c0_116 : Db code 116 .ifnonnull 119 139 := ⟨23, at_116, rfl, by decide, by decide⟩
theorem c0_119 : Dal code 119 17 121 := Or.inl ⟨at_119, rfl⟩
theorem c0_121 : Dc code 121 (.invokevirtual 19) 3 124 := ⟨at_121, rfl⟩
theorem c0_124 : Db code 124 .ifnonnull 127 139 := ⟨15, at_124, rfl, by decide, by decide⟩
theorem c0_127 : Dal code 127 17 129 := Or.inl ⟨at_127, rfl⟩
theorem c0_129 : Dc code 129 (.invokevirtual 23) 3 132 := ⟨at_129, rfl⟩
theorem c0_132 : Db code 132 (.ifCond .eq) 135 139 := ⟨7, at_132, rfl, by decide, by decide⟩
theorem c0_135 : Dp code 135 1 136 := Or.inl ⟨1, at_135, by decide, rfl⟩
theorem c0_136 : Db code 136 .goto 139 140 := ⟨4, at_136, rfl, by decide, by decide⟩
theorem c0_139 : Dp code 139 0 140 := Or.inl ⟨0, at_139, by decide, rfl⟩
theorem c0_140 : Dc code 140 .ireturn 1 141 := ⟨at_140, rfl⟩
theorem c0_141 : Dal code 141 18 143 := Or.inl ⟨at_141, rfl⟩
theorem c0_143 : Db code 143 .ifnonnull 146 148 := ⟨5, at_143, rfl, by decide, by decide⟩
theorem c0_146 : Dp code 146 0 147 := Or.inl ⟨0, at_146, by decide, rfl⟩
theorem c0_147 : Dc code 147 .ireturn 1 148 := ⟨at_147, rfl⟩
theorem c0_148 : Dal code 148 18 150 := Or.inl ⟨at_148, rfl⟩
theorem c0_150 : Dal code 150 14 152 := Or.inl ⟨at_150, rfl⟩
theorem c0_152 : Db code 152 (.if_acmp .eq) 155 181 := ⟨29, at_152, rfl, by decide, by decide⟩
theorem c0_155 : Dil code 155 11 157 := Or.inl ⟨at_155, rfl⟩
theorem c0_157 : Dp code 157 2 158 := Or.inl ⟨2, at_157, by decide, rfl⟩
theorem c0_158 : Db code 158 (.if_icmp .lt) 161 168 := ⟨10, at_158, rfl, by decide, by decide⟩
theorem c0_161 : Dal code 161 18 163 := Or.inl ⟨at_161, rfl⟩
theorem c0_163 : Dal code 163 15 165 := Or.inl ⟨at_163, rfl⟩
theorem c0_165 : Db code 165 (.if_acmp .eq) 168 181 := ⟨16, at_165, rfl, by decide, by decide⟩
theorem c0_168 : Dil code 168 11 170 := Or.inl ⟨at_168, rfl⟩
theorem c0_170 : Dp code 170 3 171 := Or.inl ⟨3, at_170, by decide, rfl⟩
theorem c0_171 : Db code 171 (.if_icmp .lt) 174 185 := ⟨14, at_171, rfl, by decide, by decide⟩
theorem c0_174 : Dal code 174 18 176 := Or.inl ⟨at_174, rfl⟩
theorem c0_176 : Dal code 176 16 178 := Or.inl ⟨at_176, rfl⟩
theorem c0_178 : Db code 178 (.if_acmp .ne) 181 185 := ⟨7, at_178, rfl, by decide, by decide⟩
theorem c0_181 : Dp code 181 1 182 := Or.inl ⟨1, at_181, by decide, rfl⟩
theorem c0_182 : Db code 182 .goto 185 186 := ⟨4, at_182, rfl, by decide, by decide⟩
theorem c0_185 : Dp code 185 0 186 := Or.inl ⟨0, at_185, by decide, rfl⟩
theorem c0_186 : Dis code 186 19 188 := Or.inl ⟨at_186, rfl⟩
theorem c0_188 : Dal code 188 14 190 := Or.inl ⟨at_188, rfl⟩
theorem c0_190 : Dal code 190 18 192 := Or.inl ⟨at_190, rfl⟩
theorem c0_192 : Dc code 192 (.invokestatic 27) 3 195 := ⟨at_192, rfl⟩
theorem c0_195 : Db code 195 (.ifCond .ne) 198 234 := ⟨39, at_195, rfl, by decide, by decide⟩
theorem c0_198 : Dil code 198 11 200 := Or.inl ⟨at_198, rfl⟩
theorem c0_200 : Dp code 200 2 201 := Or.inl ⟨2, at_200, by decide, rfl⟩
theorem c0_201 : Db code 201 (.if_icmp .lt) 204 214 := ⟨13, at_201, rfl, by decide, by decide⟩
theorem c0_204 : Dal code 204 15 206 := Or.inl ⟨at_204, rfl⟩
theorem c0_206 : Dal code 206 18 208 := Or.inl ⟨at_206, rfl⟩
theorem c0_208 : Dc code 208 (.invokestatic 27) 3 211 := ⟨at_208, rfl⟩
theorem c0_211 : Db code 211 (.ifCond .ne) 214 234 := ⟨23, at_211, rfl, by decide, by decide⟩
theorem c0_214 : Dil code 214 11 216 := Or.inl ⟨at_214, rfl⟩
theorem c0_216 : Dp code 216 3 217 := Or.inl ⟨3, at_216, by decide, rfl⟩
theorem c0_217 : Db code 217 (.if_icmp .lt) 220 230 := ⟨13, at_217, rfl, by decide, by decide⟩
theorem c0_220 : Dal code 220 16 222 := Or.inl ⟨at_220, rfl⟩
theorem c0_222 : Dal code 222 18 224 := Or.inl ⟨at_222, rfl⟩
theorem c0_224 : Dc code 224 (.invokestatic 27) 3 227 := ⟨at_224, rfl⟩
theorem c0_227 : Db code 227 (.ifCond .ne) 230 234 := ⟨7, at_227, rfl, by decide, by decide⟩
theorem c0_230 : Dp code 230 1 231 := Or.inl ⟨1, at_230, by decide, rfl⟩
theorem c0_231 : Db code 231 .goto 234 235 := ⟨4, at_231, rfl, by decide, by decide⟩
theorem c0_234 : Dp code 234 0 235 := Or.inl ⟨0, at_234, by decide, rfl⟩
theorem c0_235 : Dis code 235 20 237 := Or.inl ⟨at_235, rfl⟩
theorem c0_237 : Dil code 237 19 239 := Or.inl ⟨at_237, rfl⟩
theorem c0_239 : Db code 239 (.ifCond .eq) 242 269 := ⟨30, at_239, rfl, by decide, by decide⟩
theorem c0_242 : Dil code 242 20 244 := Or.inl ⟨at_242, rfl⟩
theorem c0_244 : Db code 244 (.ifCond .eq) 247 269 := ⟨25, at_244, rfl, by decide, by decide⟩
theorem c0_247 : Dal code 247 17 249 := Or.inl ⟨at_247, rfl⟩
theorem c0_249 : Dc code 249 (.invokevirtual 19) 3 252 := ⟨at_249, rfl⟩
theorem c0_252 : Dal code 252 18 254 := Or.inl ⟨at_252, rfl⟩
theorem c0_254 : Db code 254 (.if_acmp .ne) 257 269 := ⟨15, at_254, rfl, by decide, by decide⟩
theorem c0_257 : Dal code 257 17 259 := Or.inl ⟨at_257, rfl⟩
theorem c0_259 : Dc code 259 (.invokevirtual 23) 3 262 := ⟨at_259, rfl⟩
theorem c0_262 : Db code 262 (.ifCond .ne) 265 269 := ⟨7, at_262, rfl, by decide, by decide⟩
theorem c0_265 : Dp code 265 1 266 := Or.inl ⟨1, at_265, by decide, rfl⟩
theorem c0_266 : Db code 266 .goto 269 270 := ⟨4, at_266, rfl, by decide, by decide⟩
theorem c0_269 : Dp code 269 0 270 := Or.inl ⟨0, at_269, by decide, rfl⟩
theorem c0_270 : Dc code 270 .ireturn 1 271 := ⟨at_270, rfl⟩

abbrev own_dl (du od : Int64) : Desc := (.inl ("com/example/umbrella_state/umbrellastate/runtime/Delivery", [(("com/example/umbrella_state/umbrellastate/runtime/Delivery", "handler", "Ljava/util/function/Consumer;"), .null), (("com/example/umbrella_state/umbrellastate/runtime/Delivery", "message", "Lcom/example/umbrella_state/umbrellastate/model/Message;"), .null), (("com/example/umbrella_state/umbrellastate/runtime/Delivery", "due", "J"), (.long du)), (("com/example/umbrella_state/umbrellastate/runtime/Delivery", "order", "J"), (.long od))]))
abbrev own_qo (ha : Value) (sz : Int32) : Desc := (.inl ("com/example/umbrella_state/umbrellastate/runtime/DelayedDeliveries", [(("com/example/umbrella_state/umbrellastate/runtime/DelayedDeliveries", "heap", "[Lcom/example/umbrella_state/umbrellastate/runtime/Delivery;"), ha), (("com/example/umbrella_state/umbrellastate/runtime/DelayedDeliveries", "size", "I"), (.int sz))]))
abbrev own_ar (vs : List Value) : Desc := .inr ((.object "com/example/umbrella_state/umbrellastate/runtime/Delivery"), "[Lcom/example/umbrella_state/umbrellastate/runtime/Delivery;", vs)
def own_bf (d1 o1 d2 o2 : Int64) : Int32 := if d1 < d2 then 1 else if d1 = d2 then (if o1 < o2 then 1 else 0) else 0
theorem own_bf0 (d1 o1 d2 o2 : Int64) : own_bf d1 o1 d2 o2 = 0 ↔ ¬ (d1.toInt < d2.toInt ∨ (d1.toInt = d2.toInt ∧ o1.toInt < o2.toInt)) := by
  unfold own_bf
  rw [← Int64.lt_iff_toInt_lt, ← Int64.lt_iff_toInt_lt, Int64.toInt_inj]
  by_cases a : d1 < d2
  · simp [a]
  · by_cases b : d1 = d2
    · by_cases c : o1 < o2 <;> simp [a, b, c]
    · simp [a, b]
def own_isz (z : Int32) : Int32 := if z = 0 then 1 else 0
def own_par (z : Int32) : Int32 := XT.ushr (z - 1) 1
set_option maxRecDepth 65536 in
set_option maxHeartbeats 4000000 in
theorem rm_D (l : Launch) (Z : State) (a0 : Array Value) (hw : ∀ d ∈ tables_1, d.before a0 Z = true) (h0 : Heap) (n0 : Nat) (M : List (Addr × Desc)) (a : Addr) (du od : Int64) (P0 : Hp Z n0 h0 ((a, own_dl 0 0) :: M)) :
    Con false l Z (⟨"com/example/umbrella_state/umbrellastate/runtime/Delivery", "<init>", "(Ljava/util/function/Consumer;Lcom/example/umbrella_state/umbrellastate/model/Message;JJ)V"⟩ : MethodName) prog_54_method_1_code 7 none ({ frames := 1, cells := 0, slots := 0, locals := 12 } : Room) #[(.ref a), .null, .null, (.long du), (.long od)] h0 n0 (R0 fun h' => Hp Z n0 h' ((a, own_dl du od) :: M)) := by
  refine con_of (ls := [.val (.ref a), .val .null, .val .null, .val (.long du), .second, .val (.long od), .second]) (plainFor_of_name pn0) rfl ?_
  refine go_aload c1_0 rfl rfl ?_
  refine go_initO (y := (⟨"com/example/umbrella_state/umbrellastate/runtime/Delivery", "<init>", "(Ljava/util/function/Consumer;Lcom/example/umbrella_state/umbrellastate/model/Message;JJ)V"⟩ : MethodName)) (W := 0) c1_1 (t6 hw) (t7 hw) (t8 hw) rfl (by decide) rfl (by decide) ?_
  refine go_aload c1_4 rfl rfl ?_
  refine go_aload c1_5 rfl rfl ?_
  refine go_put (y := (⟨"com/example/umbrella_state/umbrellastate/runtime/Delivery", "<init>", "(Ljava/util/function/Consumer;Lcom/example/umbrella_state/umbrellastate/model/Message;JJ)V"⟩ : MethodName)) P0 0 0 (.object "java/util/function/Consumer") c1_6 rfl rfl (t9 hw) (Or.inl (t10 hw)) (t1 hw) (by decide) rfl rfl ?_
  intro h1 P2
  dsimp only [lupd] at P2
  refine go_aload c1_9 rfl rfl ?_
  refine go_aload c1_10 rfl rfl ?_
  refine go_put (y := (⟨"com/example/umbrella_state/umbrellastate/runtime/Delivery", "<init>", "(Ljava/util/function/Consumer;Lcom/example/umbrella_state/umbrellastate/model/Message;JJ)V"⟩ : MethodName)) P2 0 1 (.object "com/example/umbrella_state/umbrellastate/model/Message") c1_11 rfl rfl (t11 hw) (Or.inl (t12 hw)) (t1 hw) (by decide) rfl rfl ?_
  intro h3 P4
  dsimp only [lupd] at P4
  refine go_aload c1_14 rfl rfl ?_
  refine go_lload c1_15 rfl ?_
  refine go_put (y := (⟨"com/example/umbrella_state/umbrellastate/runtime/Delivery", "<init>", "(Ljava/util/function/Consumer;Lcom/example/umbrella_state/umbrellastate/model/Message;JJ)V"⟩ : MethodName)) P4 0 2 .long c1_16 rfl rfl (t13 hw) (Or.inr ⟨(t14 hw), rfl, rfl⟩) (t1 hw) (by decide) rfl rfl ?_
  intro h5 P6
  dsimp only [lupd] at P6
  refine go_aload c1_19 rfl rfl ?_
  refine go_lload c1_20 rfl ?_
  refine go_put (y := (⟨"com/example/umbrella_state/umbrellastate/runtime/Delivery", "<init>", "(Ljava/util/function/Consumer;Lcom/example/umbrella_state/umbrellastate/model/Message;JJ)V"⟩ : MethodName)) P6 0 3 .long c1_22 rfl rfl (t15 hw) (Or.inr ⟨(t16 hw), rfl, rfl⟩) (t1 hw) (by decide) rfl rfl ?_
  intro h7 P8
  dsimp only [lupd] at P8
  exact go_ret rfl c1_25 (by decide) (by decide) ⟨rfl, P8⟩
set_option maxRecDepth 65536 in
set_option maxHeartbeats 4000000 in
theorem rm_Q (l : Launch) (Z : State) (a0 : Array Value) (hw : ∀ d ∈ tables_1, d.before a0 Z = true) (h0 : Heap) (n0 : Nat) (M : List (Addr × Desc)) (q : Addr) (P0 : Hp Z n0 h0 ((q, own_qo .null 0) :: M)) :
    Con false l Z (⟨"com/example/umbrella_state/umbrellastate/runtime/DelayedDeliveries", "<init>", "()V"⟩ : MethodName) prog_52_method_1_code 1 none ({ frames := 1, cells := 1, slots := 8, locals := 12 } : Room) #[(.ref q)] h0 n0 (R0 fun h' => ∃ ha, Hp Z n0 h' ((q, own_qo (.ref ha) 0) :: (ha, own_ar [.null, .null, .null, .null, .null, .null, .null, .null]) :: M)) := by
  refine con_of (ls := [.val (.ref q)]) (plainFor_of_name pn1) rfl ?_
  refine go_aload c3_0 rfl rfl ?_
  refine go_initO (y := (⟨"com/example/umbrella_state/umbrellastate/runtime/DelayedDeliveries", "<init>", "()V"⟩ : MethodName)) (W := 0) c3_1 (t23 hw) (t7 hw) (t8 hw) rfl (by decide) rfl (by decide) ?_
  refine go_aload c3_4 rfl rfl ?_
  refine go_push c3_5 ?_
  refine go_newobjarr (y := (⟨"com/example/umbrella_state/umbrellastate/runtime/DelayedDeliveries", "<init>", "()V"⟩ : MethodName)) P0 "[Lcom/example/umbrella_state/umbrellastate/runtime/Delivery;" [.null, .null, .null, .null, .null, .null, .null, .null] 8 c3_7 (t24 hw) (t25 hw) (by decide) (by decide) (by decide) (by decide) rfl (by decide) (by decide) ?_
  intro h1 a3 P2
  refine go_more (k' := 1) (n' := 8) (by decide) (by decide) ?_
  refine go_put (y := (⟨"com/example/umbrella_state/umbrellastate/runtime/DelayedDeliveries", "<init>", "()V"⟩ : MethodName)) P2 1 0 (.array (.object "com/example/umbrella_state/umbrellastate/runtime/Delivery")) c3_10 rfl rfl (t26 hw) (Or.inl (t27 hw)) (t18 hw) (by decide) rfl rfl ?_
  intro h4 P5
  dsimp only [lupd] at P5
  exact go_ret rfl c3_13 (by decide) (by decide) ⟨rfl, _, P5.front 1⟩
set_option maxRecDepth 65536 in
set_option maxHeartbeats 4000000 in
theorem rm_par (l : Launch) (Z : State) (a0 : Array Value) (hw : ∀ d ∈ tables_1, d.before a0 Z = true) (h0 : Heap) (n0 : Nat) (z : Int32) :
    Con false l Z (⟨"com/example/umbrella_state/umbrellastate/runtime/DelayedDeliveries", "parentOf", "(I)I"⟩ : MethodName) prog_52_method_11_code 1 (some .int) ({ frames := 0, cells := 0, slots := 0, locals := 0 } : Room) #[(.int z)] h0 n0 (Ret (.int (own_par z)) h0) := by
  refine con_of (ls := [.val (.int z)]) (plainFor_of_name pn1) rfl ?_
  refine go_iload c7_0 rfl ?_
  refine go_push c7_1 ?_
  refine go_isub c7_2 ?_
  refine go_push c7_3 ?_
  refine go_iushr c7_4 ?_
  exact go_iret rfl c7_5 (by decide) (by decide) ⟨_, rfl, rfl, rfl⟩
set_option maxRecDepth 65536 in
set_option maxHeartbeats 4000000 in
theorem rm_gb (l : Launch) (Z : State) (a0 : Array Value) (hw : ∀ d ∈ tables_1, d.before a0 Z = true) (h0 : Heap) (n0 : Nat) (L₀ : List (Addr × Desc)) (i j : Nat) (x y : Addr) (d1 o1 d2 o2 : Int64) (hx : L₀[i]? = some (x, own_dl d1 o1)) (hy : L₀[j]? = some (y, own_dl d2 o2)) (P0 : Hp Z n0 h0 L₀) :
    Con false l Z (⟨"com/example/umbrella_state/umbrellastate/runtime/DelayedDeliveries", "goesBefore", "(Lcom/example/umbrella_state/umbrellastate/runtime/Delivery;Lcom/example/umbrella_state/umbrellastate/runtime/Delivery;)Z"⟩ : MethodName) prog_52_method_10_code 2 (some .boolean) ({ frames := 0, cells := 0, slots := 0, locals := 0 } : Room) #[(.ref x), (.ref y)] h0 n0 (Ret (.int (own_bf d1 o1 d2 o2)) h0) := by
  refine con_of (ls := [.val (.ref x), .val (.ref y)]) (plainFor_of_name pn1) rfl ?_
  refine go_aload c8_0 rfl rfl ?_
  refine go_get (y := (⟨"com/example/umbrella_state/umbrellastate/runtime/DelayedDeliveries", "goesBefore", "(Lcom/example/umbrella_state/umbrellastate/runtime/Delivery;Lcom/example/umbrella_state/umbrellastate/runtime/Delivery;)Z"⟩ : MethodName)) P0 (i) 2 c8_1 hx rfl (t52 hw) ?_
  refine go_aload c8_4 rfl rfl ?_
  refine go_get (y := (⟨"com/example/umbrella_state/umbrellastate/runtime/DelayedDeliveries", "goesBefore", "(Lcom/example/umbrella_state/umbrellastate/runtime/Delivery;Lcom/example/umbrella_state/umbrellastate/runtime/Delivery;)Z"⟩ : MethodName)) P0 (j) 2 c8_5 hy rfl (t52 hw) ?_
  refine go_lcmp c8_8 ?_
  refine go_lc_lt c8_9 (fun b9 => ?_) (fun b9 => ?_)
  · refine go_push c8_36 ?_
    refine go_goto c8_37 ?_
    exact go_bret rfl c8_41 (by decide) (by decide) (by decide) ⟨_, rfl, by simp [own_bf, *], rfl⟩
  · refine go_aload c8_12 rfl rfl ?_
    refine go_get (y := (⟨"com/example/umbrella_state/umbrellastate/runtime/DelayedDeliveries", "goesBefore", "(Lcom/example/umbrella_state/umbrellastate/runtime/Delivery;Lcom/example/umbrella_state/umbrellastate/runtime/Delivery;)Z"⟩ : MethodName)) P0 (i) 2 c8_13 hx rfl (t52 hw) ?_
    refine go_aload c8_16 rfl rfl ?_
    refine go_get (y := (⟨"com/example/umbrella_state/umbrellastate/runtime/DelayedDeliveries", "goesBefore", "(Lcom/example/umbrella_state/umbrellastate/runtime/Delivery;Lcom/example/umbrella_state/umbrellastate/runtime/Delivery;)Z"⟩ : MethodName)) P0 (j) 2 c8_17 hy rfl (t52 hw) ?_
    refine go_lcmp c8_20 ?_
    refine go_lc_ne c8_21 (fun b21 => ?_) (fun b21 => ?_)
    · refine go_push c8_40 ?_
      exact go_bret rfl c8_41 (by decide) (by decide) (by decide) ⟨_, rfl, by simp [own_bf, *], rfl⟩
    · refine go_aload c8_24 rfl rfl ?_
      refine go_get (y := (⟨"com/example/umbrella_state/umbrellastate/runtime/DelayedDeliveries", "goesBefore", "(Lcom/example/umbrella_state/umbrellastate/runtime/Delivery;Lcom/example/umbrella_state/umbrellastate/runtime/Delivery;)Z"⟩ : MethodName)) P0 (i) 3 c8_25 hx rfl (t59 hw) ?_
      refine go_aload c8_28 rfl rfl ?_
      refine go_get (y := (⟨"com/example/umbrella_state/umbrellastate/runtime/DelayedDeliveries", "goesBefore", "(Lcom/example/umbrella_state/umbrellastate/runtime/Delivery;Lcom/example/umbrella_state/umbrellastate/runtime/Delivery;)Z"⟩ : MethodName)) P0 (j) 3 c8_29 hy rfl (t59 hw) ?_
      refine go_lcmp c8_32 ?_
      refine go_lc_ge c8_33 (fun b33 => ?_) (fun b33 => ?_)
      · refine go_push c8_40 ?_
        exact go_bret rfl c8_41 (by decide) (by decide) (by decide) ⟨_, rfl, by simp [own_bf, *], rfl⟩
      · refine go_push c8_36 ?_
        refine go_goto c8_37 ?_
        exact go_bret rfl c8_41 (by decide) (by decide) (by decide) ⟨_, rfl, by simp [own_bf, *], rfl⟩
set_option maxRecDepth 65536 in
set_option maxHeartbeats 4000000 in
theorem rm_E (l : Launch) (Z : State) (a0 : Array Value) (hw : ∀ d ∈ tables_1, d.before a0 Z = true) (h0 : Heap) (n0 : Nat) (M : List (Addr × Desc)) (q : Addr) (hv : Value) (sz : Int32) (P0 : Hp Z n0 h0 ((q, own_qo hv sz) :: M)) :
    Con false l Z (⟨"com/example/umbrella_state/umbrellastate/runtime/DelayedDeliveries", "isEmpty", "()Z"⟩ : MethodName) prog_52_method_2_code 1 (some .boolean) ({ frames := 0, cells := 0, slots := 0, locals := 0 } : Room) #[(.ref q)] h0 n0 (Ret (.int (own_isz sz)) h0) := by
  refine con_of (ls := [.val (.ref q)]) (plainFor_of_name pn1) rfl ?_
  refine go_aload c5_0 rfl rfl ?_
  refine go_get (y := (⟨"com/example/umbrella_state/umbrellastate/runtime/DelayedDeliveries", "isEmpty", "()Z"⟩ : MethodName)) P0 (0) 1 c5_1 rfl rfl (t33 hw) ?_
  refine go_if_ne c5_4 (fun b4 => ?_) (fun b4 => ?_)
  · refine go_push c5_11 ?_
    exact go_bret rfl c5_12 (by decide) (by decide) (by decide) ⟨_, rfl, by simp [own_isz, *], rfl⟩
  · refine go_push c5_7 ?_
    refine go_goto c5_8 ?_
    exact go_bret rfl c5_12 (by decide) (by decide) (by decide) ⟨_, rfl, by simp [own_isz, *], rfl⟩
set_option maxRecDepth 65536 in
set_option maxHeartbeats 4000000 in
theorem rm_A0 (l : Launch) (Z : State) (a0 : Array Value) (hw : ∀ d ∈ tables_1, d.before a0 Z = true) (h0 : Heap) (n0 : Nat) (M : List (Addr × Desc)) (q ha d : Addr) (i : Nat) (d1 o1 : Int64) (hd : M[i]? = some (d, own_dl d1 o1)) (P0 : Hp Z n0 h0 ((q, own_qo (.ref ha) 0) :: (ha, own_ar [.null, .null, .null, .null, .null, .null, .null, .null]) :: M)) :
    Con false l Z (⟨"com/example/umbrella_state/umbrellastate/runtime/DelayedDeliveries", "add", "(Lcom/example/umbrella_state/umbrellastate/runtime/Delivery;)V"⟩ : MethodName) prog_52_method_4_code 5 none ({ frames := 1, cells := 0, slots := 0, locals := 20 } : Room) #[(.ref q), (.ref d)] h0 n0 (R0 fun h' => Hp Z n0 h' ((q, own_qo (.ref ha) 1) :: (ha, own_ar [(.ref d), .null, .null, .null, .null, .null, .null, .null]) :: M)) := by
  refine con_of (ls := [.val (.ref q), .val (.ref d), .unset, .unset, .unset]) (plainFor_of_name pn1) rfl ?_
  refine go_aload c6_0 rfl rfl ?_
  refine go_get (y := (⟨"com/example/umbrella_state/umbrellastate/runtime/DelayedDeliveries", "add", "(Lcom/example/umbrella_state/umbrellastate/runtime/Delivery;)V"⟩ : MethodName)) P0 (0) 1 c6_1 rfl rfl (t33 hw) ?_
  refine go_aload c6_4 rfl rfl ?_
  refine go_get (y := (⟨"com/example/umbrella_state/umbrellastate/runtime/DelayedDeliveries", "add", "(Lcom/example/umbrella_state/umbrellastate/runtime/Delivery;)V"⟩ : MethodName)) P0 (0) 0 c6_5 rfl rfl (t26 hw) ?_
  refine go_alen (z := 8) P0 (1) c6_8 rfl rfl ?_
  refine go_icmp_ne c6_9 (fun _ => ?_) (fun q => absurd q (by decide))
  refine go_aload c6_32 rfl rfl ?_
  refine go_get (y := (⟨"com/example/umbrella_state/umbrellastate/runtime/DelayedDeliveries", "add", "(Lcom/example/umbrella_state/umbrellastate/runtime/Delivery;)V"⟩ : MethodName)) P0 (0) 1 c6_33 rfl rfl (t33 hw) ?_
  refine go_istore c6_36 rfl rfl ?_
  dsimp only [setl]
  refine go_iload c6_37 rfl ?_
  refine go_if_le c6_38 (fun _ => ?_) (fun q => absurd q (by decide))
  refine go_aload c6_65 rfl rfl ?_
  refine go_get (y := (⟨"com/example/umbrella_state/umbrellastate/runtime/DelayedDeliveries", "add", "(Lcom/example/umbrella_state/umbrellastate/runtime/Delivery;)V"⟩ : MethodName)) P0 (0) 1 c6_66 rfl rfl (t33 hw) ?_
  refine go_istore c6_69 rfl rfl ?_
  dsimp only [setl]
  refine go_iload c6_70 rfl ?_
  refine go_iload c6_71 rfl ?_
  refine go_icmp_le c6_72 (fun _ => ?_) (fun q => absurd q (by decide))
  refine go_aload c6_101 rfl rfl ?_
  refine go_get (y := (⟨"com/example/umbrella_state/umbrellastate/runtime/DelayedDeliveries", "add", "(Lcom/example/umbrella_state/umbrellastate/runtime/Delivery;)V"⟩ : MethodName)) P0 (0) 0 c6_102 rfl rfl (t26 hw) ?_
  refine go_iload c6_105 rfl ?_
  refine go_aload c6_106 rfl rfl ?_
  refine go_aastoreH P0 1 c6_107 rfl rfl rfl (by decide) (Nat.le_of_ble_eq_true rfl) (P0.sto (i := 1) (j := i + 2) rfl hd) ?_
  intro h1 P2
  dsimp only [lupd] at P2
  refine go_aload c6_108 rfl rfl ?_
  refine go_dup c6_109 rfl ?_
  refine go_get (y := (⟨"com/example/umbrella_state/umbrellastate/runtime/DelayedDeliveries", "add", "(Lcom/example/umbrella_state/umbrellastate/runtime/Delivery;)V"⟩ : MethodName)) P2 (0) 1 c6_110 rfl rfl (t33 hw) ?_
  refine go_push c6_113 ?_
  refine go_iadd c6_114 ?_
  refine go_isI 1 (by decide) ?_
  refine go_put (y := (⟨"com/example/umbrella_state/umbrellastate/runtime/DelayedDeliveries", "add", "(Lcom/example/umbrella_state/umbrellastate/runtime/Delivery;)V"⟩ : MethodName)) P2 0 1 .int c6_115 rfl rfl (t33 hw) (Or.inl (t34 hw)) (t18 hw) (by decide) rfl rfl ?_
  intro h3 P4
  dsimp only [lupd] at P4
  exact go_ret rfl c6_118 (by decide) (by decide) ⟨rfl, P4⟩
set_option maxRecDepth 65536 in
set_option maxHeartbeats 4000000 in
theorem rm_A1 (l : Launch) (Z : State) (a0 : Array Value) (hw : ∀ d ∈ tables_1, d.before a0 Z = true) (h0 : Heap) (n0 : Nat) (M : List (Addr × Desc)) (q ha d : Addr) (i : Nat) (d1 o1 : Int64) (hd : M[i]? = some (d, own_dl d1 o1)) (j : Nat) (x : Addr) (d2 o2 : Int64) (hx : M[j]? = some (x, own_dl d2 o2)) (P0 : Hp Z n0 h0 ((q, own_qo (.ref ha) 1) :: (ha, own_ar [(.ref x), .null, .null, .null, .null, .null, .null, .null]) :: M)) :
    Con false l Z (⟨"com/example/umbrella_state/umbrellastate/runtime/DelayedDeliveries", "add", "(Lcom/example/umbrella_state/umbrellastate/runtime/Delivery;)V"⟩ : MethodName) prog_52_method_4_code 5 none ({ frames := 1, cells := 0, slots := 0, locals := 20 } : Room) #[(.ref q), (.ref d)] h0 n0 (R0 fun h' => (¬ own_bf d1 o1 d2 o2 = 0 ∧ Hp Z n0 h' ((q, own_qo (.ref ha) 2) :: (ha, own_ar [(.ref d), (.ref x), .null, .null, .null, .null, .null, .null]) :: M)) ∨ (own_bf d1 o1 d2 o2 = 0 ∧ Hp Z n0 h' ((q, own_qo (.ref ha) 2) :: (ha, own_ar [(.ref x), (.ref d), .null, .null, .null, .null, .null, .null]) :: M))) := by
  refine con_of (ls := [.val (.ref q), .val (.ref d), .unset, .unset, .unset]) (plainFor_of_name pn1) rfl ?_
  refine go_aload c6_0 rfl rfl ?_
  refine go_get (y := (⟨"com/example/umbrella_state/umbrellastate/runtime/DelayedDeliveries", "add", "(Lcom/example/umbrella_state/umbrellastate/runtime/Delivery;)V"⟩ : MethodName)) P0 (0) 1 c6_1 rfl rfl (t33 hw) ?_
  refine go_aload c6_4 rfl rfl ?_
  refine go_get (y := (⟨"com/example/umbrella_state/umbrellastate/runtime/DelayedDeliveries", "add", "(Lcom/example/umbrella_state/umbrellastate/runtime/Delivery;)V"⟩ : MethodName)) P0 (0) 0 c6_5 rfl rfl (t26 hw) ?_
  refine go_alen (z := 8) P0 (1) c6_8 rfl rfl ?_
  refine go_icmp_ne c6_9 (fun _ => ?_) (fun q => absurd q (by decide))
  refine go_aload c6_32 rfl rfl ?_
  refine go_get (y := (⟨"com/example/umbrella_state/umbrellastate/runtime/DelayedDeliveries", "add", "(Lcom/example/umbrella_state/umbrellastate/runtime/Delivery;)V"⟩ : MethodName)) P0 (0) 1 c6_33 rfl rfl (t33 hw) ?_
  refine go_istore c6_36 rfl rfl ?_
  dsimp only [setl]
  refine go_iload c6_37 rfl ?_
  refine go_if_le c6_38 (fun q => absurd q (by decide)) (fun _ => ?_)
  refine go_aload c6_41 rfl rfl ?_
  refine go_aload c6_42 rfl rfl ?_
  refine go_get (y := (⟨"com/example/umbrella_state/umbrellastate/runtime/DelayedDeliveries", "add", "(Lcom/example/umbrella_state/umbrellastate/runtime/Delivery;)V"⟩ : MethodName)) P0 (0) 0 c6_43 rfl rfl (t26 hw) ?_
  refine go_iload c6_46 rfl ?_
  refine go_callS1 (y := (⟨"com/example/umbrella_state/umbrellastate/runtime/DelayedDeliveries", "add", "(Lcom/example/umbrella_state/umbrellastate/runtime/Delivery;)V"⟩ : MethodName)) (W := 2) (argsL := [(.int 1)]) (st := [(.ref ha), (.ref d)]) c6_47 (rm_par l Z a0 hw h0 n0 1) (t46 hw) (t47 hw) (t19 hw) (t48 hw) (by decide) (lenOf pd0 rfl) rfl rfl (by decide) (by decide) (by decide) (by decide) rfl ?_
  rintro _ _ ⟨rfl, rfl⟩
  refine go_more (k' := 0) (n' := 0) (by decide) (by decide) ?_
  refine go_isI 0 (by decide) ?_
  refine go_aaloadH P0 (1) c6_50 rfl rfl (by decide) rfl ?_
  refine go_callS1 (y := (⟨"com/example/umbrella_state/umbrellastate/runtime/DelayedDeliveries", "add", "(Lcom/example/umbrella_state/umbrellastate/runtime/Delivery;)V"⟩ : MethodName)) (W := 0) (argsL := [(.ref d), (.ref x)]) (st := []) c6_51 (rm_gb l Z a0 hw h0 n0 _ (i + 2) (j + 2) d x d1 o1 d2 o2 hd hx P0) (t49 hw) (t50 hw) (t19 hw) (t51 hw) (by decide) (lenOf pd1 rfl) rfl rfl (by decide) (by decide) (by decide) (by decide) rfl ?_
  rintro _ _ ⟨rfl, rfl⟩
  refine go_more (k' := 0) (n' := 0) (by decide) (by decide) ?_
  refine go_if_eq c6_54 (fun b54 => ?_) (fun b54 => ?_)
  · refine go_aload c6_65 rfl rfl ?_
    refine go_get (y := (⟨"com/example/umbrella_state/umbrellastate/runtime/DelayedDeliveries", "add", "(Lcom/example/umbrella_state/umbrellastate/runtime/Delivery;)V"⟩ : MethodName)) P0 (0) 1 c6_66 rfl rfl (t33 hw) ?_
    refine go_istore c6_69 rfl rfl ?_
    dsimp only [setl]
    refine go_iload c6_70 rfl ?_
    refine go_iload c6_71 rfl ?_
    refine go_icmp_le c6_72 (fun _ => ?_) (fun q => absurd q (by decide))
    refine go_aload c6_101 rfl rfl ?_
    refine go_get (y := (⟨"com/example/umbrella_state/umbrellastate/runtime/DelayedDeliveries", "add", "(Lcom/example/umbrella_state/umbrellastate/runtime/Delivery;)V"⟩ : MethodName)) P0 (0) 0 c6_102 rfl rfl (t26 hw) ?_
    refine go_iload c6_105 rfl ?_
    refine go_aload c6_106 rfl rfl ?_
    refine go_aastoreH P0 1 c6_107 rfl rfl rfl (by decide) (Nat.le_of_ble_eq_true rfl) (P0.sto (i := 1) (j := i + 2) rfl hd) ?_
    intro h1 P2
    dsimp only [lupd] at P2
    refine go_aload c6_108 rfl rfl ?_
    refine go_dup c6_109 rfl ?_
    refine go_get (y := (⟨"com/example/umbrella_state/umbrellastate/runtime/DelayedDeliveries", "add", "(Lcom/example/umbrella_state/umbrellastate/runtime/Delivery;)V"⟩ : MethodName)) P2 (0) 1 c6_110 rfl rfl (t33 hw) ?_
    refine go_push c6_113 ?_
    refine go_iadd c6_114 ?_
    refine go_isI 2 (by decide) ?_
    refine go_put (y := (⟨"com/example/umbrella_state/umbrellastate/runtime/DelayedDeliveries", "add", "(Lcom/example/umbrella_state/umbrellastate/runtime/Delivery;)V"⟩ : MethodName)) P2 0 1 .int c6_115 rfl rfl (t33 hw) (Or.inl (t34 hw)) (t18 hw) (by decide) rfl rfl ?_
    intro h3 P4
    dsimp only [lupd] at P4
    exact go_ret rfl c6_118 (by decide) (by decide) ⟨rfl, Or.inr ⟨b54, P4⟩⟩
  · refine go_iload c6_57 rfl ?_
    refine go_callS1 (y := (⟨"com/example/umbrella_state/umbrellastate/runtime/DelayedDeliveries", "add", "(Lcom/example/umbrella_state/umbrellastate/runtime/Delivery;)V"⟩ : MethodName)) (W := 0) (argsL := [(.int 1)]) (st := []) c6_58 (rm_par l Z a0 hw h0 n0 1) (t46 hw) (t47 hw) (t19 hw) (t48 hw) (by decide) (lenOf pd0 rfl) rfl rfl (by decide) (by decide) (by decide) (by decide) rfl ?_
    rintro _ _ ⟨rfl, rfl⟩
    refine go_more (k' := 0) (n' := 0) (by decide) (by decide) ?_
    refine go_isI 0 (by decide) ?_
    refine go_istore c6_61 rfl rfl ?_
    dsimp only [setl]
    refine go_goto c6_62 ?_
    refine go_iload c6_37 rfl ?_
    refine go_if_le c6_38 (fun _ => ?_) (fun q => absurd q (by decide))
    refine go_aload c6_65 rfl rfl ?_
    refine go_get (y := (⟨"com/example/umbrella_state/umbrellastate/runtime/DelayedDeliveries", "add", "(Lcom/example/umbrella_state/umbrellastate/runtime/Delivery;)V"⟩ : MethodName)) P0 (0) 1 c6_66 rfl rfl (t33 hw) ?_
    refine go_istore c6_69 rfl rfl ?_
    dsimp only [setl]
    refine go_iload c6_70 rfl ?_
    refine go_iload c6_71 rfl ?_
    refine go_icmp_le c6_72 (fun q => absurd q (by decide)) (fun _ => ?_)
    refine go_iload c6_75 rfl ?_
    refine go_push c6_76 ?_
    refine go_isub c6_77 ?_
    refine go_isI 0 (by decide) ?_
    refine go_push c6_78 ?_
    refine go_iushr c6_79 ?_
    refine go_isI 0 (by decide) ?_
    refine go_istore c6_80 rfl rfl ?_
    dsimp only [setl]
    refine go_aload c6_82 rfl rfl ?_
    refine go_get (y := (⟨"com/example/umbrella_state/umbrellastate/runtime/DelayedDeliveries", "add", "(Lcom/example/umbrella_state/umbrellastate/runtime/Delivery;)V"⟩ : MethodName)) P0 (0) 0 c6_83 rfl rfl (t26 hw) ?_
    refine go_iload c6_86 rfl ?_
    refine go_aload c6_87 rfl rfl ?_
    refine go_get (y := (⟨"com/example/umbrella_state/umbrellastate/runtime/DelayedDeliveries", "add", "(Lcom/example/umbrella_state/umbrellastate/runtime/Delivery;)V"⟩ : MethodName)) P0 (0) 0 c6_88 rfl rfl (t26 hw) ?_
    refine go_iload c6_91 rfl ?_
    refine go_aaloadH P0 (1) c6_93 rfl rfl (by decide) rfl ?_
    refine go_aastoreH P0 1 c6_94 rfl rfl rfl (by decide) (Nat.le_of_ble_eq_true rfl) (P0.sto (i := 1) (j := j + 2) rfl hx) ?_
    intro h5 P6
    dsimp only [lupd] at P6
    refine go_iload c6_95 rfl ?_
    refine go_istore c6_97 rfl rfl ?_
    dsimp only [setl]
    refine go_goto c6_98 ?_
    refine go_iload c6_70 rfl ?_
    refine go_iload c6_71 rfl ?_
    refine go_icmp_le c6_72 (fun _ => ?_) (fun q => absurd q (by decide))
    refine go_aload c6_101 rfl rfl ?_
    refine go_get (y := (⟨"com/example/umbrella_state/umbrellastate/runtime/DelayedDeliveries", "add", "(Lcom/example/umbrella_state/umbrellastate/runtime/Delivery;)V"⟩ : MethodName)) P6 (0) 0 c6_102 rfl rfl (t26 hw) ?_
    refine go_iload c6_105 rfl ?_
    refine go_aload c6_106 rfl rfl ?_
    refine go_aastoreH P6 1 c6_107 rfl rfl rfl (by decide) (Nat.le_of_ble_eq_true rfl) (P6.sto (i := 1) (j := i + 2) rfl hd) ?_
    intro h7 P8
    dsimp only [lupd] at P8
    refine go_aload c6_108 rfl rfl ?_
    refine go_dup c6_109 rfl ?_
    refine go_get (y := (⟨"com/example/umbrella_state/umbrellastate/runtime/DelayedDeliveries", "add", "(Lcom/example/umbrella_state/umbrellastate/runtime/Delivery;)V"⟩ : MethodName)) P8 (0) 1 c6_110 rfl rfl (t33 hw) ?_
    refine go_push c6_113 ?_
    refine go_iadd c6_114 ?_
    refine go_isI 2 (by decide) ?_
    refine go_put (y := (⟨"com/example/umbrella_state/umbrellastate/runtime/DelayedDeliveries", "add", "(Lcom/example/umbrella_state/umbrellastate/runtime/Delivery;)V"⟩ : MethodName)) P8 0 1 .int c6_115 rfl rfl (t33 hw) (Or.inl (t34 hw)) (t18 hw) (by decide) rfl rfl ?_
    intro h9 P10
    dsimp only [lupd] at P10
    exact go_ret rfl c6_118 (by decide) (by decide) ⟨rfl, Or.inl ⟨b54, P10⟩⟩
set_option maxRecDepth 65536 in
set_option maxHeartbeats 4000000 in
theorem rm_A2 (l : Launch) (Z : State) (a0 : Array Value) (hw : ∀ d ∈ tables_1, d.before a0 Z = true) (h0 : Heap) (n0 : Nat) (M : List (Addr × Desc)) (q ha d : Addr) (i : Nat) (d1 o1 : Int64) (hd : M[i]? = some (d, own_dl d1 o1)) (j : Nat) (x : Addr) (d2 o2 : Int64) (hx : M[j]? = some (x, own_dl d2 o2)) (y : Addr) (P0 : Hp Z n0 h0 ((q, own_qo (.ref ha) 2) :: (ha, own_ar [(.ref x), (.ref y), .null, .null, .null, .null, .null, .null]) :: M)) :
    Con false l Z (⟨"com/example/umbrella_state/umbrellastate/runtime/DelayedDeliveries", "add", "(Lcom/example/umbrella_state/umbrellastate/runtime/Delivery;)V"⟩ : MethodName) prog_52_method_4_code 5 none ({ frames := 1, cells := 0, slots := 0, locals := 20 } : Room) #[(.ref q), (.ref d)] h0 n0 (R0 fun h' => (¬ own_bf d1 o1 d2 o2 = 0 ∧ Hp Z n0 h' ((q, own_qo (.ref ha) 3) :: (ha, own_ar [(.ref d), (.ref y), (.ref x), .null, .null, .null, .null, .null]) :: M)) ∨ (own_bf d1 o1 d2 o2 = 0 ∧ Hp Z n0 h' ((q, own_qo (.ref ha) 3) :: (ha, own_ar [(.ref x), (.ref y), (.ref d), .null, .null, .null, .null, .null]) :: M))) := by
  refine con_of (ls := [.val (.ref q), .val (.ref d), .unset, .unset, .unset]) (plainFor_of_name pn1) rfl ?_
  refine go_aload c6_0 rfl rfl ?_
  refine go_get (y := (⟨"com/example/umbrella_state/umbrellastate/runtime/DelayedDeliveries", "add", "(Lcom/example/umbrella_state/umbrellastate/runtime/Delivery;)V"⟩ : MethodName)) P0 (0) 1 c6_1 rfl rfl (t33 hw) ?_
  refine go_aload c6_4 rfl rfl ?_
  refine go_get (y := (⟨"com/example/umbrella_state/umbrellastate/runtime/DelayedDeliveries", "add", "(Lcom/example/umbrella_state/umbrellastate/runtime/Delivery;)V"⟩ : MethodName)) P0 (0) 0 c6_5 rfl rfl (t26 hw) ?_
  refine go_alen (z := 8) P0 (1) c6_8 rfl rfl ?_
  refine go_icmp_ne c6_9 (fun _ => ?_) (fun q => absurd q (by decide))
  refine go_aload c6_32 rfl rfl ?_
  refine go_get (y := (⟨"com/example/umbrella_state/umbrellastate/runtime/DelayedDeliveries", "add", "(Lcom/example/umbrella_state/umbrellastate/runtime/Delivery;)V"⟩ : MethodName)) P0 (0) 1 c6_33 rfl rfl (t33 hw) ?_
  refine go_istore c6_36 rfl rfl ?_
  dsimp only [setl]
  refine go_iload c6_37 rfl ?_
  refine go_if_le c6_38 (fun q => absurd q (by decide)) (fun _ => ?_)
  refine go_aload c6_41 rfl rfl ?_
  refine go_aload c6_42 rfl rfl ?_
  refine go_get (y := (⟨"com/example/umbrella_state/umbrellastate/runtime/DelayedDeliveries", "add", "(Lcom/example/umbrella_state/umbrellastate/runtime/Delivery;)V"⟩ : MethodName)) P0 (0) 0 c6_43 rfl rfl (t26 hw) ?_
  refine go_iload c6_46 rfl ?_
  refine go_callS1 (y := (⟨"com/example/umbrella_state/umbrellastate/runtime/DelayedDeliveries", "add", "(Lcom/example/umbrella_state/umbrellastate/runtime/Delivery;)V"⟩ : MethodName)) (W := 2) (argsL := [(.int 2)]) (st := [(.ref ha), (.ref d)]) c6_47 (rm_par l Z a0 hw h0 n0 2) (t46 hw) (t47 hw) (t19 hw) (t48 hw) (by decide) (lenOf pd0 rfl) rfl rfl (by decide) (by decide) (by decide) (by decide) rfl ?_
  rintro _ _ ⟨rfl, rfl⟩
  refine go_more (k' := 0) (n' := 0) (by decide) (by decide) ?_
  refine go_isI 0 (by decide) ?_
  refine go_aaloadH P0 (1) c6_50 rfl rfl (by decide) rfl ?_
  refine go_callS1 (y := (⟨"com/example/umbrella_state/umbrellastate/runtime/DelayedDeliveries", "add", "(Lcom/example/umbrella_state/umbrellastate/runtime/Delivery;)V"⟩ : MethodName)) (W := 0) (argsL := [(.ref d), (.ref x)]) (st := []) c6_51 (rm_gb l Z a0 hw h0 n0 _ (i + 2) (j + 2) d x d1 o1 d2 o2 hd hx P0) (t49 hw) (t50 hw) (t19 hw) (t51 hw) (by decide) (lenOf pd1 rfl) rfl rfl (by decide) (by decide) (by decide) (by decide) rfl ?_
  rintro _ _ ⟨rfl, rfl⟩
  refine go_more (k' := 0) (n' := 0) (by decide) (by decide) ?_
  refine go_if_eq c6_54 (fun b54 => ?_) (fun b54 => ?_)
  · refine go_aload c6_65 rfl rfl ?_
    refine go_get (y := (⟨"com/example/umbrella_state/umbrellastate/runtime/DelayedDeliveries", "add", "(Lcom/example/umbrella_state/umbrellastate/runtime/Delivery;)V"⟩ : MethodName)) P0 (0) 1 c6_66 rfl rfl (t33 hw) ?_
    refine go_istore c6_69 rfl rfl ?_
    dsimp only [setl]
    refine go_iload c6_70 rfl ?_
    refine go_iload c6_71 rfl ?_
    refine go_icmp_le c6_72 (fun _ => ?_) (fun q => absurd q (by decide))
    refine go_aload c6_101 rfl rfl ?_
    refine go_get (y := (⟨"com/example/umbrella_state/umbrellastate/runtime/DelayedDeliveries", "add", "(Lcom/example/umbrella_state/umbrellastate/runtime/Delivery;)V"⟩ : MethodName)) P0 (0) 0 c6_102 rfl rfl (t26 hw) ?_
    refine go_iload c6_105 rfl ?_
    refine go_aload c6_106 rfl rfl ?_
    refine go_aastoreH P0 1 c6_107 rfl rfl rfl (by decide) (Nat.le_of_ble_eq_true rfl) (P0.sto (i := 1) (j := i + 2) rfl hd) ?_
    intro h1 P2
    dsimp only [lupd] at P2
    refine go_aload c6_108 rfl rfl ?_
    refine go_dup c6_109 rfl ?_
    refine go_get (y := (⟨"com/example/umbrella_state/umbrellastate/runtime/DelayedDeliveries", "add", "(Lcom/example/umbrella_state/umbrellastate/runtime/Delivery;)V"⟩ : MethodName)) P2 (0) 1 c6_110 rfl rfl (t33 hw) ?_
    refine go_push c6_113 ?_
    refine go_iadd c6_114 ?_
    refine go_isI 3 (by decide) ?_
    refine go_put (y := (⟨"com/example/umbrella_state/umbrellastate/runtime/DelayedDeliveries", "add", "(Lcom/example/umbrella_state/umbrellastate/runtime/Delivery;)V"⟩ : MethodName)) P2 0 1 .int c6_115 rfl rfl (t33 hw) (Or.inl (t34 hw)) (t18 hw) (by decide) rfl rfl ?_
    intro h3 P4
    dsimp only [lupd] at P4
    exact go_ret rfl c6_118 (by decide) (by decide) ⟨rfl, Or.inr ⟨b54, P4⟩⟩
  · refine go_iload c6_57 rfl ?_
    refine go_callS1 (y := (⟨"com/example/umbrella_state/umbrellastate/runtime/DelayedDeliveries", "add", "(Lcom/example/umbrella_state/umbrellastate/runtime/Delivery;)V"⟩ : MethodName)) (W := 0) (argsL := [(.int 2)]) (st := []) c6_58 (rm_par l Z a0 hw h0 n0 2) (t46 hw) (t47 hw) (t19 hw) (t48 hw) (by decide) (lenOf pd0 rfl) rfl rfl (by decide) (by decide) (by decide) (by decide) rfl ?_
    rintro _ _ ⟨rfl, rfl⟩
    refine go_more (k' := 0) (n' := 0) (by decide) (by decide) ?_
    refine go_isI 0 (by decide) ?_
    refine go_istore c6_61 rfl rfl ?_
    dsimp only [setl]
    refine go_goto c6_62 ?_
    refine go_iload c6_37 rfl ?_
    refine go_if_le c6_38 (fun _ => ?_) (fun q => absurd q (by decide))
    refine go_aload c6_65 rfl rfl ?_
    refine go_get (y := (⟨"com/example/umbrella_state/umbrellastate/runtime/DelayedDeliveries", "add", "(Lcom/example/umbrella_state/umbrellastate/runtime/Delivery;)V"⟩ : MethodName)) P0 (0) 1 c6_66 rfl rfl (t33 hw) ?_
    refine go_istore c6_69 rfl rfl ?_
    dsimp only [setl]
    refine go_iload c6_70 rfl ?_
    refine go_iload c6_71 rfl ?_
    refine go_icmp_le c6_72 (fun q => absurd q (by decide)) (fun _ => ?_)
    refine go_iload c6_75 rfl ?_
    refine go_push c6_76 ?_
    refine go_isub c6_77 ?_
    refine go_isI 1 (by decide) ?_
    refine go_push c6_78 ?_
    refine go_iushr c6_79 ?_
    refine go_isI 0 (by decide) ?_
    refine go_istore c6_80 rfl rfl ?_
    dsimp only [setl]
    refine go_aload c6_82 rfl rfl ?_
    refine go_get (y := (⟨"com/example/umbrella_state/umbrellastate/runtime/DelayedDeliveries", "add", "(Lcom/example/umbrella_state/umbrellastate/runtime/Delivery;)V"⟩ : MethodName)) P0 (0) 0 c6_83 rfl rfl (t26 hw) ?_
    refine go_iload c6_86 rfl ?_
    refine go_aload c6_87 rfl rfl ?_
    refine go_get (y := (⟨"com/example/umbrella_state/umbrellastate/runtime/DelayedDeliveries", "add", "(Lcom/example/umbrella_state/umbrellastate/runtime/Delivery;)V"⟩ : MethodName)) P0 (0) 0 c6_88 rfl rfl (t26 hw) ?_
    refine go_iload c6_91 rfl ?_
    refine go_aaloadH P0 (1) c6_93 rfl rfl (by decide) rfl ?_
    refine go_aastoreH P0 1 c6_94 rfl rfl rfl (by decide) (Nat.le_of_ble_eq_true rfl) (P0.sto (i := 1) (j := j + 2) rfl hx) ?_
    intro h5 P6
    dsimp only [lupd] at P6
    refine go_iload c6_95 rfl ?_
    refine go_istore c6_97 rfl rfl ?_
    dsimp only [setl]
    refine go_goto c6_98 ?_
    refine go_iload c6_70 rfl ?_
    refine go_iload c6_71 rfl ?_
    refine go_icmp_le c6_72 (fun _ => ?_) (fun q => absurd q (by decide))
    refine go_aload c6_101 rfl rfl ?_
    refine go_get (y := (⟨"com/example/umbrella_state/umbrellastate/runtime/DelayedDeliveries", "add", "(Lcom/example/umbrella_state/umbrellastate/runtime/Delivery;)V"⟩ : MethodName)) P6 (0) 0 c6_102 rfl rfl (t26 hw) ?_
    refine go_iload c6_105 rfl ?_
    refine go_aload c6_106 rfl rfl ?_
    refine go_aastoreH P6 1 c6_107 rfl rfl rfl (by decide) (Nat.le_of_ble_eq_true rfl) (P6.sto (i := 1) (j := i + 2) rfl hd) ?_
    intro h7 P8
    dsimp only [lupd] at P8
    refine go_aload c6_108 rfl rfl ?_
    refine go_dup c6_109 rfl ?_
    refine go_get (y := (⟨"com/example/umbrella_state/umbrellastate/runtime/DelayedDeliveries", "add", "(Lcom/example/umbrella_state/umbrellastate/runtime/Delivery;)V"⟩ : MethodName)) P8 (0) 1 c6_110 rfl rfl (t33 hw) ?_
    refine go_push c6_113 ?_
    refine go_iadd c6_114 ?_
    refine go_isI 3 (by decide) ?_
    refine go_put (y := (⟨"com/example/umbrella_state/umbrellastate/runtime/DelayedDeliveries", "add", "(Lcom/example/umbrella_state/umbrellastate/runtime/Delivery;)V"⟩ : MethodName)) P8 0 1 .int c6_115 rfl rfl (t33 hw) (Or.inl (t34 hw)) (t18 hw) (by decide) rfl rfl ?_
    intro h9 P10
    dsimp only [lupd] at P10
    exact go_ret rfl c6_118 (by decide) (by decide) ⟨rfl, Or.inl ⟨b54, P10⟩⟩
theorem own_n4 (x : Int32) : x &&& 3 = 0 ∨ x &&& 3 = 1 ∨ x &&& 3 = 2 ∨ x &&& 3 = 3 := by
  have h : (x &&& 3).toBitVec.toNat ≤ 3 := by rw [Int32.toBitVec_and, BitVec.toNat_and]; exact Nat.and_le_right
  have e : ∀ n, n ≤ 3 → (x &&& 3).toBitVec.toNat = n → x &&& 3 = Int32.ofNat n := fun n hn q => by
    apply Int32.toBitVec_inj.mp
    apply BitVec.eq_of_toNat_eq
    rw [q]
    show n = (Int32.ofNat n).toBitVec.toNat
    rcases (show n = 0 ∨ n = 1 ∨ n = 2 ∨ n = 3 by omega) with rfl | rfl | rfl | rfl <;> rfl
  rcases (show (x &&& 3).toBitVec.toNat = 0 ∨ (x &&& 3).toBitVec.toNat = 1 ∨ (x &&& 3).toBitVec.toNat = 2 ∨ (x &&& 3).toBitVec.toNat = 3 by omega) with q | q | q | q
  · exact Or.inl (e 0 (by omega) q)
  · exact Or.inr (Or.inl (e 1 (by omega) q))
  · exact Or.inr (Or.inr (Or.inl (e 2 (by omega) q)))
  · exact Or.inr (Or.inr (Or.inr (e 3 (by omega) q)))
set_option maxRecDepth 65536 in
set_option maxHeartbeats 4000000 in
theorem rm_lb (l : Launch) (Z : State) (a0 : Array Value) (hw : ∀ d ∈ tables_1, d.before a0 Z = true) (h0 : Heap) (n0 : Nat) (L₀ : List (Addr × Desc)) (i j : Nat) (x y : Addr) (d1 o1 d2 o2 : Int64) (hx : L₀[i]? = some (x, own_dl d1 o1)) (hy : L₀[j]? = some (y, own_dl d2 o2)) (P0 : Hp Z n0 h0 L₀) :
    Con false l Z (⟨"com/example/umbrella_state/umbrellastate/runtime/DelayedDeliveriesPeekPinLaw", "before", "(Lcom/example/umbrella_state/umbrellastate/runtime/Delivery;Lcom/example/umbrella_state/umbrellastate/runtime/Delivery;)Z"⟩ : MethodName) method_3_code 2 (some .boolean) ({ frames := 0, cells := 0, slots := 0, locals := 0 } : Room) #[(.ref x), (.ref y)] h0 n0 (Ret (.int (own_bf d1 o1 d2 o2)) h0) := by
  refine con_of (ls := [.val (.ref x), .val (.ref y)]) (plainFor_of_name pn2) rfl ?_
  refine go_aload c9_0 rfl rfl ?_
  refine go_get (y := (⟨"com/example/umbrella_state/umbrellastate/runtime/DelayedDeliveriesPeekPinLaw", "before", "(Lcom/example/umbrella_state/umbrellastate/runtime/Delivery;Lcom/example/umbrella_state/umbrellastate/runtime/Delivery;)Z"⟩ : MethodName)) P0 (i) 2 c9_1 hx rfl (t57 hw) ?_
  refine go_aload c9_4 rfl rfl ?_
  refine go_get (y := (⟨"com/example/umbrella_state/umbrellastate/runtime/DelayedDeliveriesPeekPinLaw", "before", "(Lcom/example/umbrella_state/umbrellastate/runtime/Delivery;Lcom/example/umbrella_state/umbrellastate/runtime/Delivery;)Z"⟩ : MethodName)) P0 (j) 2 c9_5 hy rfl (t57 hw) ?_
  refine go_lcmp c9_8 ?_
  refine go_lc_lt c9_9 (fun b9 => ?_) (fun b9 => ?_)
  · refine go_push c9_36 ?_
    refine go_goto c9_37 ?_
    exact go_bret rfl c9_41 (by decide) (by decide) (by decide) ⟨_, rfl, by simp [own_bf, *], rfl⟩
  · refine go_aload c9_12 rfl rfl ?_
    refine go_get (y := (⟨"com/example/umbrella_state/umbrellastate/runtime/DelayedDeliveriesPeekPinLaw", "before", "(Lcom/example/umbrella_state/umbrellastate/runtime/Delivery;Lcom/example/umbrella_state/umbrellastate/runtime/Delivery;)Z"⟩ : MethodName)) P0 (i) 2 c9_13 hx rfl (t57 hw) ?_
    refine go_aload c9_16 rfl rfl ?_
    refine go_get (y := (⟨"com/example/umbrella_state/umbrellastate/runtime/DelayedDeliveriesPeekPinLaw", "before", "(Lcom/example/umbrella_state/umbrellastate/runtime/Delivery;Lcom/example/umbrella_state/umbrellastate/runtime/Delivery;)Z"⟩ : MethodName)) P0 (j) 2 c9_17 hy rfl (t57 hw) ?_
    refine go_lcmp c9_20 ?_
    refine go_lc_ne c9_21 (fun b21 => ?_) (fun b21 => ?_)
    · refine go_push c9_40 ?_
      exact go_bret rfl c9_41 (by decide) (by decide) (by decide) ⟨_, rfl, by simp [own_bf, *], rfl⟩
    · refine go_aload c9_24 rfl rfl ?_
      refine go_get (y := (⟨"com/example/umbrella_state/umbrellastate/runtime/DelayedDeliveriesPeekPinLaw", "before", "(Lcom/example/umbrella_state/umbrellastate/runtime/Delivery;Lcom/example/umbrella_state/umbrellastate/runtime/Delivery;)Z"⟩ : MethodName)) P0 (i) 3 c9_25 hx rfl (t58 hw) ?_
      refine go_aload c9_28 rfl rfl ?_
      refine go_get (y := (⟨"com/example/umbrella_state/umbrellastate/runtime/DelayedDeliveriesPeekPinLaw", "before", "(Lcom/example/umbrella_state/umbrellastate/runtime/Delivery;Lcom/example/umbrella_state/umbrellastate/runtime/Delivery;)Z"⟩ : MethodName)) P0 (j) 3 c9_29 hy rfl (t58 hw) ?_
      refine go_lcmp c9_32 ?_
      refine go_lc_ge c9_33 (fun b33 => ?_) (fun b33 => ?_)
      · refine go_push c9_40 ?_
        exact go_bret rfl c9_41 (by decide) (by decide) (by decide) ⟨_, rfl, by simp [own_bf, *], rfl⟩
      · refine go_push c9_36 ?_
        refine go_goto c9_37 ?_
        exact go_bret rfl c9_41 (by decide) (by decide) (by decide) ⟨_, rfl, by simp [own_bf, *], rfl⟩
set_option maxRecDepth 65536 in
set_option maxHeartbeats 4000000 in
theorem rm_K0 (l : Launch) (Z : State) (a0 : Array Value) (hw : ∀ d ∈ tables_1, d.before a0 Z = true) (h0 : Heap) (n0 : Nat) (M : List (Addr × Desc)) (q : Addr) (hv : Value) (P0 : Hp Z n0 h0 ((q, own_qo hv 0) :: M)) :
    Con false l Z (⟨"com/example/umbrella_state/umbrellastate/runtime/DelayedDeliveries", "peek", "()Lcom/example/umbrella_state/umbrellastate/runtime/Delivery;"⟩ : MethodName) prog_52_method_3_code 1 (some (.object "com/example/umbrella_state/umbrellastate/runtime/Delivery")) ({ frames := 0, cells := 0, slots := 0, locals := 0 } : Room) #[(.ref q)] h0 n0 (Ret .null h0) := by
  refine con_of (ls := [.val (.ref q)]) (plainFor_of_name pn1) rfl ?_
  refine go_aload c4_0 rfl rfl ?_
  refine go_get (y := (⟨"com/example/umbrella_state/umbrellastate/runtime/DelayedDeliveries", "peek", "()Lcom/example/umbrella_state/umbrellastate/runtime/Delivery;"⟩ : MethodName)) P0 (0) 1 c4_1 rfl rfl (t33 hw) ?_
  refine go_if_ne c4_4 (fun q => absurd q (by decide)) (fun _ => ?_)
  refine go_null c4_7 ?_
  refine go_goto c4_8 ?_
  exact go_aret rfl rfl rfl c4_17 (by decide) (by decide) ⟨_, rfl, rfl, rfl⟩
set_option maxRecDepth 65536 in
set_option maxHeartbeats 4000000 in
theorem rm_K1 (l : Launch) (Z : State) (a0 : Array Value) (hw : ∀ d ∈ tables_1, d.before a0 Z = true) (h0 : Heap) (n0 : Nat) (M : List (Addr × Desc)) (q ha v : Addr) (vr : List Value) (sz : Int32) (hsz : ¬ sz = 0) (P0 : Hp Z n0 h0 ((q, own_qo (.ref ha) sz) :: (ha, own_ar (.ref v :: vr)) :: M)) :
    Con false l Z (⟨"com/example/umbrella_state/umbrellastate/runtime/DelayedDeliveries", "peek", "()Lcom/example/umbrella_state/umbrellastate/runtime/Delivery;"⟩ : MethodName) prog_52_method_3_code 1 (some (.object "com/example/umbrella_state/umbrellastate/runtime/Delivery")) ({ frames := 0, cells := 0, slots := 0, locals := 0 } : Room) #[(.ref q)] h0 n0 (Ret (.ref v) h0) := by
  refine con_of (ls := [.val (.ref q)]) (plainFor_of_name pn1) rfl ?_
  refine go_aload c4_0 rfl rfl ?_
  refine go_get (y := (⟨"com/example/umbrella_state/umbrellastate/runtime/DelayedDeliveries", "peek", "()Lcom/example/umbrella_state/umbrellastate/runtime/Delivery;"⟩ : MethodName)) P0 (0) 1 c4_1 rfl rfl (t33 hw) ?_
  refine go_if_ne c4_4 (fun b4 => ?_) (fun b4 => ?_)
  · refine go_aload c4_11 rfl rfl ?_
    refine go_get (y := (⟨"com/example/umbrella_state/umbrellastate/runtime/DelayedDeliveries", "peek", "()Lcom/example/umbrella_state/umbrellastate/runtime/Delivery;"⟩ : MethodName)) P0 (0) 0 c4_12 rfl rfl (t26 hw) ?_
    refine go_push c4_15 ?_
    refine go_aaloadH P0 1 c4_16 rfl rfl (by decide) rfl ?_
    exact go_aret rfl rfl rfl c4_17 (by decide) (by decide) ⟨_, rfl, rfl, rfl⟩
  · exact absurd b4 hsz
set_option maxRecDepth 65536 in
set_option maxHeartbeats 4000000 in
theorem rm0 (l : Launch) (Z : State) (a0 : Array Value) (hw : ∀ d ∈ tables_1, d.before a0 Z = true) (h0 : Heap) (n0 : Nat) (P0 : Hp Z n0 h0 []) (k : Int32) (d1 d2 d3 o1 o2 : Int64) :
    Con false l Z x code maxLocals ret room_1 #[(.int k), (.long d1), (.long d2), (.long d3), (.long o1), (.long o2)] h0 n0 (R1 fun w _ => w = .int 1) := by
  refine con_of (ls := [.val (.int k), .val (.long d1), .second, .val (.long d2), .second, .val (.long d3), .second, .val (.long o1), .second, .val (.long o2), .second, .unset, .unset, .unset, .unset, .unset, .unset, .unset, .unset, .unset, .unset]) (plainFor_of_name pn2) rfl ?_
  refine go_iload c0_0 rfl ?_
  refine go_push c0_1 ?_
  refine go_iand c0_2 ?_
  rcases own_n4 k with hn | hn | hn | hn
  · refine go_isI 0 hn ?_
    refine go_istore c0_3 rfl rfl ?_
    dsimp only [setl]
    refine go_iload c0_5 rfl ?_
    refine go_push c0_6 ?_
    refine go_ishr c0_7 ?_
    refine go_i2l c0_8 ?_
    refine go_nameJ fun o3 e_o3 => ?_
    refine go_lstore c0_9 rfl rfl rfl ?_
    dsimp only [setl]
    refine go_new (y := x) P0 [(("com/example/umbrella_state/umbrellastate/runtime/Delivery", "handler", "Ljava/util/function/Consumer;"), .null), (("com/example/umbrella_state/umbrellastate/runtime/Delivery", "message", "Lcom/example/umbrella_state/umbrellastate/model/Message;"), .null), (("com/example/umbrella_state/umbrellastate/runtime/Delivery", "due", "J"), (.long 0)), (("com/example/umbrella_state/umbrellastate/runtime/Delivery", "order", "J"), (.long 0))] c0_11 (t0 hw) (t1 hw) (t2 hw) (⟨⟨Or.inl (t10 hw), (.object "java/util/function/Consumer"), by decide, rfl⟩, ⟨⟨Or.inl (t12 hw), (.object "com/example/umbrella_state/umbrellastate/model/Message"), by decide, rfl⟩, ⟨⟨Or.inr (t14 hw), .long, by decide, rfl⟩, ⟨⟨Or.inr (t16 hw), .long, by decide, rfl⟩, trivial⟩⟩⟩⟩) (by decide) (by decide) (by decide) ?_
    intro h1 a3 P2
    refine go_more (k' := 1) (n' := 5) (by decide) (by decide) ?_
    refine go_dup c0_14 rfl ?_
    refine go_null c0_15 ?_
    refine go_null c0_16 ?_
    refine go_lload c0_17 rfl ?_
    refine go_lload c0_18 rfl ?_
    refine go_callN0 (y := x) (W := 1) (argsL := [.null, .null, (.long d1), (.long o1)]) (st := [(.ref a3)]) c0_20 rfl rfl (rm_D l Z a0 hw h1 n0 _ a3 d1 o1 P2) (t3 hw) (t4 hw) (t2 hw) (t5 hw) (by decide) (lenOf pd2 rfl) rfl rfl (by decide) (by decide) (by decide) (by decide) rfl ?_
    intro h5 P4
    refine go_more (k' := 1) (n' := 5) (by decide) (by decide) ?_
    refine go_astore c0_23 rfl rfl rfl ?_
    dsimp only [setl]
    refine go_new (y := x) P4 [(("com/example/umbrella_state/umbrellastate/runtime/Delivery", "handler", "Ljava/util/function/Consumer;"), .null), (("com/example/umbrella_state/umbrellastate/runtime/Delivery", "message", "Lcom/example/umbrella_state/umbrellastate/model/Message;"), .null), (("com/example/umbrella_state/umbrellastate/runtime/Delivery", "due", "J"), (.long 0)), (("com/example/umbrella_state/umbrellastate/runtime/Delivery", "order", "J"), (.long 0))] c0_25 (t0 hw) (t1 hw) (t2 hw) (⟨⟨Or.inl (t10 hw), (.object "java/util/function/Consumer"), by decide, rfl⟩, ⟨⟨Or.inl (t12 hw), (.object "com/example/umbrella_state/umbrellastate/model/Message"), by decide, rfl⟩, ⟨⟨Or.inr (t14 hw), .long, by decide, rfl⟩, ⟨⟨Or.inr (t16 hw), .long, by decide, rfl⟩, trivial⟩⟩⟩⟩) (by decide) (by decide) (by decide) ?_
    intro h6 a8 P7
    refine go_more (k' := 2) (n' := 10) (by decide) (by decide) ?_
    refine go_dup c0_28 rfl ?_
    refine go_null c0_29 ?_
    refine go_null c0_30 ?_
    refine go_lload c0_31 rfl ?_
    refine go_lload c0_32 rfl ?_
    refine go_callN0 (y := x) (W := 1) (argsL := [.null, .null, (.long d2), (.long o2)]) (st := [(.ref a8)]) c0_34 rfl rfl (rm_D l Z a0 hw h6 n0 _ a8 d2 o2 P7) (t3 hw) (t4 hw) (t2 hw) (t5 hw) (by decide) (lenOf pd2 rfl) rfl rfl (by decide) (by decide) (by decide) (by decide) rfl ?_
    intro h10 P9
    refine go_more (k' := 2) (n' := 10) (by decide) (by decide) ?_
    refine go_astore c0_37 rfl rfl rfl ?_
    dsimp only [setl]
    refine go_new (y := x) P9 [(("com/example/umbrella_state/umbrellastate/runtime/Delivery", "handler", "Ljava/util/function/Consumer;"), .null), (("com/example/umbrella_state/umbrellastate/runtime/Delivery", "message", "Lcom/example/umbrella_state/umbrellastate/model/Message;"), .null), (("com/example/umbrella_state/umbrellastate/runtime/Delivery", "due", "J"), (.long 0)), (("com/example/umbrella_state/umbrellastate/runtime/Delivery", "order", "J"), (.long 0))] c0_39 (t0 hw) (t1 hw) (t2 hw) (⟨⟨Or.inl (t10 hw), (.object "java/util/function/Consumer"), by decide, rfl⟩, ⟨⟨Or.inl (t12 hw), (.object "com/example/umbrella_state/umbrellastate/model/Message"), by decide, rfl⟩, ⟨⟨Or.inr (t14 hw), .long, by decide, rfl⟩, ⟨⟨Or.inr (t16 hw), .long, by decide, rfl⟩, trivial⟩⟩⟩⟩) (by decide) (by decide) (by decide) ?_
    intro h11 a13 P12
    refine go_more (k' := 3) (n' := 15) (by decide) (by decide) ?_
    refine go_dup c0_42 rfl ?_
    refine go_null c0_43 ?_
    refine go_null c0_44 ?_
    refine go_lload c0_45 rfl ?_
    refine go_lload c0_47 rfl ?_
    refine go_callN0 (y := x) (W := 1) (argsL := [.null, .null, (.long d3), (.long o3)]) (st := [(.ref a13)]) c0_49 rfl rfl (rm_D l Z a0 hw h11 n0 _ a13 d3 o3 P12) (t3 hw) (t4 hw) (t2 hw) (t5 hw) (by decide) (lenOf pd2 rfl) rfl rfl (by decide) (by decide) (by decide) (by decide) rfl ?_
    intro h15 P14
    refine go_more (k' := 3) (n' := 15) (by decide) (by decide) ?_
    refine go_astore c0_52 rfl rfl rfl ?_
    dsimp only [setl]
    refine go_new (y := x) P14 [(("com/example/umbrella_state/umbrellastate/runtime/DelayedDeliveries", "heap", "[Lcom/example/umbrella_state/umbrellastate/runtime/Delivery;"), .null), (("com/example/umbrella_state/umbrellastate/runtime/DelayedDeliveries", "size", "I"), (.int 0))] c0_54 (t17 hw) (t18 hw) (t19 hw) (⟨⟨Or.inl (t27 hw), (.array (.object "com/example/umbrella_state/umbrellastate/runtime/Delivery")), by decide, rfl⟩, ⟨⟨Or.inl (t34 hw), .int, by decide, rfl⟩, trivial⟩⟩) (by decide) (by decide) (by decide) ?_
    intro h16 a18 P17
    refine go_more (k' := 4) (n' := 17) (by decide) (by decide) ?_
    refine go_dup c0_57 rfl ?_
    refine go_callN0 (y := x) (W := 1) (argsL := []) (st := [(.ref a18)]) c0_58 rfl rfl (rm_Q l Z a0 hw h16 n0 _ a18 P17) (t20 hw) (t21 hw) (t19 hw) (t22 hw) (by decide) (lenOf pd3 rfl) rfl rfl (by decide) (by decide) (by decide) (by decide) rfl ?_
    rintro h20 ⟨ha21, P19⟩
    refine go_more (k' := 5) (n' := 25) (by decide) (by decide) ?_
    refine go_astore c0_61 rfl rfl rfl ?_
    dsimp only [setl]
    refine go_iload c0_63 rfl ?_
    refine go_push c0_65 ?_
    refine go_icmp_lt c0_66 (fun _ => ?_) (fun q => absurd q (by decide))
    refine go_iload c0_76 rfl ?_
    refine go_push c0_78 ?_
    refine go_icmp_lt c0_79 (fun _ => ?_) (fun q => absurd q (by decide))
    refine go_iload c0_89 rfl ?_
    refine go_push c0_91 ?_
    refine go_icmp_lt c0_92 (fun _ => ?_) (fun q => absurd q (by decide))
    refine go_aload c0_102 rfl rfl ?_
    refine go_callV1 (y := x) (W := 0) (argsL := []) (st := []) c0_104 (rm_K0 l Z a0 hw h20 n0 _ a18 _ P19) (P19.exa (i := 0) rfl) (t28 hw) (t29 hw) (fun _ q => notFace_of_selects (args := #[]) (mvT q (t31 hw))) (t31 hw) (t30 hw) (t19 hw) (t32 hw) (by decide) (lenOf pd4 rfl) rfl rfl (by decide) (by decide) (by decide) (by decide) rfl ?_
    rintro _ _ ⟨rfl, rfl⟩
    refine go_more (k' := 5) (n' := 25) (by decide) (by decide) ?_
    refine go_astore c0_107 rfl rfl rfl ?_
    dsimp only [setl]
    refine go_iload c0_109 rfl ?_
    refine go_if_ne c0_111 (fun q => absurd q (by decide)) (fun _ => ?_)
    refine go_aload c0_114 rfl rfl ?_
    refine go_nonnullF c0_116 ?_
    refine go_aload c0_119 rfl rfl ?_
    refine go_callV1 (y := x) (W := 0) (argsL := []) (st := []) c0_121 (rm_K0 l Z a0 hw h20 n0 _ a18 _ P19) (P19.exa (i := 0) rfl) (t28 hw) (t29 hw) (fun _ q => notFace_of_selects (args := #[]) (mvT q (t31 hw))) (t31 hw) (t30 hw) (t19 hw) (t32 hw) (by decide) (lenOf pd4 rfl) rfl rfl (by decide) (by decide) (by decide) (by decide) rfl ?_
    rintro _ _ ⟨rfl, rfl⟩
    refine go_more (k' := 5) (n' := 25) (by decide) (by decide) ?_
    refine go_nonnullF c0_124 ?_
    refine go_aload c0_127 rfl rfl ?_
    refine go_callV1 (y := x) (W := 0) (argsL := []) (st := []) c0_129 (rm_E l Z a0 hw h20 n0 _ a18 _ 0 P19) (P19.exa (i := 0) rfl) (t35 hw) (t36 hw) (fun _ q => notFace_of_selects (args := #[]) (mvT q (t38 hw))) (t38 hw) (t37 hw) (t19 hw) (t39 hw) (by decide) (lenOf pd5 rfl) rfl rfl (by decide) (by decide) (by decide) (by decide) rfl ?_
    rintro _ _ ⟨rfl, rfl⟩
    refine go_more (k' := 5) (n' := 25) (by decide) (by decide) ?_
    refine go_isI 1 (by decide) ?_
    refine go_if_eq c0_132 (fun q => absurd q (by decide)) (fun _ => ?_)
    refine go_push c0_135 ?_
    refine go_goto c0_136 ?_
    exact go_bret rfl c0_140 (by decide) (by decide) (by decide) ⟨_, rfl, rfl⟩
  · refine go_isI 1 hn ?_
    refine go_istore c0_3 rfl rfl ?_
    dsimp only [setl]
    refine go_iload c0_5 rfl ?_
    refine go_push c0_6 ?_
    refine go_ishr c0_7 ?_
    refine go_i2l c0_8 ?_
    refine go_nameJ fun o3 e_o3 => ?_
    refine go_lstore c0_9 rfl rfl rfl ?_
    dsimp only [setl]
    refine go_new (y := x) P0 [(("com/example/umbrella_state/umbrellastate/runtime/Delivery", "handler", "Ljava/util/function/Consumer;"), .null), (("com/example/umbrella_state/umbrellastate/runtime/Delivery", "message", "Lcom/example/umbrella_state/umbrellastate/model/Message;"), .null), (("com/example/umbrella_state/umbrellastate/runtime/Delivery", "due", "J"), (.long 0)), (("com/example/umbrella_state/umbrellastate/runtime/Delivery", "order", "J"), (.long 0))] c0_11 (t0 hw) (t1 hw) (t2 hw) (⟨⟨Or.inl (t10 hw), (.object "java/util/function/Consumer"), by decide, rfl⟩, ⟨⟨Or.inl (t12 hw), (.object "com/example/umbrella_state/umbrellastate/model/Message"), by decide, rfl⟩, ⟨⟨Or.inr (t14 hw), .long, by decide, rfl⟩, ⟨⟨Or.inr (t16 hw), .long, by decide, rfl⟩, trivial⟩⟩⟩⟩) (by decide) (by decide) (by decide) ?_
    intro h22 a24 P23
    refine go_more (k' := 1) (n' := 5) (by decide) (by decide) ?_
    refine go_dup c0_14 rfl ?_
    refine go_null c0_15 ?_
    refine go_null c0_16 ?_
    refine go_lload c0_17 rfl ?_
    refine go_lload c0_18 rfl ?_
    refine go_callN0 (y := x) (W := 1) (argsL := [.null, .null, (.long d1), (.long o1)]) (st := [(.ref a24)]) c0_20 rfl rfl (rm_D l Z a0 hw h22 n0 _ a24 d1 o1 P23) (t3 hw) (t4 hw) (t2 hw) (t5 hw) (by decide) (lenOf pd2 rfl) rfl rfl (by decide) (by decide) (by decide) (by decide) rfl ?_
    intro h26 P25
    refine go_more (k' := 1) (n' := 5) (by decide) (by decide) ?_
    refine go_astore c0_23 rfl rfl rfl ?_
    dsimp only [setl]
    refine go_new (y := x) P25 [(("com/example/umbrella_state/umbrellastate/runtime/Delivery", "handler", "Ljava/util/function/Consumer;"), .null), (("com/example/umbrella_state/umbrellastate/runtime/Delivery", "message", "Lcom/example/umbrella_state/umbrellastate/model/Message;"), .null), (("com/example/umbrella_state/umbrellastate/runtime/Delivery", "due", "J"), (.long 0)), (("com/example/umbrella_state/umbrellastate/runtime/Delivery", "order", "J"), (.long 0))] c0_25 (t0 hw) (t1 hw) (t2 hw) (⟨⟨Or.inl (t10 hw), (.object "java/util/function/Consumer"), by decide, rfl⟩, ⟨⟨Or.inl (t12 hw), (.object "com/example/umbrella_state/umbrellastate/model/Message"), by decide, rfl⟩, ⟨⟨Or.inr (t14 hw), .long, by decide, rfl⟩, ⟨⟨Or.inr (t16 hw), .long, by decide, rfl⟩, trivial⟩⟩⟩⟩) (by decide) (by decide) (by decide) ?_
    intro h27 a29 P28
    refine go_more (k' := 2) (n' := 10) (by decide) (by decide) ?_
    refine go_dup c0_28 rfl ?_
    refine go_null c0_29 ?_
    refine go_null c0_30 ?_
    refine go_lload c0_31 rfl ?_
    refine go_lload c0_32 rfl ?_
    refine go_callN0 (y := x) (W := 1) (argsL := [.null, .null, (.long d2), (.long o2)]) (st := [(.ref a29)]) c0_34 rfl rfl (rm_D l Z a0 hw h27 n0 _ a29 d2 o2 P28) (t3 hw) (t4 hw) (t2 hw) (t5 hw) (by decide) (lenOf pd2 rfl) rfl rfl (by decide) (by decide) (by decide) (by decide) rfl ?_
    intro h31 P30
    refine go_more (k' := 2) (n' := 10) (by decide) (by decide) ?_
    refine go_astore c0_37 rfl rfl rfl ?_
    dsimp only [setl]
    refine go_new (y := x) P30 [(("com/example/umbrella_state/umbrellastate/runtime/Delivery", "handler", "Ljava/util/function/Consumer;"), .null), (("com/example/umbrella_state/umbrellastate/runtime/Delivery", "message", "Lcom/example/umbrella_state/umbrellastate/model/Message;"), .null), (("com/example/umbrella_state/umbrellastate/runtime/Delivery", "due", "J"), (.long 0)), (("com/example/umbrella_state/umbrellastate/runtime/Delivery", "order", "J"), (.long 0))] c0_39 (t0 hw) (t1 hw) (t2 hw) (⟨⟨Or.inl (t10 hw), (.object "java/util/function/Consumer"), by decide, rfl⟩, ⟨⟨Or.inl (t12 hw), (.object "com/example/umbrella_state/umbrellastate/model/Message"), by decide, rfl⟩, ⟨⟨Or.inr (t14 hw), .long, by decide, rfl⟩, ⟨⟨Or.inr (t16 hw), .long, by decide, rfl⟩, trivial⟩⟩⟩⟩) (by decide) (by decide) (by decide) ?_
    intro h32 a34 P33
    refine go_more (k' := 3) (n' := 15) (by decide) (by decide) ?_
    refine go_dup c0_42 rfl ?_
    refine go_null c0_43 ?_
    refine go_null c0_44 ?_
    refine go_lload c0_45 rfl ?_
    refine go_lload c0_47 rfl ?_
    refine go_callN0 (y := x) (W := 1) (argsL := [.null, .null, (.long d3), (.long o3)]) (st := [(.ref a34)]) c0_49 rfl rfl (rm_D l Z a0 hw h32 n0 _ a34 d3 o3 P33) (t3 hw) (t4 hw) (t2 hw) (t5 hw) (by decide) (lenOf pd2 rfl) rfl rfl (by decide) (by decide) (by decide) (by decide) rfl ?_
    intro h36 P35
    refine go_more (k' := 3) (n' := 15) (by decide) (by decide) ?_
    refine go_astore c0_52 rfl rfl rfl ?_
    dsimp only [setl]
    refine go_new (y := x) P35 [(("com/example/umbrella_state/umbrellastate/runtime/DelayedDeliveries", "heap", "[Lcom/example/umbrella_state/umbrellastate/runtime/Delivery;"), .null), (("com/example/umbrella_state/umbrellastate/runtime/DelayedDeliveries", "size", "I"), (.int 0))] c0_54 (t17 hw) (t18 hw) (t19 hw) (⟨⟨Or.inl (t27 hw), (.array (.object "com/example/umbrella_state/umbrellastate/runtime/Delivery")), by decide, rfl⟩, ⟨⟨Or.inl (t34 hw), .int, by decide, rfl⟩, trivial⟩⟩) (by decide) (by decide) (by decide) ?_
    intro h37 a39 P38
    refine go_more (k' := 4) (n' := 17) (by decide) (by decide) ?_
    refine go_dup c0_57 rfl ?_
    refine go_callN0 (y := x) (W := 1) (argsL := []) (st := [(.ref a39)]) c0_58 rfl rfl (rm_Q l Z a0 hw h37 n0 _ a39 P38) (t20 hw) (t21 hw) (t19 hw) (t22 hw) (by decide) (lenOf pd3 rfl) rfl rfl (by decide) (by decide) (by decide) (by decide) rfl ?_
    rintro h41 ⟨ha42, P40⟩
    refine go_more (k' := 5) (n' := 25) (by decide) (by decide) ?_
    refine go_astore c0_61 rfl rfl rfl ?_
    dsimp only [setl]
    refine go_iload c0_63 rfl ?_
    refine go_push c0_65 ?_
    refine go_icmp_lt c0_66 (fun q => absurd q (by decide)) (fun _ => ?_)
    refine go_aload c0_69 rfl rfl ?_
    refine go_aload c0_71 rfl rfl ?_
    refine go_callV0 (y := x) (W := 0) (argsL := [(.ref a24)]) (st := []) c0_73 (rm_A0 l Z a0 hw h41 n0 _ a39 ha42 a24 2 d1 o1 rfl P40) (P40.exa (i := 0) rfl) (t40 hw) (t41 hw) (fun _ q => notFace_of_selects (args := #[]) (mvT q (t43 hw))) (t43 hw) (t42 hw) (t19 hw) (t44 hw) (by decide) (lenOf pd6 rfl) rfl rfl (by decide) (by decide) (by decide) (by decide) rfl ?_
    intro h44 P43
    refine go_more (k' := 5) (n' := 25) (by decide) (by decide) ?_
    refine go_iload c0_76 rfl ?_
    refine go_push c0_78 ?_
    refine go_icmp_lt c0_79 (fun _ => ?_) (fun q => absurd q (by decide))
    refine go_iload c0_89 rfl ?_
    refine go_push c0_91 ?_
    refine go_icmp_lt c0_92 (fun _ => ?_) (fun q => absurd q (by decide))
    refine go_aload c0_102 rfl rfl ?_
    refine go_callV1 (y := x) (W := 0) (argsL := []) (st := []) c0_104 (rm_K1 l Z a0 hw h44 n0 _ a39 ha42 a24 _ 1 (by decide) P43) (P43.exa (i := 0) rfl) (t28 hw) (t29 hw) (fun _ q => notFace_of_selects (args := #[]) (mvT q (t31 hw))) (t31 hw) (t30 hw) (t19 hw) (t32 hw) (by decide) (lenOf pd4 rfl) rfl rfl (by decide) (by decide) (by decide) (by decide) rfl ?_
    rintro _ _ ⟨rfl, rfl⟩
    refine go_more (k' := 5) (n' := 25) (by decide) (by decide) ?_
    refine go_astore c0_107 rfl rfl rfl ?_
    dsimp only [setl]
    refine go_iload c0_109 rfl ?_
    refine go_if_ne c0_111 (fun _ => ?_) (fun q => absurd q (by decide))
    refine go_aload c0_141 rfl rfl ?_
    refine go_nonnullT c0_143 ?_
    refine go_aload c0_148 rfl rfl ?_
    refine go_aload c0_150 rfl rfl ?_
    refine go_acmp_eq c0_152 rfl rfl (fun _ => ?_) (fun q => absurd rfl q)
    refine go_push c0_181 ?_
    refine go_goto c0_182 ?_
    refine go_istore c0_186 rfl rfl ?_
    dsimp only [setl]
    refine go_aload c0_188 rfl rfl ?_
    refine go_aload c0_190 rfl rfl ?_
    refine go_callS1 (y := x) (W := 0) (argsL := [(.ref a24), (.ref a24)]) (st := []) c0_192 (rm_lb l Z a0 hw h44 n0 _ (4) (4) a24 a24 d1 o1 d1 o1 rfl rfl P43) (t53 hw) (t54 hw) (t55 hw) (t56 hw) (by decide) (lenOf pd1 rfl) rfl rfl (by decide) (by decide) (by decide) (by decide) rfl ?_
    rintro _ _ ⟨rfl, rfl⟩
    refine go_more (k' := 5) (n' := 25) (by decide) (by decide) ?_
    refine go_if_ne c0_195 (fun b195 => ?_) (fun b195 => ?_)
    · exfalso
      simp only [own_bf0] at *
      omega
    · refine go_iload c0_198 rfl ?_
      refine go_push c0_200 ?_
      refine go_icmp_lt c0_201 (fun _ => ?_) (fun q => absurd q (by decide))
      refine go_iload c0_214 rfl ?_
      refine go_push c0_216 ?_
      refine go_icmp_lt c0_217 (fun _ => ?_) (fun q => absurd q (by decide))
      refine go_push c0_230 ?_
      refine go_goto c0_231 ?_
      refine go_istore c0_235 rfl rfl ?_
      dsimp only [setl]
      refine go_iload c0_237 rfl ?_
      refine go_if_eq c0_239 (fun q => absurd q (by decide)) (fun _ => ?_)
      refine go_iload c0_242 rfl ?_
      refine go_if_eq c0_244 (fun q => absurd q (by decide)) (fun _ => ?_)
      refine go_aload c0_247 rfl rfl ?_
      refine go_callV1 (y := x) (W := 0) (argsL := []) (st := []) c0_249 (rm_K1 l Z a0 hw h44 n0 _ a39 ha42 a24 _ 1 (by decide) P43) (P43.exa (i := 0) rfl) (t28 hw) (t29 hw) (fun _ q => notFace_of_selects (args := #[]) (mvT q (t31 hw))) (t31 hw) (t30 hw) (t19 hw) (t32 hw) (by decide) (lenOf pd4 rfl) rfl rfl (by decide) (by decide) (by decide) (by decide) rfl ?_
      rintro _ _ ⟨rfl, rfl⟩
      refine go_more (k' := 5) (n' := 25) (by decide) (by decide) ?_
      refine go_aload c0_252 rfl rfl ?_
      refine go_acmp_ne c0_254 rfl rfl (fun q => absurd rfl q) (fun _ => ?_)
      refine go_aload c0_257 rfl rfl ?_
      refine go_callV1 (y := x) (W := 0) (argsL := []) (st := []) c0_259 (rm_E l Z a0 hw h44 n0 _ a39 _ 1 P43) (P43.exa (i := 0) rfl) (t35 hw) (t36 hw) (fun _ q => notFace_of_selects (args := #[]) (mvT q (t38 hw))) (t38 hw) (t37 hw) (t19 hw) (t39 hw) (by decide) (lenOf pd5 rfl) rfl rfl (by decide) (by decide) (by decide) (by decide) rfl ?_
      rintro _ _ ⟨rfl, rfl⟩
      refine go_more (k' := 5) (n' := 25) (by decide) (by decide) ?_
      refine go_isI 0 (by decide) ?_
      refine go_if_ne c0_262 (fun q => absurd q (by decide)) (fun _ => ?_)
      refine go_push c0_265 ?_
      refine go_goto c0_266 ?_
      exact go_bret rfl c0_270 (by decide) (by decide) (by decide) ⟨_, rfl, rfl⟩
  · refine go_isI 2 hn ?_
    refine go_istore c0_3 rfl rfl ?_
    dsimp only [setl]
    refine go_iload c0_5 rfl ?_
    refine go_push c0_6 ?_
    refine go_ishr c0_7 ?_
    refine go_i2l c0_8 ?_
    refine go_nameJ fun o3 e_o3 => ?_
    refine go_lstore c0_9 rfl rfl rfl ?_
    dsimp only [setl]
    refine go_new (y := x) P0 [(("com/example/umbrella_state/umbrellastate/runtime/Delivery", "handler", "Ljava/util/function/Consumer;"), .null), (("com/example/umbrella_state/umbrellastate/runtime/Delivery", "message", "Lcom/example/umbrella_state/umbrellastate/model/Message;"), .null), (("com/example/umbrella_state/umbrellastate/runtime/Delivery", "due", "J"), (.long 0)), (("com/example/umbrella_state/umbrellastate/runtime/Delivery", "order", "J"), (.long 0))] c0_11 (t0 hw) (t1 hw) (t2 hw) (⟨⟨Or.inl (t10 hw), (.object "java/util/function/Consumer"), by decide, rfl⟩, ⟨⟨Or.inl (t12 hw), (.object "com/example/umbrella_state/umbrellastate/model/Message"), by decide, rfl⟩, ⟨⟨Or.inr (t14 hw), .long, by decide, rfl⟩, ⟨⟨Or.inr (t16 hw), .long, by decide, rfl⟩, trivial⟩⟩⟩⟩) (by decide) (by decide) (by decide) ?_
    intro h45 a47 P46
    refine go_more (k' := 1) (n' := 5) (by decide) (by decide) ?_
    refine go_dup c0_14 rfl ?_
    refine go_null c0_15 ?_
    refine go_null c0_16 ?_
    refine go_lload c0_17 rfl ?_
    refine go_lload c0_18 rfl ?_
    refine go_callN0 (y := x) (W := 1) (argsL := [.null, .null, (.long d1), (.long o1)]) (st := [(.ref a47)]) c0_20 rfl rfl (rm_D l Z a0 hw h45 n0 _ a47 d1 o1 P46) (t3 hw) (t4 hw) (t2 hw) (t5 hw) (by decide) (lenOf pd2 rfl) rfl rfl (by decide) (by decide) (by decide) (by decide) rfl ?_
    intro h49 P48
    refine go_more (k' := 1) (n' := 5) (by decide) (by decide) ?_
    refine go_astore c0_23 rfl rfl rfl ?_
    dsimp only [setl]
    refine go_new (y := x) P48 [(("com/example/umbrella_state/umbrellastate/runtime/Delivery", "handler", "Ljava/util/function/Consumer;"), .null), (("com/example/umbrella_state/umbrellastate/runtime/Delivery", "message", "Lcom/example/umbrella_state/umbrellastate/model/Message;"), .null), (("com/example/umbrella_state/umbrellastate/runtime/Delivery", "due", "J"), (.long 0)), (("com/example/umbrella_state/umbrellastate/runtime/Delivery", "order", "J"), (.long 0))] c0_25 (t0 hw) (t1 hw) (t2 hw) (⟨⟨Or.inl (t10 hw), (.object "java/util/function/Consumer"), by decide, rfl⟩, ⟨⟨Or.inl (t12 hw), (.object "com/example/umbrella_state/umbrellastate/model/Message"), by decide, rfl⟩, ⟨⟨Or.inr (t14 hw), .long, by decide, rfl⟩, ⟨⟨Or.inr (t16 hw), .long, by decide, rfl⟩, trivial⟩⟩⟩⟩) (by decide) (by decide) (by decide) ?_
    intro h50 a52 P51
    refine go_more (k' := 2) (n' := 10) (by decide) (by decide) ?_
    refine go_dup c0_28 rfl ?_
    refine go_null c0_29 ?_
    refine go_null c0_30 ?_
    refine go_lload c0_31 rfl ?_
    refine go_lload c0_32 rfl ?_
    refine go_callN0 (y := x) (W := 1) (argsL := [.null, .null, (.long d2), (.long o2)]) (st := [(.ref a52)]) c0_34 rfl rfl (rm_D l Z a0 hw h50 n0 _ a52 d2 o2 P51) (t3 hw) (t4 hw) (t2 hw) (t5 hw) (by decide) (lenOf pd2 rfl) rfl rfl (by decide) (by decide) (by decide) (by decide) rfl ?_
    intro h54 P53
    refine go_more (k' := 2) (n' := 10) (by decide) (by decide) ?_
    refine go_astore c0_37 rfl rfl rfl ?_
    dsimp only [setl]
    refine go_new (y := x) P53 [(("com/example/umbrella_state/umbrellastate/runtime/Delivery", "handler", "Ljava/util/function/Consumer;"), .null), (("com/example/umbrella_state/umbrellastate/runtime/Delivery", "message", "Lcom/example/umbrella_state/umbrellastate/model/Message;"), .null), (("com/example/umbrella_state/umbrellastate/runtime/Delivery", "due", "J"), (.long 0)), (("com/example/umbrella_state/umbrellastate/runtime/Delivery", "order", "J"), (.long 0))] c0_39 (t0 hw) (t1 hw) (t2 hw) (⟨⟨Or.inl (t10 hw), (.object "java/util/function/Consumer"), by decide, rfl⟩, ⟨⟨Or.inl (t12 hw), (.object "com/example/umbrella_state/umbrellastate/model/Message"), by decide, rfl⟩, ⟨⟨Or.inr (t14 hw), .long, by decide, rfl⟩, ⟨⟨Or.inr (t16 hw), .long, by decide, rfl⟩, trivial⟩⟩⟩⟩) (by decide) (by decide) (by decide) ?_
    intro h55 a57 P56
    refine go_more (k' := 3) (n' := 15) (by decide) (by decide) ?_
    refine go_dup c0_42 rfl ?_
    refine go_null c0_43 ?_
    refine go_null c0_44 ?_
    refine go_lload c0_45 rfl ?_
    refine go_lload c0_47 rfl ?_
    refine go_callN0 (y := x) (W := 1) (argsL := [.null, .null, (.long d3), (.long o3)]) (st := [(.ref a57)]) c0_49 rfl rfl (rm_D l Z a0 hw h55 n0 _ a57 d3 o3 P56) (t3 hw) (t4 hw) (t2 hw) (t5 hw) (by decide) (lenOf pd2 rfl) rfl rfl (by decide) (by decide) (by decide) (by decide) rfl ?_
    intro h59 P58
    refine go_more (k' := 3) (n' := 15) (by decide) (by decide) ?_
    refine go_astore c0_52 rfl rfl rfl ?_
    dsimp only [setl]
    refine go_new (y := x) P58 [(("com/example/umbrella_state/umbrellastate/runtime/DelayedDeliveries", "heap", "[Lcom/example/umbrella_state/umbrellastate/runtime/Delivery;"), .null), (("com/example/umbrella_state/umbrellastate/runtime/DelayedDeliveries", "size", "I"), (.int 0))] c0_54 (t17 hw) (t18 hw) (t19 hw) (⟨⟨Or.inl (t27 hw), (.array (.object "com/example/umbrella_state/umbrellastate/runtime/Delivery")), by decide, rfl⟩, ⟨⟨Or.inl (t34 hw), .int, by decide, rfl⟩, trivial⟩⟩) (by decide) (by decide) (by decide) ?_
    intro h60 a62 P61
    refine go_more (k' := 4) (n' := 17) (by decide) (by decide) ?_
    refine go_dup c0_57 rfl ?_
    refine go_callN0 (y := x) (W := 1) (argsL := []) (st := [(.ref a62)]) c0_58 rfl rfl (rm_Q l Z a0 hw h60 n0 _ a62 P61) (t20 hw) (t21 hw) (t19 hw) (t22 hw) (by decide) (lenOf pd3 rfl) rfl rfl (by decide) (by decide) (by decide) (by decide) rfl ?_
    rintro h64 ⟨ha65, P63⟩
    refine go_more (k' := 5) (n' := 25) (by decide) (by decide) ?_
    refine go_astore c0_61 rfl rfl rfl ?_
    dsimp only [setl]
    refine go_iload c0_63 rfl ?_
    refine go_push c0_65 ?_
    refine go_icmp_lt c0_66 (fun q => absurd q (by decide)) (fun _ => ?_)
    refine go_aload c0_69 rfl rfl ?_
    refine go_aload c0_71 rfl rfl ?_
    refine go_callV0 (y := x) (W := 0) (argsL := [(.ref a47)]) (st := []) c0_73 (rm_A0 l Z a0 hw h64 n0 _ a62 ha65 a47 2 d1 o1 rfl P63) (P63.exa (i := 0) rfl) (t40 hw) (t41 hw) (fun _ q => notFace_of_selects (args := #[]) (mvT q (t43 hw))) (t43 hw) (t42 hw) (t19 hw) (t44 hw) (by decide) (lenOf pd6 rfl) rfl rfl (by decide) (by decide) (by decide) (by decide) rfl ?_
    intro h67 P66
    refine go_more (k' := 5) (n' := 25) (by decide) (by decide) ?_
    refine go_iload c0_76 rfl ?_
    refine go_push c0_78 ?_
    refine go_icmp_lt c0_79 (fun q => absurd q (by decide)) (fun _ => ?_)
    refine go_aload c0_82 rfl rfl ?_
    refine go_aload c0_84 rfl rfl ?_
    refine go_callV0 (y := x) (W := 0) (argsL := [(.ref a52)]) (st := []) c0_86 (rm_A1 l Z a0 hw h67 n0 _ a62 ha65 a52 1 d2 o2 rfl 2 a47 d1 o1 rfl P66) (P66.exa (i := 0) rfl) (t40 hw) (t41 hw) (fun _ q => notFace_of_selects (args := #[]) (mvT q (t43 hw))) (t43 hw) (t42 hw) (t19 hw) (t44 hw) (by decide) (lenOf pd6 rfl) rfl rfl (by decide) (by decide) (by decide) (by decide) rfl ?_
    rintro h69 (⟨f70, P68⟩ | ⟨f70, P68⟩)
    · refine go_iload c0_89 rfl ?_
      refine go_push c0_91 ?_
      refine go_icmp_lt c0_92 (fun _ => ?_) (fun q => absurd q (by decide))
      refine go_aload c0_102 rfl rfl ?_
      refine go_callV1 (y := x) (W := 0) (argsL := []) (st := []) c0_104 (rm_K1 l Z a0 hw h69 n0 _ a62 ha65 a52 _ 2 (by decide) P68) (P68.exa (i := 0) rfl) (t28 hw) (t29 hw) (fun _ q => notFace_of_selects (args := #[]) (mvT q (t31 hw))) (t31 hw) (t30 hw) (t19 hw) (t32 hw) (by decide) (lenOf pd4 rfl) rfl rfl (by decide) (by decide) (by decide) (by decide) rfl ?_
      rintro _ _ ⟨rfl, rfl⟩
      refine go_more (k' := 5) (n' := 25) (by decide) (by decide) ?_
      refine go_astore c0_107 rfl rfl rfl ?_
      dsimp only [setl]
      refine go_iload c0_109 rfl ?_
      refine go_if_ne c0_111 (fun _ => ?_) (fun q => absurd q (by decide))
      refine go_aload c0_141 rfl rfl ?_
      refine go_nonnullT c0_143 ?_
      refine go_aload c0_148 rfl rfl ?_
      refine go_aload c0_150 rfl rfl ?_
      refine go_acmp_eq c0_152 rfl rfl (fun q => absurd q (fun q => P68.ne (i := 3) (j := 4) rfl rfl (by decide) (Value.ref.inj q))) (fun _ => ?_)
      refine go_iload c0_155 rfl ?_
      refine go_push c0_157 ?_
      refine go_icmp_lt c0_158 (fun q => absurd q (by decide)) (fun _ => ?_)
      refine go_aload c0_161 rfl rfl ?_
      refine go_aload c0_163 rfl rfl ?_
      refine go_acmp_eq c0_165 rfl rfl (fun _ => ?_) (fun q => absurd rfl q)
      refine go_push c0_181 ?_
      refine go_goto c0_182 ?_
      refine go_istore c0_186 rfl rfl ?_
      dsimp only [setl]
      refine go_aload c0_188 rfl rfl ?_
      refine go_aload c0_190 rfl rfl ?_
      refine go_callS1 (y := x) (W := 0) (argsL := [(.ref a47), (.ref a52)]) (st := []) c0_192 (rm_lb l Z a0 hw h69 n0 _ (4) (3) a47 a52 d1 o1 d2 o2 rfl rfl P68) (t53 hw) (t54 hw) (t55 hw) (t56 hw) (by decide) (lenOf pd1 rfl) rfl rfl (by decide) (by decide) (by decide) (by decide) rfl ?_
      rintro _ _ ⟨rfl, rfl⟩
      refine go_more (k' := 5) (n' := 25) (by decide) (by decide) ?_
      refine go_if_ne c0_195 (fun b195 => ?_) (fun b195 => ?_)
      · exfalso
        simp only [own_bf0] at *
        omega
      · refine go_iload c0_198 rfl ?_
        refine go_push c0_200 ?_
        refine go_icmp_lt c0_201 (fun q => absurd q (by decide)) (fun _ => ?_)
        refine go_aload c0_204 rfl rfl ?_
        refine go_aload c0_206 rfl rfl ?_
        refine go_callS1 (y := x) (W := 0) (argsL := [(.ref a52), (.ref a52)]) (st := []) c0_208 (rm_lb l Z a0 hw h69 n0 _ (3) (3) a52 a52 d2 o2 d2 o2 rfl rfl P68) (t53 hw) (t54 hw) (t55 hw) (t56 hw) (by decide) (lenOf pd1 rfl) rfl rfl (by decide) (by decide) (by decide) (by decide) rfl ?_
        rintro _ _ ⟨rfl, rfl⟩
        refine go_more (k' := 5) (n' := 25) (by decide) (by decide) ?_
        refine go_if_ne c0_211 (fun b211 => ?_) (fun b211 => ?_)
        · exfalso
          simp only [own_bf0] at *
          omega
        · refine go_iload c0_214 rfl ?_
          refine go_push c0_216 ?_
          refine go_icmp_lt c0_217 (fun _ => ?_) (fun q => absurd q (by decide))
          refine go_push c0_230 ?_
          refine go_goto c0_231 ?_
          refine go_istore c0_235 rfl rfl ?_
          dsimp only [setl]
          refine go_iload c0_237 rfl ?_
          refine go_if_eq c0_239 (fun q => absurd q (by decide)) (fun _ => ?_)
          refine go_iload c0_242 rfl ?_
          refine go_if_eq c0_244 (fun q => absurd q (by decide)) (fun _ => ?_)
          refine go_aload c0_247 rfl rfl ?_
          refine go_callV1 (y := x) (W := 0) (argsL := []) (st := []) c0_249 (rm_K1 l Z a0 hw h69 n0 _ a62 ha65 a52 _ 2 (by decide) P68) (P68.exa (i := 0) rfl) (t28 hw) (t29 hw) (fun _ q => notFace_of_selects (args := #[]) (mvT q (t31 hw))) (t31 hw) (t30 hw) (t19 hw) (t32 hw) (by decide) (lenOf pd4 rfl) rfl rfl (by decide) (by decide) (by decide) (by decide) rfl ?_
          rintro _ _ ⟨rfl, rfl⟩
          refine go_more (k' := 5) (n' := 25) (by decide) (by decide) ?_
          refine go_aload c0_252 rfl rfl ?_
          refine go_acmp_ne c0_254 rfl rfl (fun q => absurd rfl q) (fun _ => ?_)
          refine go_aload c0_257 rfl rfl ?_
          refine go_callV1 (y := x) (W := 0) (argsL := []) (st := []) c0_259 (rm_E l Z a0 hw h69 n0 _ a62 _ 2 P68) (P68.exa (i := 0) rfl) (t35 hw) (t36 hw) (fun _ q => notFace_of_selects (args := #[]) (mvT q (t38 hw))) (t38 hw) (t37 hw) (t19 hw) (t39 hw) (by decide) (lenOf pd5 rfl) rfl rfl (by decide) (by decide) (by decide) (by decide) rfl ?_
          rintro _ _ ⟨rfl, rfl⟩
          refine go_more (k' := 5) (n' := 25) (by decide) (by decide) ?_
          refine go_isI 0 (by decide) ?_
          refine go_if_ne c0_262 (fun q => absurd q (by decide)) (fun _ => ?_)
          refine go_push c0_265 ?_
          refine go_goto c0_266 ?_
          exact go_bret rfl c0_270 (by decide) (by decide) (by decide) ⟨_, rfl, rfl⟩
    · refine go_iload c0_89 rfl ?_
      refine go_push c0_91 ?_
      refine go_icmp_lt c0_92 (fun _ => ?_) (fun q => absurd q (by decide))
      refine go_aload c0_102 rfl rfl ?_
      refine go_callV1 (y := x) (W := 0) (argsL := []) (st := []) c0_104 (rm_K1 l Z a0 hw h69 n0 _ a62 ha65 a47 _ 2 (by decide) P68) (P68.exa (i := 0) rfl) (t28 hw) (t29 hw) (fun _ q => notFace_of_selects (args := #[]) (mvT q (t31 hw))) (t31 hw) (t30 hw) (t19 hw) (t32 hw) (by decide) (lenOf pd4 rfl) rfl rfl (by decide) (by decide) (by decide) (by decide) rfl ?_
      rintro _ _ ⟨rfl, rfl⟩
      refine go_more (k' := 5) (n' := 25) (by decide) (by decide) ?_
      refine go_astore c0_107 rfl rfl rfl ?_
      dsimp only [setl]
      refine go_iload c0_109 rfl ?_
      refine go_if_ne c0_111 (fun _ => ?_) (fun q => absurd q (by decide))
      refine go_aload c0_141 rfl rfl ?_
      refine go_nonnullT c0_143 ?_
      refine go_aload c0_148 rfl rfl ?_
      refine go_aload c0_150 rfl rfl ?_
      refine go_acmp_eq c0_152 rfl rfl (fun _ => ?_) (fun q => absurd rfl q)
      refine go_push c0_181 ?_
      refine go_goto c0_182 ?_
      refine go_istore c0_186 rfl rfl ?_
      dsimp only [setl]
      refine go_aload c0_188 rfl rfl ?_
      refine go_aload c0_190 rfl rfl ?_
      refine go_callS1 (y := x) (W := 0) (argsL := [(.ref a47), (.ref a47)]) (st := []) c0_192 (rm_lb l Z a0 hw h69 n0 _ (4) (4) a47 a47 d1 o1 d1 o1 rfl rfl P68) (t53 hw) (t54 hw) (t55 hw) (t56 hw) (by decide) (lenOf pd1 rfl) rfl rfl (by decide) (by decide) (by decide) (by decide) rfl ?_
      rintro _ _ ⟨rfl, rfl⟩
      refine go_more (k' := 5) (n' := 25) (by decide) (by decide) ?_
      refine go_if_ne c0_195 (fun b195 => ?_) (fun b195 => ?_)
      · exfalso
        simp only [own_bf0] at *
        omega
      · refine go_iload c0_198 rfl ?_
        refine go_push c0_200 ?_
        refine go_icmp_lt c0_201 (fun q => absurd q (by decide)) (fun _ => ?_)
        refine go_aload c0_204 rfl rfl ?_
        refine go_aload c0_206 rfl rfl ?_
        refine go_callS1 (y := x) (W := 0) (argsL := [(.ref a52), (.ref a47)]) (st := []) c0_208 (rm_lb l Z a0 hw h69 n0 _ (3) (4) a52 a47 d2 o2 d1 o1 rfl rfl P68) (t53 hw) (t54 hw) (t55 hw) (t56 hw) (by decide) (lenOf pd1 rfl) rfl rfl (by decide) (by decide) (by decide) (by decide) rfl ?_
        rintro _ _ ⟨rfl, rfl⟩
        refine go_more (k' := 5) (n' := 25) (by decide) (by decide) ?_
        refine go_if_ne c0_211 (fun b211 => ?_) (fun b211 => ?_)
        · exfalso
          simp only [own_bf0] at *
          omega
        · refine go_iload c0_214 rfl ?_
          refine go_push c0_216 ?_
          refine go_icmp_lt c0_217 (fun _ => ?_) (fun q => absurd q (by decide))
          refine go_push c0_230 ?_
          refine go_goto c0_231 ?_
          refine go_istore c0_235 rfl rfl ?_
          dsimp only [setl]
          refine go_iload c0_237 rfl ?_
          refine go_if_eq c0_239 (fun q => absurd q (by decide)) (fun _ => ?_)
          refine go_iload c0_242 rfl ?_
          refine go_if_eq c0_244 (fun q => absurd q (by decide)) (fun _ => ?_)
          refine go_aload c0_247 rfl rfl ?_
          refine go_callV1 (y := x) (W := 0) (argsL := []) (st := []) c0_249 (rm_K1 l Z a0 hw h69 n0 _ a62 ha65 a47 _ 2 (by decide) P68) (P68.exa (i := 0) rfl) (t28 hw) (t29 hw) (fun _ q => notFace_of_selects (args := #[]) (mvT q (t31 hw))) (t31 hw) (t30 hw) (t19 hw) (t32 hw) (by decide) (lenOf pd4 rfl) rfl rfl (by decide) (by decide) (by decide) (by decide) rfl ?_
          rintro _ _ ⟨rfl, rfl⟩
          refine go_more (k' := 5) (n' := 25) (by decide) (by decide) ?_
          refine go_aload c0_252 rfl rfl ?_
          refine go_acmp_ne c0_254 rfl rfl (fun q => absurd rfl q) (fun _ => ?_)
          refine go_aload c0_257 rfl rfl ?_
          refine go_callV1 (y := x) (W := 0) (argsL := []) (st := []) c0_259 (rm_E l Z a0 hw h69 n0 _ a62 _ 2 P68) (P68.exa (i := 0) rfl) (t35 hw) (t36 hw) (fun _ q => notFace_of_selects (args := #[]) (mvT q (t38 hw))) (t38 hw) (t37 hw) (t19 hw) (t39 hw) (by decide) (lenOf pd5 rfl) rfl rfl (by decide) (by decide) (by decide) (by decide) rfl ?_
          rintro _ _ ⟨rfl, rfl⟩
          refine go_more (k' := 5) (n' := 25) (by decide) (by decide) ?_
          refine go_isI 0 (by decide) ?_
          refine go_if_ne c0_262 (fun q => absurd q (by decide)) (fun _ => ?_)
          refine go_push c0_265 ?_
          refine go_goto c0_266 ?_
          exact go_bret rfl c0_270 (by decide) (by decide) (by decide) ⟨_, rfl, rfl⟩
  · refine go_isI 3 hn ?_
    refine go_istore c0_3 rfl rfl ?_
    dsimp only [setl]
    refine go_iload c0_5 rfl ?_
    refine go_push c0_6 ?_
    refine go_ishr c0_7 ?_
    refine go_i2l c0_8 ?_
    refine go_nameJ fun o3 e_o3 => ?_
    refine go_lstore c0_9 rfl rfl rfl ?_
    dsimp only [setl]
    refine go_new (y := x) P0 [(("com/example/umbrella_state/umbrellastate/runtime/Delivery", "handler", "Ljava/util/function/Consumer;"), .null), (("com/example/umbrella_state/umbrellastate/runtime/Delivery", "message", "Lcom/example/umbrella_state/umbrellastate/model/Message;"), .null), (("com/example/umbrella_state/umbrellastate/runtime/Delivery", "due", "J"), (.long 0)), (("com/example/umbrella_state/umbrellastate/runtime/Delivery", "order", "J"), (.long 0))] c0_11 (t0 hw) (t1 hw) (t2 hw) (⟨⟨Or.inl (t10 hw), (.object "java/util/function/Consumer"), by decide, rfl⟩, ⟨⟨Or.inl (t12 hw), (.object "com/example/umbrella_state/umbrellastate/model/Message"), by decide, rfl⟩, ⟨⟨Or.inr (t14 hw), .long, by decide, rfl⟩, ⟨⟨Or.inr (t16 hw), .long, by decide, rfl⟩, trivial⟩⟩⟩⟩) (by decide) (by decide) (by decide) ?_
    intro h71 a73 P72
    refine go_more (k' := 1) (n' := 5) (by decide) (by decide) ?_
    refine go_dup c0_14 rfl ?_
    refine go_null c0_15 ?_
    refine go_null c0_16 ?_
    refine go_lload c0_17 rfl ?_
    refine go_lload c0_18 rfl ?_
    refine go_callN0 (y := x) (W := 1) (argsL := [.null, .null, (.long d1), (.long o1)]) (st := [(.ref a73)]) c0_20 rfl rfl (rm_D l Z a0 hw h71 n0 _ a73 d1 o1 P72) (t3 hw) (t4 hw) (t2 hw) (t5 hw) (by decide) (lenOf pd2 rfl) rfl rfl (by decide) (by decide) (by decide) (by decide) rfl ?_
    intro h75 P74
    refine go_more (k' := 1) (n' := 5) (by decide) (by decide) ?_
    refine go_astore c0_23 rfl rfl rfl ?_
    dsimp only [setl]
    refine go_new (y := x) P74 [(("com/example/umbrella_state/umbrellastate/runtime/Delivery", "handler", "Ljava/util/function/Consumer;"), .null), (("com/example/umbrella_state/umbrellastate/runtime/Delivery", "message", "Lcom/example/umbrella_state/umbrellastate/model/Message;"), .null), (("com/example/umbrella_state/umbrellastate/runtime/Delivery", "due", "J"), (.long 0)), (("com/example/umbrella_state/umbrellastate/runtime/Delivery", "order", "J"), (.long 0))] c0_25 (t0 hw) (t1 hw) (t2 hw) (⟨⟨Or.inl (t10 hw), (.object "java/util/function/Consumer"), by decide, rfl⟩, ⟨⟨Or.inl (t12 hw), (.object "com/example/umbrella_state/umbrellastate/model/Message"), by decide, rfl⟩, ⟨⟨Or.inr (t14 hw), .long, by decide, rfl⟩, ⟨⟨Or.inr (t16 hw), .long, by decide, rfl⟩, trivial⟩⟩⟩⟩) (by decide) (by decide) (by decide) ?_
    intro h76 a78 P77
    refine go_more (k' := 2) (n' := 10) (by decide) (by decide) ?_
    refine go_dup c0_28 rfl ?_
    refine go_null c0_29 ?_
    refine go_null c0_30 ?_
    refine go_lload c0_31 rfl ?_
    refine go_lload c0_32 rfl ?_
    refine go_callN0 (y := x) (W := 1) (argsL := [.null, .null, (.long d2), (.long o2)]) (st := [(.ref a78)]) c0_34 rfl rfl (rm_D l Z a0 hw h76 n0 _ a78 d2 o2 P77) (t3 hw) (t4 hw) (t2 hw) (t5 hw) (by decide) (lenOf pd2 rfl) rfl rfl (by decide) (by decide) (by decide) (by decide) rfl ?_
    intro h80 P79
    refine go_more (k' := 2) (n' := 10) (by decide) (by decide) ?_
    refine go_astore c0_37 rfl rfl rfl ?_
    dsimp only [setl]
    refine go_new (y := x) P79 [(("com/example/umbrella_state/umbrellastate/runtime/Delivery", "handler", "Ljava/util/function/Consumer;"), .null), (("com/example/umbrella_state/umbrellastate/runtime/Delivery", "message", "Lcom/example/umbrella_state/umbrellastate/model/Message;"), .null), (("com/example/umbrella_state/umbrellastate/runtime/Delivery", "due", "J"), (.long 0)), (("com/example/umbrella_state/umbrellastate/runtime/Delivery", "order", "J"), (.long 0))] c0_39 (t0 hw) (t1 hw) (t2 hw) (⟨⟨Or.inl (t10 hw), (.object "java/util/function/Consumer"), by decide, rfl⟩, ⟨⟨Or.inl (t12 hw), (.object "com/example/umbrella_state/umbrellastate/model/Message"), by decide, rfl⟩, ⟨⟨Or.inr (t14 hw), .long, by decide, rfl⟩, ⟨⟨Or.inr (t16 hw), .long, by decide, rfl⟩, trivial⟩⟩⟩⟩) (by decide) (by decide) (by decide) ?_
    intro h81 a83 P82
    refine go_more (k' := 3) (n' := 15) (by decide) (by decide) ?_
    refine go_dup c0_42 rfl ?_
    refine go_null c0_43 ?_
    refine go_null c0_44 ?_
    refine go_lload c0_45 rfl ?_
    refine go_lload c0_47 rfl ?_
    refine go_callN0 (y := x) (W := 1) (argsL := [.null, .null, (.long d3), (.long o3)]) (st := [(.ref a83)]) c0_49 rfl rfl (rm_D l Z a0 hw h81 n0 _ a83 d3 o3 P82) (t3 hw) (t4 hw) (t2 hw) (t5 hw) (by decide) (lenOf pd2 rfl) rfl rfl (by decide) (by decide) (by decide) (by decide) rfl ?_
    intro h85 P84
    refine go_more (k' := 3) (n' := 15) (by decide) (by decide) ?_
    refine go_astore c0_52 rfl rfl rfl ?_
    dsimp only [setl]
    refine go_new (y := x) P84 [(("com/example/umbrella_state/umbrellastate/runtime/DelayedDeliveries", "heap", "[Lcom/example/umbrella_state/umbrellastate/runtime/Delivery;"), .null), (("com/example/umbrella_state/umbrellastate/runtime/DelayedDeliveries", "size", "I"), (.int 0))] c0_54 (t17 hw) (t18 hw) (t19 hw) (⟨⟨Or.inl (t27 hw), (.array (.object "com/example/umbrella_state/umbrellastate/runtime/Delivery")), by decide, rfl⟩, ⟨⟨Or.inl (t34 hw), .int, by decide, rfl⟩, trivial⟩⟩) (by decide) (by decide) (by decide) ?_
    intro h86 a88 P87
    refine go_more (k' := 4) (n' := 17) (by decide) (by decide) ?_
    refine go_dup c0_57 rfl ?_
    refine go_callN0 (y := x) (W := 1) (argsL := []) (st := [(.ref a88)]) c0_58 rfl rfl (rm_Q l Z a0 hw h86 n0 _ a88 P87) (t20 hw) (t21 hw) (t19 hw) (t22 hw) (by decide) (lenOf pd3 rfl) rfl rfl (by decide) (by decide) (by decide) (by decide) rfl ?_
    rintro h90 ⟨ha91, P89⟩
    refine go_more (k' := 5) (n' := 25) (by decide) (by decide) ?_
    refine go_astore c0_61 rfl rfl rfl ?_
    dsimp only [setl]
    refine go_iload c0_63 rfl ?_
    refine go_push c0_65 ?_
    refine go_icmp_lt c0_66 (fun q => absurd q (by decide)) (fun _ => ?_)
    refine go_aload c0_69 rfl rfl ?_
    refine go_aload c0_71 rfl rfl ?_
    refine go_callV0 (y := x) (W := 0) (argsL := [(.ref a73)]) (st := []) c0_73 (rm_A0 l Z a0 hw h90 n0 _ a88 ha91 a73 2 d1 o1 rfl P89) (P89.exa (i := 0) rfl) (t40 hw) (t41 hw) (fun _ q => notFace_of_selects (args := #[]) (mvT q (t43 hw))) (t43 hw) (t42 hw) (t19 hw) (t44 hw) (by decide) (lenOf pd6 rfl) rfl rfl (by decide) (by decide) (by decide) (by decide) rfl ?_
    intro h93 P92
    refine go_more (k' := 5) (n' := 25) (by decide) (by decide) ?_
    refine go_iload c0_76 rfl ?_
    refine go_push c0_78 ?_
    refine go_icmp_lt c0_79 (fun q => absurd q (by decide)) (fun _ => ?_)
    refine go_aload c0_82 rfl rfl ?_
    refine go_aload c0_84 rfl rfl ?_
    refine go_callV0 (y := x) (W := 0) (argsL := [(.ref a78)]) (st := []) c0_86 (rm_A1 l Z a0 hw h93 n0 _ a88 ha91 a78 1 d2 o2 rfl 2 a73 d1 o1 rfl P92) (P92.exa (i := 0) rfl) (t40 hw) (t41 hw) (fun _ q => notFace_of_selects (args := #[]) (mvT q (t43 hw))) (t43 hw) (t42 hw) (t19 hw) (t44 hw) (by decide) (lenOf pd6 rfl) rfl rfl (by decide) (by decide) (by decide) (by decide) rfl ?_
    rintro h95 (⟨f96, P94⟩ | ⟨f96, P94⟩)
    · refine go_iload c0_89 rfl ?_
      refine go_push c0_91 ?_
      refine go_icmp_lt c0_92 (fun q => absurd q (by decide)) (fun _ => ?_)
      refine go_aload c0_95 rfl rfl ?_
      refine go_aload c0_97 rfl rfl ?_
      refine go_callV0 (y := x) (W := 0) (argsL := [(.ref a83)]) (st := []) c0_99 (rm_A2 l Z a0 hw h95 n0 _ a88 ha91 a83 0 d3 o3 rfl 1 a78 d2 o2 rfl a73 P94) (P94.exa (i := 0) rfl) (t40 hw) (t41 hw) (fun _ q => notFace_of_selects (args := #[]) (mvT q (t43 hw))) (t43 hw) (t42 hw) (t19 hw) (t44 hw) (by decide) (lenOf pd6 rfl) rfl rfl (by decide) (by decide) (by decide) (by decide) rfl ?_
      rintro h98 (⟨f99, P97⟩ | ⟨f99, P97⟩)
      · refine go_aload c0_102 rfl rfl ?_
        refine go_callV1 (y := x) (W := 0) (argsL := []) (st := []) c0_104 (rm_K1 l Z a0 hw h98 n0 _ a88 ha91 a83 _ 3 (by decide) P97) (P97.exa (i := 0) rfl) (t28 hw) (t29 hw) (fun _ q => notFace_of_selects (args := #[]) (mvT q (t31 hw))) (t31 hw) (t30 hw) (t19 hw) (t32 hw) (by decide) (lenOf pd4 rfl) rfl rfl (by decide) (by decide) (by decide) (by decide) rfl ?_
        rintro _ _ ⟨rfl, rfl⟩
        refine go_more (k' := 5) (n' := 25) (by decide) (by decide) ?_
        refine go_astore c0_107 rfl rfl rfl ?_
        dsimp only [setl]
        refine go_iload c0_109 rfl ?_
        refine go_if_ne c0_111 (fun _ => ?_) (fun q => absurd q (by decide))
        refine go_aload c0_141 rfl rfl ?_
        refine go_nonnullT c0_143 ?_
        refine go_aload c0_148 rfl rfl ?_
        refine go_aload c0_150 rfl rfl ?_
        refine go_acmp_eq c0_152 rfl rfl (fun q => absurd q (fun q => P97.ne (i := 2) (j := 4) rfl rfl (by decide) (Value.ref.inj q))) (fun _ => ?_)
        refine go_iload c0_155 rfl ?_
        refine go_push c0_157 ?_
        refine go_icmp_lt c0_158 (fun q => absurd q (by decide)) (fun _ => ?_)
        refine go_aload c0_161 rfl rfl ?_
        refine go_aload c0_163 rfl rfl ?_
        refine go_acmp_eq c0_165 rfl rfl (fun q => absurd q (fun q => P97.ne (i := 2) (j := 3) rfl rfl (by decide) (Value.ref.inj q))) (fun _ => ?_)
        refine go_iload c0_168 rfl ?_
        refine go_push c0_170 ?_
        refine go_icmp_lt c0_171 (fun q => absurd q (by decide)) (fun _ => ?_)
        refine go_aload c0_174 rfl rfl ?_
        refine go_aload c0_176 rfl rfl ?_
        refine go_acmp_ne c0_178 rfl rfl (fun q => absurd rfl q) (fun _ => ?_)
        refine go_push c0_181 ?_
        refine go_goto c0_182 ?_
        refine go_istore c0_186 rfl rfl ?_
        dsimp only [setl]
        refine go_aload c0_188 rfl rfl ?_
        refine go_aload c0_190 rfl rfl ?_
        refine go_callS1 (y := x) (W := 0) (argsL := [(.ref a73), (.ref a83)]) (st := []) c0_192 (rm_lb l Z a0 hw h98 n0 _ (4) (2) a73 a83 d1 o1 d3 o3 rfl rfl P97) (t53 hw) (t54 hw) (t55 hw) (t56 hw) (by decide) (lenOf pd1 rfl) rfl rfl (by decide) (by decide) (by decide) (by decide) rfl ?_
        rintro _ _ ⟨rfl, rfl⟩
        refine go_more (k' := 5) (n' := 25) (by decide) (by decide) ?_
        refine go_if_ne c0_195 (fun b195 => ?_) (fun b195 => ?_)
        · exfalso
          simp only [own_bf0] at *
          omega
        · refine go_iload c0_198 rfl ?_
          refine go_push c0_200 ?_
          refine go_icmp_lt c0_201 (fun q => absurd q (by decide)) (fun _ => ?_)
          refine go_aload c0_204 rfl rfl ?_
          refine go_aload c0_206 rfl rfl ?_
          refine go_callS1 (y := x) (W := 0) (argsL := [(.ref a78), (.ref a83)]) (st := []) c0_208 (rm_lb l Z a0 hw h98 n0 _ (3) (2) a78 a83 d2 o2 d3 o3 rfl rfl P97) (t53 hw) (t54 hw) (t55 hw) (t56 hw) (by decide) (lenOf pd1 rfl) rfl rfl (by decide) (by decide) (by decide) (by decide) rfl ?_
          rintro _ _ ⟨rfl, rfl⟩
          refine go_more (k' := 5) (n' := 25) (by decide) (by decide) ?_
          refine go_if_ne c0_211 (fun b211 => ?_) (fun b211 => ?_)
          · exfalso
            simp only [own_bf0] at *
            omega
          · refine go_iload c0_214 rfl ?_
            refine go_push c0_216 ?_
            refine go_icmp_lt c0_217 (fun q => absurd q (by decide)) (fun _ => ?_)
            refine go_aload c0_220 rfl rfl ?_
            refine go_aload c0_222 rfl rfl ?_
            refine go_callS1 (y := x) (W := 0) (argsL := [(.ref a83), (.ref a83)]) (st := []) c0_224 (rm_lb l Z a0 hw h98 n0 _ (2) (2) a83 a83 d3 o3 d3 o3 rfl rfl P97) (t53 hw) (t54 hw) (t55 hw) (t56 hw) (by decide) (lenOf pd1 rfl) rfl rfl (by decide) (by decide) (by decide) (by decide) rfl ?_
            rintro _ _ ⟨rfl, rfl⟩
            refine go_more (k' := 5) (n' := 25) (by decide) (by decide) ?_
            refine go_if_ne c0_227 (fun b227 => ?_) (fun b227 => ?_)
            · exfalso
              simp only [own_bf0] at *
              omega
            · refine go_push c0_230 ?_
              refine go_goto c0_231 ?_
              refine go_istore c0_235 rfl rfl ?_
              dsimp only [setl]
              refine go_iload c0_237 rfl ?_
              refine go_if_eq c0_239 (fun q => absurd q (by decide)) (fun _ => ?_)
              refine go_iload c0_242 rfl ?_
              refine go_if_eq c0_244 (fun q => absurd q (by decide)) (fun _ => ?_)
              refine go_aload c0_247 rfl rfl ?_
              refine go_callV1 (y := x) (W := 0) (argsL := []) (st := []) c0_249 (rm_K1 l Z a0 hw h98 n0 _ a88 ha91 a83 _ 3 (by decide) P97) (P97.exa (i := 0) rfl) (t28 hw) (t29 hw) (fun _ q => notFace_of_selects (args := #[]) (mvT q (t31 hw))) (t31 hw) (t30 hw) (t19 hw) (t32 hw) (by decide) (lenOf pd4 rfl) rfl rfl (by decide) (by decide) (by decide) (by decide) rfl ?_
              rintro _ _ ⟨rfl, rfl⟩
              refine go_more (k' := 5) (n' := 25) (by decide) (by decide) ?_
              refine go_aload c0_252 rfl rfl ?_
              refine go_acmp_ne c0_254 rfl rfl (fun q => absurd rfl q) (fun _ => ?_)
              refine go_aload c0_257 rfl rfl ?_
              refine go_callV1 (y := x) (W := 0) (argsL := []) (st := []) c0_259 (rm_E l Z a0 hw h98 n0 _ a88 _ 3 P97) (P97.exa (i := 0) rfl) (t35 hw) (t36 hw) (fun _ q => notFace_of_selects (args := #[]) (mvT q (t38 hw))) (t38 hw) (t37 hw) (t19 hw) (t39 hw) (by decide) (lenOf pd5 rfl) rfl rfl (by decide) (by decide) (by decide) (by decide) rfl ?_
              rintro _ _ ⟨rfl, rfl⟩
              refine go_more (k' := 5) (n' := 25) (by decide) (by decide) ?_
              refine go_isI 0 (by decide) ?_
              refine go_if_ne c0_262 (fun q => absurd q (by decide)) (fun _ => ?_)
              refine go_push c0_265 ?_
              refine go_goto c0_266 ?_
              exact go_bret rfl c0_270 (by decide) (by decide) (by decide) ⟨_, rfl, rfl⟩
      · refine go_aload c0_102 rfl rfl ?_
        refine go_callV1 (y := x) (W := 0) (argsL := []) (st := []) c0_104 (rm_K1 l Z a0 hw h98 n0 _ a88 ha91 a78 _ 3 (by decide) P97) (P97.exa (i := 0) rfl) (t28 hw) (t29 hw) (fun _ q => notFace_of_selects (args := #[]) (mvT q (t31 hw))) (t31 hw) (t30 hw) (t19 hw) (t32 hw) (by decide) (lenOf pd4 rfl) rfl rfl (by decide) (by decide) (by decide) (by decide) rfl ?_
        rintro _ _ ⟨rfl, rfl⟩
        refine go_more (k' := 5) (n' := 25) (by decide) (by decide) ?_
        refine go_astore c0_107 rfl rfl rfl ?_
        dsimp only [setl]
        refine go_iload c0_109 rfl ?_
        refine go_if_ne c0_111 (fun _ => ?_) (fun q => absurd q (by decide))
        refine go_aload c0_141 rfl rfl ?_
        refine go_nonnullT c0_143 ?_
        refine go_aload c0_148 rfl rfl ?_
        refine go_aload c0_150 rfl rfl ?_
        refine go_acmp_eq c0_152 rfl rfl (fun q => absurd q (fun q => P97.ne (i := 3) (j := 4) rfl rfl (by decide) (Value.ref.inj q))) (fun _ => ?_)
        refine go_iload c0_155 rfl ?_
        refine go_push c0_157 ?_
        refine go_icmp_lt c0_158 (fun q => absurd q (by decide)) (fun _ => ?_)
        refine go_aload c0_161 rfl rfl ?_
        refine go_aload c0_163 rfl rfl ?_
        refine go_acmp_eq c0_165 rfl rfl (fun _ => ?_) (fun q => absurd rfl q)
        refine go_push c0_181 ?_
        refine go_goto c0_182 ?_
        refine go_istore c0_186 rfl rfl ?_
        dsimp only [setl]
        refine go_aload c0_188 rfl rfl ?_
        refine go_aload c0_190 rfl rfl ?_
        refine go_callS1 (y := x) (W := 0) (argsL := [(.ref a73), (.ref a78)]) (st := []) c0_192 (rm_lb l Z a0 hw h98 n0 _ (4) (3) a73 a78 d1 o1 d2 o2 rfl rfl P97) (t53 hw) (t54 hw) (t55 hw) (t56 hw) (by decide) (lenOf pd1 rfl) rfl rfl (by decide) (by decide) (by decide) (by decide) rfl ?_
        rintro _ _ ⟨rfl, rfl⟩
        refine go_more (k' := 5) (n' := 25) (by decide) (by decide) ?_
        refine go_if_ne c0_195 (fun b195 => ?_) (fun b195 => ?_)
        · exfalso
          simp only [own_bf0] at *
          omega
        · refine go_iload c0_198 rfl ?_
          refine go_push c0_200 ?_
          refine go_icmp_lt c0_201 (fun q => absurd q (by decide)) (fun _ => ?_)
          refine go_aload c0_204 rfl rfl ?_
          refine go_aload c0_206 rfl rfl ?_
          refine go_callS1 (y := x) (W := 0) (argsL := [(.ref a78), (.ref a78)]) (st := []) c0_208 (rm_lb l Z a0 hw h98 n0 _ (3) (3) a78 a78 d2 o2 d2 o2 rfl rfl P97) (t53 hw) (t54 hw) (t55 hw) (t56 hw) (by decide) (lenOf pd1 rfl) rfl rfl (by decide) (by decide) (by decide) (by decide) rfl ?_
          rintro _ _ ⟨rfl, rfl⟩
          refine go_more (k' := 5) (n' := 25) (by decide) (by decide) ?_
          refine go_if_ne c0_211 (fun b211 => ?_) (fun b211 => ?_)
          · exfalso
            simp only [own_bf0] at *
            omega
          · refine go_iload c0_214 rfl ?_
            refine go_push c0_216 ?_
            refine go_icmp_lt c0_217 (fun q => absurd q (by decide)) (fun _ => ?_)
            refine go_aload c0_220 rfl rfl ?_
            refine go_aload c0_222 rfl rfl ?_
            refine go_callS1 (y := x) (W := 0) (argsL := [(.ref a83), (.ref a78)]) (st := []) c0_224 (rm_lb l Z a0 hw h98 n0 _ (2) (3) a83 a78 d3 o3 d2 o2 rfl rfl P97) (t53 hw) (t54 hw) (t55 hw) (t56 hw) (by decide) (lenOf pd1 rfl) rfl rfl (by decide) (by decide) (by decide) (by decide) rfl ?_
            rintro _ _ ⟨rfl, rfl⟩
            refine go_more (k' := 5) (n' := 25) (by decide) (by decide) ?_
            refine go_if_ne c0_227 (fun b227 => ?_) (fun b227 => ?_)
            · exfalso
              simp only [own_bf0] at *
              omega
            · refine go_push c0_230 ?_
              refine go_goto c0_231 ?_
              refine go_istore c0_235 rfl rfl ?_
              dsimp only [setl]
              refine go_iload c0_237 rfl ?_
              refine go_if_eq c0_239 (fun q => absurd q (by decide)) (fun _ => ?_)
              refine go_iload c0_242 rfl ?_
              refine go_if_eq c0_244 (fun q => absurd q (by decide)) (fun _ => ?_)
              refine go_aload c0_247 rfl rfl ?_
              refine go_callV1 (y := x) (W := 0) (argsL := []) (st := []) c0_249 (rm_K1 l Z a0 hw h98 n0 _ a88 ha91 a78 _ 3 (by decide) P97) (P97.exa (i := 0) rfl) (t28 hw) (t29 hw) (fun _ q => notFace_of_selects (args := #[]) (mvT q (t31 hw))) (t31 hw) (t30 hw) (t19 hw) (t32 hw) (by decide) (lenOf pd4 rfl) rfl rfl (by decide) (by decide) (by decide) (by decide) rfl ?_
              rintro _ _ ⟨rfl, rfl⟩
              refine go_more (k' := 5) (n' := 25) (by decide) (by decide) ?_
              refine go_aload c0_252 rfl rfl ?_
              refine go_acmp_ne c0_254 rfl rfl (fun q => absurd rfl q) (fun _ => ?_)
              refine go_aload c0_257 rfl rfl ?_
              refine go_callV1 (y := x) (W := 0) (argsL := []) (st := []) c0_259 (rm_E l Z a0 hw h98 n0 _ a88 _ 3 P97) (P97.exa (i := 0) rfl) (t35 hw) (t36 hw) (fun _ q => notFace_of_selects (args := #[]) (mvT q (t38 hw))) (t38 hw) (t37 hw) (t19 hw) (t39 hw) (by decide) (lenOf pd5 rfl) rfl rfl (by decide) (by decide) (by decide) (by decide) rfl ?_
              rintro _ _ ⟨rfl, rfl⟩
              refine go_more (k' := 5) (n' := 25) (by decide) (by decide) ?_
              refine go_isI 0 (by decide) ?_
              refine go_if_ne c0_262 (fun q => absurd q (by decide)) (fun _ => ?_)
              refine go_push c0_265 ?_
              refine go_goto c0_266 ?_
              exact go_bret rfl c0_270 (by decide) (by decide) (by decide) ⟨_, rfl, rfl⟩
    · refine go_iload c0_89 rfl ?_
      refine go_push c0_91 ?_
      refine go_icmp_lt c0_92 (fun q => absurd q (by decide)) (fun _ => ?_)
      refine go_aload c0_95 rfl rfl ?_
      refine go_aload c0_97 rfl rfl ?_
      refine go_callV0 (y := x) (W := 0) (argsL := [(.ref a83)]) (st := []) c0_99 (rm_A2 l Z a0 hw h95 n0 _ a88 ha91 a83 0 d3 o3 rfl 2 a73 d1 o1 rfl a78 P94) (P94.exa (i := 0) rfl) (t40 hw) (t41 hw) (fun _ q => notFace_of_selects (args := #[]) (mvT q (t43 hw))) (t43 hw) (t42 hw) (t19 hw) (t44 hw) (by decide) (lenOf pd6 rfl) rfl rfl (by decide) (by decide) (by decide) (by decide) rfl ?_
      rintro h101 (⟨f102, P100⟩ | ⟨f102, P100⟩)
      · refine go_aload c0_102 rfl rfl ?_
        refine go_callV1 (y := x) (W := 0) (argsL := []) (st := []) c0_104 (rm_K1 l Z a0 hw h101 n0 _ a88 ha91 a83 _ 3 (by decide) P100) (P100.exa (i := 0) rfl) (t28 hw) (t29 hw) (fun _ q => notFace_of_selects (args := #[]) (mvT q (t31 hw))) (t31 hw) (t30 hw) (t19 hw) (t32 hw) (by decide) (lenOf pd4 rfl) rfl rfl (by decide) (by decide) (by decide) (by decide) rfl ?_
        rintro _ _ ⟨rfl, rfl⟩
        refine go_more (k' := 5) (n' := 25) (by decide) (by decide) ?_
        refine go_astore c0_107 rfl rfl rfl ?_
        dsimp only [setl]
        refine go_iload c0_109 rfl ?_
        refine go_if_ne c0_111 (fun _ => ?_) (fun q => absurd q (by decide))
        refine go_aload c0_141 rfl rfl ?_
        refine go_nonnullT c0_143 ?_
        refine go_aload c0_148 rfl rfl ?_
        refine go_aload c0_150 rfl rfl ?_
        refine go_acmp_eq c0_152 rfl rfl (fun q => absurd q (fun q => P100.ne (i := 2) (j := 4) rfl rfl (by decide) (Value.ref.inj q))) (fun _ => ?_)
        refine go_iload c0_155 rfl ?_
        refine go_push c0_157 ?_
        refine go_icmp_lt c0_158 (fun q => absurd q (by decide)) (fun _ => ?_)
        refine go_aload c0_161 rfl rfl ?_
        refine go_aload c0_163 rfl rfl ?_
        refine go_acmp_eq c0_165 rfl rfl (fun q => absurd q (fun q => P100.ne (i := 2) (j := 3) rfl rfl (by decide) (Value.ref.inj q))) (fun _ => ?_)
        refine go_iload c0_168 rfl ?_
        refine go_push c0_170 ?_
        refine go_icmp_lt c0_171 (fun q => absurd q (by decide)) (fun _ => ?_)
        refine go_aload c0_174 rfl rfl ?_
        refine go_aload c0_176 rfl rfl ?_
        refine go_acmp_ne c0_178 rfl rfl (fun q => absurd rfl q) (fun _ => ?_)
        refine go_push c0_181 ?_
        refine go_goto c0_182 ?_
        refine go_istore c0_186 rfl rfl ?_
        dsimp only [setl]
        refine go_aload c0_188 rfl rfl ?_
        refine go_aload c0_190 rfl rfl ?_
        refine go_callS1 (y := x) (W := 0) (argsL := [(.ref a73), (.ref a83)]) (st := []) c0_192 (rm_lb l Z a0 hw h101 n0 _ (4) (2) a73 a83 d1 o1 d3 o3 rfl rfl P100) (t53 hw) (t54 hw) (t55 hw) (t56 hw) (by decide) (lenOf pd1 rfl) rfl rfl (by decide) (by decide) (by decide) (by decide) rfl ?_
        rintro _ _ ⟨rfl, rfl⟩
        refine go_more (k' := 5) (n' := 25) (by decide) (by decide) ?_
        refine go_if_ne c0_195 (fun b195 => ?_) (fun b195 => ?_)
        · exfalso
          simp only [own_bf0] at *
          omega
        · refine go_iload c0_198 rfl ?_
          refine go_push c0_200 ?_
          refine go_icmp_lt c0_201 (fun q => absurd q (by decide)) (fun _ => ?_)
          refine go_aload c0_204 rfl rfl ?_
          refine go_aload c0_206 rfl rfl ?_
          refine go_callS1 (y := x) (W := 0) (argsL := [(.ref a78), (.ref a83)]) (st := []) c0_208 (rm_lb l Z a0 hw h101 n0 _ (3) (2) a78 a83 d2 o2 d3 o3 rfl rfl P100) (t53 hw) (t54 hw) (t55 hw) (t56 hw) (by decide) (lenOf pd1 rfl) rfl rfl (by decide) (by decide) (by decide) (by decide) rfl ?_
          rintro _ _ ⟨rfl, rfl⟩
          refine go_more (k' := 5) (n' := 25) (by decide) (by decide) ?_
          refine go_if_ne c0_211 (fun b211 => ?_) (fun b211 => ?_)
          · exfalso
            simp only [own_bf0] at *
            omega
          · refine go_iload c0_214 rfl ?_
            refine go_push c0_216 ?_
            refine go_icmp_lt c0_217 (fun q => absurd q (by decide)) (fun _ => ?_)
            refine go_aload c0_220 rfl rfl ?_
            refine go_aload c0_222 rfl rfl ?_
            refine go_callS1 (y := x) (W := 0) (argsL := [(.ref a83), (.ref a83)]) (st := []) c0_224 (rm_lb l Z a0 hw h101 n0 _ (2) (2) a83 a83 d3 o3 d3 o3 rfl rfl P100) (t53 hw) (t54 hw) (t55 hw) (t56 hw) (by decide) (lenOf pd1 rfl) rfl rfl (by decide) (by decide) (by decide) (by decide) rfl ?_
            rintro _ _ ⟨rfl, rfl⟩
            refine go_more (k' := 5) (n' := 25) (by decide) (by decide) ?_
            refine go_if_ne c0_227 (fun b227 => ?_) (fun b227 => ?_)
            · exfalso
              simp only [own_bf0] at *
              omega
            · refine go_push c0_230 ?_
              refine go_goto c0_231 ?_
              refine go_istore c0_235 rfl rfl ?_
              dsimp only [setl]
              refine go_iload c0_237 rfl ?_
              refine go_if_eq c0_239 (fun q => absurd q (by decide)) (fun _ => ?_)
              refine go_iload c0_242 rfl ?_
              refine go_if_eq c0_244 (fun q => absurd q (by decide)) (fun _ => ?_)
              refine go_aload c0_247 rfl rfl ?_
              refine go_callV1 (y := x) (W := 0) (argsL := []) (st := []) c0_249 (rm_K1 l Z a0 hw h101 n0 _ a88 ha91 a83 _ 3 (by decide) P100) (P100.exa (i := 0) rfl) (t28 hw) (t29 hw) (fun _ q => notFace_of_selects (args := #[]) (mvT q (t31 hw))) (t31 hw) (t30 hw) (t19 hw) (t32 hw) (by decide) (lenOf pd4 rfl) rfl rfl (by decide) (by decide) (by decide) (by decide) rfl ?_
              rintro _ _ ⟨rfl, rfl⟩
              refine go_more (k' := 5) (n' := 25) (by decide) (by decide) ?_
              refine go_aload c0_252 rfl rfl ?_
              refine go_acmp_ne c0_254 rfl rfl (fun q => absurd rfl q) (fun _ => ?_)
              refine go_aload c0_257 rfl rfl ?_
              refine go_callV1 (y := x) (W := 0) (argsL := []) (st := []) c0_259 (rm_E l Z a0 hw h101 n0 _ a88 _ 3 P100) (P100.exa (i := 0) rfl) (t35 hw) (t36 hw) (fun _ q => notFace_of_selects (args := #[]) (mvT q (t38 hw))) (t38 hw) (t37 hw) (t19 hw) (t39 hw) (by decide) (lenOf pd5 rfl) rfl rfl (by decide) (by decide) (by decide) (by decide) rfl ?_
              rintro _ _ ⟨rfl, rfl⟩
              refine go_more (k' := 5) (n' := 25) (by decide) (by decide) ?_
              refine go_isI 0 (by decide) ?_
              refine go_if_ne c0_262 (fun q => absurd q (by decide)) (fun _ => ?_)
              refine go_push c0_265 ?_
              refine go_goto c0_266 ?_
              exact go_bret rfl c0_270 (by decide) (by decide) (by decide) ⟨_, rfl, rfl⟩
      · refine go_aload c0_102 rfl rfl ?_
        refine go_callV1 (y := x) (W := 0) (argsL := []) (st := []) c0_104 (rm_K1 l Z a0 hw h101 n0 _ a88 ha91 a73 _ 3 (by decide) P100) (P100.exa (i := 0) rfl) (t28 hw) (t29 hw) (fun _ q => notFace_of_selects (args := #[]) (mvT q (t31 hw))) (t31 hw) (t30 hw) (t19 hw) (t32 hw) (by decide) (lenOf pd4 rfl) rfl rfl (by decide) (by decide) (by decide) (by decide) rfl ?_
        rintro _ _ ⟨rfl, rfl⟩
        refine go_more (k' := 5) (n' := 25) (by decide) (by decide) ?_
        refine go_astore c0_107 rfl rfl rfl ?_
        dsimp only [setl]
        refine go_iload c0_109 rfl ?_
        refine go_if_ne c0_111 (fun _ => ?_) (fun q => absurd q (by decide))
        refine go_aload c0_141 rfl rfl ?_
        refine go_nonnullT c0_143 ?_
        refine go_aload c0_148 rfl rfl ?_
        refine go_aload c0_150 rfl rfl ?_
        refine go_acmp_eq c0_152 rfl rfl (fun _ => ?_) (fun q => absurd rfl q)
        refine go_push c0_181 ?_
        refine go_goto c0_182 ?_
        refine go_istore c0_186 rfl rfl ?_
        dsimp only [setl]
        refine go_aload c0_188 rfl rfl ?_
        refine go_aload c0_190 rfl rfl ?_
        refine go_callS1 (y := x) (W := 0) (argsL := [(.ref a73), (.ref a73)]) (st := []) c0_192 (rm_lb l Z a0 hw h101 n0 _ (4) (4) a73 a73 d1 o1 d1 o1 rfl rfl P100) (t53 hw) (t54 hw) (t55 hw) (t56 hw) (by decide) (lenOf pd1 rfl) rfl rfl (by decide) (by decide) (by decide) (by decide) rfl ?_
        rintro _ _ ⟨rfl, rfl⟩
        refine go_more (k' := 5) (n' := 25) (by decide) (by decide) ?_
        refine go_if_ne c0_195 (fun b195 => ?_) (fun b195 => ?_)
        · exfalso
          simp only [own_bf0] at *
          omega
        · refine go_iload c0_198 rfl ?_
          refine go_push c0_200 ?_
          refine go_icmp_lt c0_201 (fun q => absurd q (by decide)) (fun _ => ?_)
          refine go_aload c0_204 rfl rfl ?_
          refine go_aload c0_206 rfl rfl ?_
          refine go_callS1 (y := x) (W := 0) (argsL := [(.ref a78), (.ref a73)]) (st := []) c0_208 (rm_lb l Z a0 hw h101 n0 _ (3) (4) a78 a73 d2 o2 d1 o1 rfl rfl P100) (t53 hw) (t54 hw) (t55 hw) (t56 hw) (by decide) (lenOf pd1 rfl) rfl rfl (by decide) (by decide) (by decide) (by decide) rfl ?_
          rintro _ _ ⟨rfl, rfl⟩
          refine go_more (k' := 5) (n' := 25) (by decide) (by decide) ?_
          refine go_if_ne c0_211 (fun b211 => ?_) (fun b211 => ?_)
          · exfalso
            simp only [own_bf0] at *
            omega
          · refine go_iload c0_214 rfl ?_
            refine go_push c0_216 ?_
            refine go_icmp_lt c0_217 (fun q => absurd q (by decide)) (fun _ => ?_)
            refine go_aload c0_220 rfl rfl ?_
            refine go_aload c0_222 rfl rfl ?_
            refine go_callS1 (y := x) (W := 0) (argsL := [(.ref a83), (.ref a73)]) (st := []) c0_224 (rm_lb l Z a0 hw h101 n0 _ (2) (4) a83 a73 d3 o3 d1 o1 rfl rfl P100) (t53 hw) (t54 hw) (t55 hw) (t56 hw) (by decide) (lenOf pd1 rfl) rfl rfl (by decide) (by decide) (by decide) (by decide) rfl ?_
            rintro _ _ ⟨rfl, rfl⟩
            refine go_more (k' := 5) (n' := 25) (by decide) (by decide) ?_
            refine go_if_ne c0_227 (fun b227 => ?_) (fun b227 => ?_)
            · exfalso
              simp only [own_bf0] at *
              omega
            · refine go_push c0_230 ?_
              refine go_goto c0_231 ?_
              refine go_istore c0_235 rfl rfl ?_
              dsimp only [setl]
              refine go_iload c0_237 rfl ?_
              refine go_if_eq c0_239 (fun q => absurd q (by decide)) (fun _ => ?_)
              refine go_iload c0_242 rfl ?_
              refine go_if_eq c0_244 (fun q => absurd q (by decide)) (fun _ => ?_)
              refine go_aload c0_247 rfl rfl ?_
              refine go_callV1 (y := x) (W := 0) (argsL := []) (st := []) c0_249 (rm_K1 l Z a0 hw h101 n0 _ a88 ha91 a73 _ 3 (by decide) P100) (P100.exa (i := 0) rfl) (t28 hw) (t29 hw) (fun _ q => notFace_of_selects (args := #[]) (mvT q (t31 hw))) (t31 hw) (t30 hw) (t19 hw) (t32 hw) (by decide) (lenOf pd4 rfl) rfl rfl (by decide) (by decide) (by decide) (by decide) rfl ?_
              rintro _ _ ⟨rfl, rfl⟩
              refine go_more (k' := 5) (n' := 25) (by decide) (by decide) ?_
              refine go_aload c0_252 rfl rfl ?_
              refine go_acmp_ne c0_254 rfl rfl (fun q => absurd rfl q) (fun _ => ?_)
              refine go_aload c0_257 rfl rfl ?_
              refine go_callV1 (y := x) (W := 0) (argsL := []) (st := []) c0_259 (rm_E l Z a0 hw h101 n0 _ a88 _ 3 P100) (P100.exa (i := 0) rfl) (t35 hw) (t36 hw) (fun _ q => notFace_of_selects (args := #[]) (mvT q (t38 hw))) (t38 hw) (t37 hw) (t19 hw) (t39 hw) (by decide) (lenOf pd5 rfl) rfl rfl (by decide) (by decide) (by decide) (by decide) rfl ?_
              rintro _ _ ⟨rfl, rfl⟩
              refine go_more (k' := 5) (n' := 25) (by decide) (by decide) ?_
              refine go_isI 0 (by decide) ?_
              refine go_if_ne c0_262 (fun q => absurd q (by decide)) (fun _ => ?_)
              refine go_push c0_265 ?_
              refine go_goto c0_266 ?_
              exact go_bret rfl c0_270 (by decide) (by decide) (by decide) ⟨_, rfl, rfl⟩
set_option maxRecDepth 65536 in
set_option maxHeartbeats 4000000 in
theorem comes_1 {Post : Tables → Env → Array Value → State → Outcome → State → Prop} (hpost : ∀ tb e args s v u, (limb_1_1.after args s (.returned v) u = true ∧ limb_1_2.after args s (.returned v) u = true ∧ True) → FrameEnd s (.returned v) u (Jvm.fieldLocs frame_1_writes args s ++ Jvm.arrayLocs frame_1_arrays args s ++ Jvm.staticLocs frame_1_statics s) 24 128 → Post tb e args s (.returned v) u) :
    ArmFor flags0 classFile x code maxLocals ret World_1 tables_1 room_1 Calls_1 rest_1 Pre_1 Post := by
  intro l hfl _ _ p e ha hc hk s m args below hf hA hF happ hP
  obtain ⟨hcalls, hrest, hpre⟩ := hP
  obtain ⟨-, -, -, hnamed, -, -, -, hat⟩ := (Spec.applies_iff hf).mp happ
  obtain ⟨hg, hn⟩ := and_e (Cond.before_iff.mp (show (Jvm.Cond.and given_1 narrow_1).before args s = true from hpre))
  obtain ⟨hct, hg0⟩ := and_e hg
  obtain ⟨ga0, hg1⟩ := and_e hg0
  obtain ⟨ga1, hg2⟩ := and_e hg1
  obtain ⟨ga2, hg3⟩ := and_e hg2
  obtain ⟨ga3, hg4⟩ := and_e hg3
  obtain ⟨ga4, hg5⟩ := and_e hg4
  have ga5 := hg5
  obtain ⟨w0, w1, w2, w3, w4, w5, rfl⟩ : ∃ w0 w1 w2 w3 w4 w5 : Value, args = #[w0, w1, w2, w3, w4, w5] := by
    have hs : args.size = 6 := by simpa [Cond.value, given_1] using hct
    obtain ⟨L⟩ := args
    match L, hs with
    | [w0, w1, w2, w3, w4, w5], _ => exact ⟨w0, w1, w2, w3, w4, w5, rfl⟩
  have hw := fun d (hd : d ∈ tables_1) => atoms_spec (ws := Jvm.Cond.code x code maxLocals ret :: tables_1) hat d (List.mem_cons_of_mem _ hd)
  have hfit : Fit s := fun {y c} hc i hi => by
    obtain ⟨ha, rfl⟩ := Array.getElem?_eq_some_iff.mp hc
    have q := List.all_eq_true.mp ((Array.all_eq_true_iff_forall_mem.mp hF) _ (Array.getElem_mem ha)) i (List.mem_range.mpr hi)
    simpa [Array.getElem?_eq_getElem hi] using q
  obtain ⟨i0, ei0⟩ := is_v ga0
  obtain rfl : w0 = (.int i0) := Option.some.inj ei0
  obtain ⟨i1, ei1⟩ := isL_v ga1
  obtain rfl : w1 = (.long i1) := Option.some.inj ei1
  obtain ⟨i2, ei2⟩ := isL_v ga2
  obtain rfl : w2 = (.long i2) := Option.some.inj ei2
  obtain ⟨i3, ei3⟩ := isL_v ga3
  obtain rfl : w3 = (.long i3) := Option.some.inj ei3
  obtain ⟨i4, ei4⟩ := isL_v ga4
  obtain rfl : w4 = (.long i4) := Option.some.inj ei4
  obtain ⟨i5, ei5⟩ := isL_v ga5
  obtain rfl : w5 = (.long i5) := Option.some.inj ei5
  have K := rm0 l s _ hw s.heap s.heap.size (Hp.start s) i0 i1 i2 i3 i4 i5
  obtain ⟨n, o, h1, h2, h3, v, L, rfl, ⟨⟨⟨w, rfl, rfl⟩, -⟩, N⟩, hq⟩ := K tables_1 p e ha hc hk s m _ below hf ((Spec.applies_iff_loose hf).mp happ).1 ⟨rfl, State.Warmed39.refl s, rfl⟩ trivial
  refine ⟨n, _, h1, h2, h3, hpost _ _ _ _ _ _ ⟨Cond.after_iff.mpr rfl, Cond.after_iff.mpr (eq_i res_at (Term.int_eval (1)) rfl), trivial⟩ ⟨hq.1, hq.2.1, (hq.2.2.sift fun y hy => Or.inr (N y hy)).mono (by decide) (by decide)⟩⟩
theorem main_1_1 : Claimed_1_1 := comes_1 fun _ _ _ _ _ _ h hF => ⟨h.1, hF⟩
theorem main_1_2 : Claimed_1_2 := comes_1 fun _ _ _ _ _ _ h hF => ⟨h.2.1, hF⟩
end Jvm.Pilot.@@N@@
namespace Jvm.Pilot.@@N@@
open Jvm Jvm.ClassFile Sem Op Lib Jvm.Free Jvm.Stand Jvm.Pilot.@@N@@.Jvm.D
/-! MADE BY PROGRAM (witnessworld.py) out of the Statement's table words and the real class files: 11 classes; the members and pool entries that the words name. The judged class is class 1, her method 1. -/
namespace start1
open Jvm.ClassFile
def u (s : String) : CpInfo := .utf8 (stringToUtf16 s)
/-- a pool by its gaps: so many unusable entries, then the entry; so many at the end -/
def gap : Nat → List CpInfo → List CpInfo
  | 0, r => r
  | n + 1, r => .unusable :: gap n r
def poolList (es : List (Nat × CpInfo)) (last : Nat) : List CpInfo := es.foldr (fun e r => gap e.1 (e.2 :: r)) (gap last [])
def pool (es : List (Nat × CpInfo)) (last : Nat) : Array CpInfo := ⟨poolList es last⟩
def fileOf (pool : Array CpInfo) (this : Nat) (attrs : Array Attribute := #[]) (ms : Array MethodInfo := #[]) (fl : Nat := 33) (sup : Nat := 0) (ifs : Array Nat := #[]) (fds : Array FieldInfo := #[]) : ClassFile where
  minorVersion := 0
  majorVersion := 65
  constantPool := pool
  accessFlags := fl
  thisClass := this
  superClass := sup
  interfaces := ifs
  fields := fds
  methods := ms
  attributes := attrs
def plain (name : String) (sup : Option ClassId) : Class where
  name := name
  kind := .ordinary
  loader := none
  accessFlags := 33
  super := sup
  interfaces := #[]
  cf := none
  fields := #[]
  methods := #[]
  instanceTypes := #[]
  staticTypes := #[]
  resolved := #[]
  callSites := []
  init := .initialized
  statics := none
  mirror := none

def pool0 : Array CpInfo := pool [(5, u "<init>"), (0, u "()V"), (1, .class_ 10), (1, u "java/lang/Object")] 113

def k0c0 : Code := { maxStack := 0, maxLocals := 1, code := object_method_1_code, exceptionTable := #[], attributes := #[] }
def k0m0 : Method := { name := "<init>", desc := "()V", sig := { parameters := [], returnType := none }, accessFlags := 1, code := some k0c0 }
/-- java/lang/Object -/
def k0 : Class := { plain "java/lang/Object" none with
  accessFlags := 33
  interfaces := #[]
  cf := some (fileOf pool0 8 #[] #[{ accessFlags := 1, nameIndex := 5, descriptorIndex := 6, attributes := #[] }] 33 0 #[] #[])
  fields := #[]
  methods := #[k0m0]
  instanceTypes := #[]
  staticTypes := #[]
  resolved := Array.replicate 124 none
  statics := none }

def pool1 : Array CpInfo := pool [(2, .class_ 4), (0, .nameAndType 5 6), (0, u "java/lang/Object"), (0, u "<init>"), (0, u "()V"), (0, .class_ 8), (0, u "com/example/umbrella_state/umbrellastate/runtime/Delivery"), (0, .methodref 7 10), (0, .nameAndType 5 11), (0, u "(Ljava/util/function/Consumer;Lcom/example/umbrella_state/umbrellastate/model/Message;JJ)V"), (0, .class_ 13), (0, u "com/example/umbrella_state/umbrellastate/runtime/DelayedDeliveries"), (0, .methodref 12 3), (0, .methodref 12 16), (0, .nameAndType 17 18), (0, u "add"), (0, u "(Lcom/example/umbrella_state/umbrellastate/runtime/Delivery;)V"), (0, .methodref 12 20), (0, .nameAndType 21 22), (0, u "peek"), (0, u "()Lcom/example/umbrella_state/umbrellastate/runtime/Delivery;"), (0, .methodref 12 24), (0, .nameAndType 25 26), (0, u "isEmpty"), (0, u "()Z"), (0, .methodref 28 29), (0, .class_ 30), (0, .nameAndType 31 32), (0, u "com/example/umbrella_state/umbrellastate/runtime/DelayedDeliveriesPeekPinLaw"), (0, u "before"), (0, u "(Lcom/example/umbrella_state/umbrellastate/runtime/Delivery;Lcom/example/umbrella_state/umbrellastate/runtime/Delivery;)Z"), (0, .fieldref 7 34), (0, .nameAndType 35 36), (0, u "due"), (0, u "J"), (0, .fieldref 7 38), (0, .nameAndType 39 36), (0, u "order"), (2, u "law"), (0, u "(IJJJJJ)Z")] 3

def k1m0 : Method := { name := "<init>", desc := "()V", sig := { parameters := [], returnType := none }, accessFlags := 1, code := none }
def k1c1 : Code := { maxStack := 8, maxLocals := 21, code := code, exceptionTable := #[], attributes := #[] }
def k1m1 : Method := { name := "law", desc := "(IJJJJJ)Z", sig := { parameters := [.int, .long, .long, .long, .long, .long], returnType := some .boolean }, accessFlags := 9, code := some k1c1 }
def k1c2 : Code := { maxStack := 4, maxLocals := 2, code := method_3_code, exceptionTable := #[], attributes := #[] }
def k1m2 : Method := { name := "before", desc := "(Lcom/example/umbrella_state/umbrellastate/runtime/Delivery;Lcom/example/umbrella_state/umbrellastate/runtime/Delivery;)Z", sig := { parameters := [(.object "com/example/umbrella_state/umbrellastate/runtime/Delivery"), (.object "com/example/umbrella_state/umbrellastate/runtime/Delivery")], returnType := some .boolean }, accessFlags := 10, code := some k1c2 }
/-- com/example/umbrella_state/umbrellastate/runtime/DelayedDeliveriesPeekPinLaw -/
def k1 : Class := { plain "com/example/umbrella_state/umbrellastate/runtime/DelayedDeliveriesPeekPinLaw" (some 0) with
  accessFlags := 49
  interfaces := #[]
  cf := some (fileOf pool1 28 #[] #[{ accessFlags := 1, nameIndex := 5, descriptorIndex := 6, attributes := #[] }, { accessFlags := 9, nameIndex := 42, descriptorIndex := 43, attributes := #[] }, { accessFlags := 10, nameIndex := 31, descriptorIndex := 32, attributes := #[] }] 49 2 #[] #[])
  fields := #[]
  methods := #[k1m0, k1m1, k1m2]
  instanceTypes := #[]
  staticTypes := #[]
  resolved := Array.replicate 47 none
  statics := none }

def pool2 : Array CpInfo := pool [(3, .methodref 4 5), (0, .class_ 6), (0, .nameAndType 7 8), (0, u "java/lang/Object"), (0, u "<init>"), (0, u "()V"), (0, .fieldref 10 11), (0, .class_ 12), (0, .nameAndType 13 14), (0, u "com/example/umbrella_state/umbrellastate/runtime/Delivery"), (0, u "handler"), (0, u "Ljava/util/function/Consumer;"), (0, .fieldref 10 16), (0, .nameAndType 17 18), (0, u "message"), (0, u "Lcom/example/umbrella_state/umbrellastate/model/Message;"), (0, .fieldref 10 20), (0, .nameAndType 21 22), (0, u "due"), (0, u "J"), (0, .fieldref 10 24), (0, .nameAndType 25 22), (0, u "order"), (2, u "(Ljava/util/function/Consumer;Lcom/example/umbrella_state/umbrellastate/model/Message;JJ)V"), (17, u "withdrawn"), (0, u "Z"), (0, u "EARLIEST")] 22

def k2c0 : Code := { maxStack := 3, maxLocals := 7, code := prog_54_method_1_code, exceptionTable := #[], attributes := #[] }
def k2m0 : Method := { name := "<init>", desc := "(Ljava/util/function/Consumer;Lcom/example/umbrella_state/umbrellastate/model/Message;JJ)V", sig := { parameters := [(.object "java/util/function/Consumer"), (.object "com/example/umbrella_state/umbrellastate/model/Message"), .long, .long], returnType := none }, accessFlags := 0, code := some k2c0 }
/-- com/example/umbrella_state/umbrellastate/runtime/Delivery -/
def k2 : Class := { plain "com/example/umbrella_state/umbrellastate/runtime/Delivery" (some 0) with
  accessFlags := 32
  interfaces := #[]
  cf := some (fileOf pool2 10 #[] #[{ accessFlags := 0, nameIndex := 7, descriptorIndex := 28, attributes := #[] }] 32 4 #[] #[{ accessFlags := 24, nameIndex := 48, descriptorIndex := 22, attributes := #[] }, { accessFlags := 2, nameIndex := 13, descriptorIndex := 14, attributes := #[] }, { accessFlags := 2, nameIndex := 17, descriptorIndex := 18, attributes := #[] }, { accessFlags := 16, nameIndex := 21, descriptorIndex := 22, attributes := #[] }, { accessFlags := 16, nameIndex := 25, descriptorIndex := 22, attributes := #[] }, { accessFlags := 66, nameIndex := 46, descriptorIndex := 47, attributes := #[] }])
  fields := #[{ name := "EARLIEST", type := .long, accessFlags := 24, slot := 0, constantValue := 0 }, { name := "handler", type := (.object "java/util/function/Consumer"), accessFlags := 2, slot := 0, constantValue := 0 }, { name := "message", type := (.object "com/example/umbrella_state/umbrellastate/model/Message"), accessFlags := 2, slot := 1, constantValue := 0 }, { name := "due", type := .long, accessFlags := 16, slot := 2, constantValue := 0 }, { name := "order", type := .long, accessFlags := 16, slot := 3, constantValue := 0 }, { name := "withdrawn", type := .boolean, accessFlags := 66, slot := 4, constantValue := 0 }]
  methods := #[k2m0]
  instanceTypes := #[(.object "java/util/function/Consumer"), (.object "com/example/umbrella_state/umbrellastate/model/Message"), .long, .long, .boolean]
  staticTypes := #[.long]
  resolved := Array.replicate 71 none
  statics := none }

def pool3 : Array CpInfo := pool [(1, .methodref 2 3), (0, .class_ 4), (0, .nameAndType 5 6), (0, u "java/lang/Object"), (0, u "<init>"), (0, u "()V"), (0, .class_ 8), (0, u "com/example/umbrella_state/umbrellastate/runtime/Delivery"), (0, .fieldref 10 11), (0, .class_ 12), (0, .nameAndType 13 14), (0, u "com/example/umbrella_state/umbrellastate/runtime/DelayedDeliveries"), (0, u "heap"), (0, u "[Lcom/example/umbrella_state/umbrellastate/runtime/Delivery;"), (0, .fieldref 10 16), (0, .nameAndType 17 18), (0, u "size"), (0, u "I"), (7, .methodref 10 27), (0, .nameAndType 28 29), (0, u "parentOf"), (0, u "(I)I"), (0, .methodref 10 31), (0, .nameAndType 32 33), (0, u "goesBefore"), (0, u "(Lcom/example/umbrella_state/umbrellastate/runtime/Delivery;Lcom/example/umbrella_state/umbrellastate/runtime/Delivery;)Z"), (20, .fieldref 7 55), (0, .nameAndType 56 57), (0, u "due"), (0, u "J"), (0, .fieldref 7 59), (0, .nameAndType 60 57), (0, u "order"), (2, u "isEmpty"), (0, u "()Z"), (1, u "peek"), (0, u "()Lcom/example/umbrella_state/umbrellastate/runtime/Delivery;"), (0, u "add"), (0, u "(Lcom/example/umbrella_state/umbrellastate/runtime/Delivery;)V")] 8

def k3c0 : Code := { maxStack := 2, maxLocals := 1, code := prog_52_method_1_code, exceptionTable := #[], attributes := #[] }
def k3m0 : Method := { name := "<init>", desc := "()V", sig := { parameters := [], returnType := none }, accessFlags := 0, code := some k3c0 }
def k3c1 : Code := { maxStack := 1, maxLocals := 1, code := prog_52_method_2_code, exceptionTable := #[], attributes := #[] }
def k3m1 : Method := { name := "isEmpty", desc := "()Z", sig := { parameters := [], returnType := some .boolean }, accessFlags := 0, code := some k3c1 }
def k3c2 : Code := { maxStack := 2, maxLocals := 1, code := prog_52_method_3_code, exceptionTable := #[], attributes := #[] }
def k3m2 : Method := { name := "peek", desc := "()Lcom/example/umbrella_state/umbrellastate/runtime/Delivery;", sig := { parameters := [], returnType := some (.object "com/example/umbrella_state/umbrellastate/runtime/Delivery") }, accessFlags := 0, code := some k3c2 }
def k3c3 : Code := { maxStack := 4, maxLocals := 5, code := prog_52_method_4_code, exceptionTable := #[], attributes := #[] }
def k3m3 : Method := { name := "add", desc := "(Lcom/example/umbrella_state/umbrellastate/runtime/Delivery;)V", sig := { parameters := [(.object "com/example/umbrella_state/umbrellastate/runtime/Delivery")], returnType := none }, accessFlags := 0, code := some k3c3 }
def k3c4 : Code := { maxStack := 4, maxLocals := 2, code := prog_52_method_10_code, exceptionTable := #[], attributes := #[] }
def k3m4 : Method := { name := "goesBefore", desc := "(Lcom/example/umbrella_state/umbrellastate/runtime/Delivery;Lcom/example/umbrella_state/umbrellastate/runtime/Delivery;)Z", sig := { parameters := [(.object "com/example/umbrella_state/umbrellastate/runtime/Delivery"), (.object "com/example/umbrella_state/umbrellastate/runtime/Delivery")], returnType := some .boolean }, accessFlags := 10, code := some k3c4 }
def k3c5 : Code := { maxStack := 2, maxLocals := 1, code := prog_52_method_11_code, exceptionTable := #[], attributes := #[] }
def k3m5 : Method := { name := "parentOf", desc := "(I)I", sig := { parameters := [.int], returnType := some .int }, accessFlags := 10, code := some k3c5 }
/-- com/example/umbrella_state/umbrellastate/runtime/DelayedDeliveries -/
def k3 : Class := { plain "com/example/umbrella_state/umbrellastate/runtime/DelayedDeliveries" (some 0) with
  accessFlags := 32
  interfaces := #[]
  cf := some (fileOf pool3 10 #[] #[{ accessFlags := 0, nameIndex := 5, descriptorIndex := 6, attributes := #[] }, { accessFlags := 0, nameIndex := 63, descriptorIndex := 64, attributes := #[] }, { accessFlags := 0, nameIndex := 66, descriptorIndex := 67, attributes := #[] }, { accessFlags := 0, nameIndex := 68, descriptorIndex := 69, attributes := #[] }, { accessFlags := 10, nameIndex := 32, descriptorIndex := 33, attributes := #[] }, { accessFlags := 10, nameIndex := 28, descriptorIndex := 29, attributes := #[] }] 32 2 #[] #[{ accessFlags := 2, nameIndex := 13, descriptorIndex := 14, attributes := #[] }, { accessFlags := 2, nameIndex := 17, descriptorIndex := 18, attributes := #[] }])
  fields := #[{ name := "heap", type := (.array (.object "com/example/umbrella_state/umbrellastate/runtime/Delivery")), accessFlags := 2, slot := 0, constantValue := 0 }, { name := "size", type := .int, accessFlags := 2, slot := 1, constantValue := 0 }]
  methods := #[k3m0, k3m1, k3m2, k3m3, k3m4, k3m5]
  instanceTypes := #[(.array (.object "com/example/umbrella_state/umbrellastate/runtime/Delivery")), .int]
  staticTypes := #[]
  resolved := Array.replicate 78 none
  statics := none }

def pool4 : Array CpInfo := pool [(1, u "java/lang/Cloneable"), (0, .class_ 1), (0, u "java/lang/Object"), (0, .class_ 3)] 3

/-- java/lang/Cloneable -/
def k4 : Class := { plain "java/lang/Cloneable" (some 0) with
  accessFlags := 1537
  interfaces := #[]
  cf := some (fileOf pool4 2 #[] #[] 1537 4 #[] #[])
  fields := #[]
  methods := #[]
  instanceTypes := #[]
  staticTypes := #[]
  resolved := Array.replicate 8 none
  statics := none }

def pool5 : Array CpInfo := pool [(1, u "java/io/Serializable"), (0, .class_ 1), (0, u "java/lang/Object"), (0, .class_ 3)] 3

/-- java/io/Serializable -/
def k5 : Class := { plain "java/io/Serializable" (some 0) with
  accessFlags := 1537
  interfaces := #[]
  cf := some (fileOf pool5 2 #[] #[] 1537 4 #[] #[])
  fields := #[]
  methods := #[]
  instanceTypes := #[]
  staticTypes := #[]
  resolved := Array.replicate 8 none
  statics := none }

/-- the primitive byte -/
def k6 : Class := { plain "byte" none with kind := .primitive 'B', accessFlags := 0x411 }
/-- [B -/
def k7 : Class := { plain "[B" (some 0) with kind := .array 6 .byte, interfaces := #[4, 5], accessFlags := 1041 }

/-- the primitive int -/
def k8 : Class := { plain "int" none with kind := .primitive 'I', accessFlags := 0x411 }
/-- [I -/
def k9 : Class := { plain "[I" (some 0) with kind := .array 8 .int, interfaces := #[4, 5], accessFlags := 1041 }

/-- [Lcom/example/umbrella_state/umbrellastate/runtime/Delivery; -/
def k10 : Class := { plain "[Lcom/example/umbrella_state/umbrellastate/runtime/Delivery;" (some 0) with kind := .array 2 (.object "com/example/umbrella_state/umbrellastate/runtime/Delivery"), interfaces := #[4, 5], accessFlags := 1041 }

def heap : Heap := #[]
def classes : Array Class := #[k0, k1, k2, k3, k4, k5, k6, k7, k8, k9, k10]
def interned : List (Array UInt16 × Addr) := []
def slotsUsed : Nat := 0
def theMethod : MethodId := ⟨1, 1⟩
def args0 : Array Value := #[.int 5, .long 5, .long 5, .long 5, .long 5, .long 5]
def aboutOver (below : List Frame) : State where
  vm := { classes := classes, interned := interned.toArray }
  heap := heap
  slotsUsed := slotsUsed
  threads := #[{ frames := .invoking theMethod args0 :: below }]
def below0 : List Frame := [.native { method := ⟨0, 0⟩, args := #[] }]
def about1 : State := aboutOver below0
def p0 : Program := .bare "" "" ""
def e0 : Env := launch0.env 0 0 0
theorem w_frames : about1.frames = Frame.invoking theMethod args0 :: below0 := rfl
set_option maxRecDepth 65536 in
theorem w_args : argsFit about1.vm theMethod args0 = true := by decide +kernel
set_option maxRecDepth 65536 in
theorem w_heap : heapFits about1 = true := by decide +kernel
set_option maxRecDepth 65536 in
theorem w_runnable : about1.curStatus? = some .runnable := by decide +kernel
set_option maxRecDepth 65536 in
theorem w_alone : about1.alone = true := by decide +kernel
set_option maxRecDepth 65536 in
theorem w_named : about1.methodNamed? x = some theMethod := by decide +kernel
set_option maxRecDepth 65536 in
theorem w_hears : about1.hears theMethod below0 = true := by decide +kernel
set_option maxRecDepth 65536 in
theorem w_ripe : about1.ripe theMethod args0 below0 = true := by decide +kernel
theorem w_running : about1.status = .running := rfl
set_option maxRecDepth 65536 in
theorem w_room : about1.hasRoom e0.platform room_1 = true :=
  launch0.hasRoom_least _ room_1 (by decide +kernel) (by decide +kernel) (by decide +kernel) (by decide +kernel) (by decide +kernel) (by decide +kernel)
theorem allAtoms_all (ts : List Jvm.Cond) (a : Array Jvm.Value) (st : Jvm.State) : (allAtoms ts).before a st = ts.all (fun c => c.before a st) := by
  induction ts with
  | nil => rfl
  | cons c t ih =>
    show (Jvm.Cond.and c (allAtoms t)).before a st = _
    rw [Jvm.Cond.before_and, ih, List.all_cons]
def words1 : List Jvm.Cond := Jvm.Cond.code x code maxLocals ret :: tables_1
/-- a 'code' word, met by the world's own term for the bytes: nothing is compared byte by byte -/
theorem code_word {y : MethodName} {bytes : ByteArray} {mx : Nat} {rt : Option FieldType} {a : Array Value} {s : State} {m : MethodId} {meth : Method} {c : Code} (h1 : s.methodNamed? y = some m) (h2 : s.vm.method? m = some meth) (h3 : meth.code = some c) (h4 : c.code = bytes)
    (h5 : (c.maxLocals == mx && c.exceptionTable.isEmpty && decide (c.maxStack ≤ mostOperands) && decide (meth.sig.returnType = rt) && !meth.locks && decide (parseMethodDescriptor y.desc = some meth.sig)) = true) : (Jvm.Cond.code y bytes mx rt).before a s = true := by
  simp only [Bool.and_eq_true, beq_iff_eq, Bool.not_eq_true', decide_eq_true_eq] at h5
  obtain ⟨⟨⟨⟨⟨g1, g2⟩, g3⟩, g4⟩, g5⟩, g6⟩ := h5
  simp [Cond.before, Cond.holds, Cond.value, h1, h2, h3, h4, g1, g2, g3, g4, g5, g6]
def isCode : Jvm.Cond → Bool
  | .code _ _ _ _ => true
  | _ => false
theorem all_split {L : List Jvm.Cond} {P : Jvm.Cond → Bool} (h1 : L.all (fun c => isCode c || P c) = true) (h2 : ∀ c ∈ L.filter isCode, P c = true) : L.all P = true := by
  refine List.all_eq_true.mpr fun c hc => ?_
  have h := List.all_eq_true.mp h1 c hc
  rcases Bool.eq_false_or_eq_true (isCode c) with hi | hi
  · exact h2 c (List.mem_filter.mpr ⟨hc, hi⟩)
  · simpa [hi] using h
set_option maxRecDepth 65536 in
theorem w_c0 : (Jvm.Cond.code x code maxLocals ret).before args0 about1 = true := code_word (m := ⟨1, 1⟩) (meth := k1m1) (c := k1c1) (by decide +kernel) rfl rfl rfl (by decide +kernel)
set_option maxRecDepth 65536 in
theorem w_c1 : (Jvm.Cond.code ({ cls := "com/example/umbrella_state/umbrellastate/runtime/Delivery", name := "<init>", desc := "(Ljava/util/function/Consumer;Lcom/example/umbrella_state/umbrellastate/model/Message;JJ)V" } : Jvm.MethodName) prog_54_method_1_code (7 : Nat) (Option.none : Option Jvm.ClassFile.FieldType)).before args0 about1 = true := code_word (m := ⟨2, 0⟩) (meth := k2m0) (c := k2c0) (by decide +kernel) rfl rfl rfl (by decide +kernel)
set_option maxRecDepth 65536 in
theorem w_c2 : (Jvm.Cond.code ({ cls := "java/lang/Object", name := "<init>", desc := "()V" } : Jvm.MethodName) object_method_1_code (1 : Nat) (Option.none : Option Jvm.ClassFile.FieldType)).before args0 about1 = true := code_word (m := ⟨0, 0⟩) (meth := k0m0) (c := k0c0) (by decide +kernel) rfl rfl rfl (by decide +kernel)
set_option maxRecDepth 65536 in
theorem w_c3 : (Jvm.Cond.code ({ cls := "com/example/umbrella_state/umbrellastate/runtime/DelayedDeliveries", name := "<init>", desc := "()V" } : Jvm.MethodName) prog_52_method_1_code (1 : Nat) (Option.none : Option Jvm.ClassFile.FieldType)).before args0 about1 = true := code_word (m := ⟨3, 0⟩) (meth := k3m0) (c := k3c0) (by decide +kernel) rfl rfl rfl (by decide +kernel)
set_option maxRecDepth 65536 in
theorem w_c4 : (Jvm.Cond.code ({ cls := "com/example/umbrella_state/umbrellastate/runtime/DelayedDeliveries", name := "peek", desc := "()Lcom/example/umbrella_state/umbrellastate/runtime/Delivery;" } : Jvm.MethodName) prog_52_method_3_code (1 : Nat) (Option.some (Jvm.ClassFile.FieldType.object "com/example/umbrella_state/umbrellastate/runtime/Delivery"))).before args0 about1 = true := code_word (m := ⟨3, 2⟩) (meth := k3m2) (c := k3c2) (by decide +kernel) rfl rfl rfl (by decide +kernel)
set_option maxRecDepth 65536 in
theorem w_c5 : (Jvm.Cond.code ({ cls := "com/example/umbrella_state/umbrellastate/runtime/DelayedDeliveries", name := "isEmpty", desc := "()Z" } : Jvm.MethodName) prog_52_method_2_code (1 : Nat) (Option.some Jvm.ClassFile.FieldType.boolean)).before args0 about1 = true := code_word (m := ⟨3, 1⟩) (meth := k3m1) (c := k3c1) (by decide +kernel) rfl rfl rfl (by decide +kernel)
set_option maxRecDepth 65536 in
theorem w_c6 : (Jvm.Cond.code ({ cls := "com/example/umbrella_state/umbrellastate/runtime/DelayedDeliveries", name := "add", desc := "(Lcom/example/umbrella_state/umbrellastate/runtime/Delivery;)V" } : Jvm.MethodName) prog_52_method_4_code (5 : Nat) (Option.none : Option Jvm.ClassFile.FieldType)).before args0 about1 = true := code_word (m := ⟨3, 3⟩) (meth := k3m3) (c := k3c3) (by decide +kernel) rfl rfl rfl (by decide +kernel)
set_option maxRecDepth 65536 in
theorem w_c7 : (Jvm.Cond.code ({ cls := "com/example/umbrella_state/umbrellastate/runtime/DelayedDeliveries", name := "parentOf", desc := "(I)I" } : Jvm.MethodName) prog_52_method_11_code (1 : Nat) (Option.some Jvm.ClassFile.FieldType.int)).before args0 about1 = true := code_word (m := ⟨3, 5⟩) (meth := k3m5) (c := k3c5) (by decide +kernel) rfl rfl rfl (by decide +kernel)
set_option maxRecDepth 65536 in
theorem w_c8 : (Jvm.Cond.code ({ cls := "com/example/umbrella_state/umbrellastate/runtime/DelayedDeliveries", name := "goesBefore", desc := "(Lcom/example/umbrella_state/umbrellastate/runtime/Delivery;Lcom/example/umbrella_state/umbrellastate/runtime/Delivery;)Z" } : Jvm.MethodName) prog_52_method_10_code (2 : Nat) (Option.some Jvm.ClassFile.FieldType.boolean)).before args0 about1 = true := code_word (m := ⟨3, 4⟩) (meth := k3m4) (c := k3c4) (by decide +kernel) rfl rfl rfl (by decide +kernel)
set_option maxRecDepth 65536 in
theorem w_c9 : (Jvm.Cond.code ({ cls := "com/example/umbrella_state/umbrellastate/runtime/DelayedDeliveriesPeekPinLaw", name := "before", desc := "(Lcom/example/umbrella_state/umbrellastate/runtime/Delivery;Lcom/example/umbrella_state/umbrellastate/runtime/Delivery;)Z" } : Jvm.MethodName) method_3_code (2 : Nat) (Option.some Jvm.ClassFile.FieldType.boolean)).before args0 about1 = true := code_word (m := ⟨1, 2⟩) (meth := k1m2) (c := k1c2) (by decide +kernel) rfl rfl rfl (by decide +kernel)
def codes1 : List Jvm.Cond := [Jvm.Cond.code x code maxLocals ret, Jvm.Cond.code ({ cls := "com/example/umbrella_state/umbrellastate/runtime/Delivery", name := "<init>", desc := "(Ljava/util/function/Consumer;Lcom/example/umbrella_state/umbrellastate/model/Message;JJ)V" } : Jvm.MethodName) prog_54_method_1_code (7 : Nat) (Option.none : Option Jvm.ClassFile.FieldType), Jvm.Cond.code ({ cls := "java/lang/Object", name := "<init>", desc := "()V" } : Jvm.MethodName) object_method_1_code (1 : Nat) (Option.none : Option Jvm.ClassFile.FieldType), Jvm.Cond.code ({ cls := "com/example/umbrella_state/umbrellastate/runtime/DelayedDeliveries", name := "<init>", desc := "()V" } : Jvm.MethodName) prog_52_method_1_code (1 : Nat) (Option.none : Option Jvm.ClassFile.FieldType), Jvm.Cond.code ({ cls := "com/example/umbrella_state/umbrellastate/runtime/DelayedDeliveries", name := "peek", desc := "()Lcom/example/umbrella_state/umbrellastate/runtime/Delivery;" } : Jvm.MethodName) prog_52_method_3_code (1 : Nat) (Option.some (Jvm.ClassFile.FieldType.object "com/example/umbrella_state/umbrellastate/runtime/Delivery")), Jvm.Cond.code ({ cls := "com/example/umbrella_state/umbrellastate/runtime/DelayedDeliveries", name := "isEmpty", desc := "()Z" } : Jvm.MethodName) prog_52_method_2_code (1 : Nat) (Option.some Jvm.ClassFile.FieldType.boolean), Jvm.Cond.code ({ cls := "com/example/umbrella_state/umbrellastate/runtime/DelayedDeliveries", name := "add", desc := "(Lcom/example/umbrella_state/umbrellastate/runtime/Delivery;)V" } : Jvm.MethodName) prog_52_method_4_code (5 : Nat) (Option.none : Option Jvm.ClassFile.FieldType), Jvm.Cond.code ({ cls := "com/example/umbrella_state/umbrellastate/runtime/DelayedDeliveries", name := "parentOf", desc := "(I)I" } : Jvm.MethodName) prog_52_method_11_code (1 : Nat) (Option.some Jvm.ClassFile.FieldType.int), Jvm.Cond.code ({ cls := "com/example/umbrella_state/umbrellastate/runtime/DelayedDeliveries", name := "goesBefore", desc := "(Lcom/example/umbrella_state/umbrellastate/runtime/Delivery;Lcom/example/umbrella_state/umbrellastate/runtime/Delivery;)Z" } : Jvm.MethodName) prog_52_method_10_code (2 : Nat) (Option.some Jvm.ClassFile.FieldType.boolean), Jvm.Cond.code ({ cls := "com/example/umbrella_state/umbrellastate/runtime/DelayedDeliveriesPeekPinLaw", name := "before", desc := "(Lcom/example/umbrella_state/umbrellastate/runtime/Delivery;Lcom/example/umbrella_state/umbrellastate/runtime/Delivery;)Z" } : Jvm.MethodName) method_3_code (2 : Nat) (Option.some Jvm.ClassFile.FieldType.boolean)]
set_option maxRecDepth 65536 in
theorem codes_eq : words1.filter isCode = codes1 := rfl
theorem w_codes : ∀ c ∈ words1.filter isCode, c.before args0 about1 = true := by
  rw [codes_eq]
  intro c hc
  simp only [codes1, List.mem_cons, List.not_mem_nil, or_false] at hc
  rcases hc with rfl | rfl | rfl | rfl | rfl | rfl | rfl | rfl | rfl | rfl
  · exact w_c0
  · exact w_c1
  · exact w_c2
  · exact w_c3
  · exact w_c4
  · exact w_c5
  · exact w_c6
  · exact w_c7
  · exact w_c8
  · exact w_c9
set_option maxRecDepth 65536 in
theorem w_t1 : (words1.take 24).all (fun c => isCode c || c.before args0 about1) = true := by decide +kernel
set_option maxRecDepth 65536 in
theorem w_t2 : ((words1.drop 24).take 24).all (fun c => isCode c || c.before args0 about1) = true := by decide +kernel
set_option maxRecDepth 65536 in
theorem w_t3 : ((words1.drop 24).drop 24).all (fun c => isCode c || c.before args0 about1) = true := by decide +kernel
theorem w_tables : (allAtoms (Jvm.Cond.code x code maxLocals ret :: tables_1)).before args0 about1 = true := by
  rw [allAtoms_all]
  show words1.all (fun c => c.before args0 about1) = true
  refine all_split ?_ w_codes
  rw [← List.take_append_drop 24 words1, List.all_append, w_t1, ← List.take_append_drop 24 (words1.drop 24), List.all_append, w_t2, w_t3]
  rfl
set_option maxRecDepth 65536 in
theorem w_case : (Jvm.Cond.and given_1 narrow_1).before args0 about1 = true := by decide +kernel
theorem w_applies : (headSpec (Jvm.Cond.code x code maxLocals ret :: tables_1) room_1).applies x e0.platform about1 = true :=
  (Spec.applies_iff w_frames).mpr ⟨w_running, w_runnable, w_alone, w_named, w_hears, w_ripe, w_room, w_tables⟩
theorem atStart : AtStart classFile x code maxLocals ret World_1 tables_1 room_1 Calls_1 rest_1 Pre_1 launch0 p0 e0 about1 theMethod args0 below0 :=
  ⟨lists_1, trivial, launch0.admits_env _ _ _, launch0.least_env, fairChoices_fair.cas, fairChoices_fair.clock, w_frames, w_args, w_heap, w_applies, trivial, trivial, w_case⟩
end start1
theorem witness_1 : WitnessClaimed_1 := ⟨start1.p0, start1.e0, start1.about1, start1.theMethod, start1.args0, start1.below0, start1.atStart⟩
end Jvm.Pilot.@@N@@
