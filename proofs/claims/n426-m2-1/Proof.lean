import JvmDerived
import JvmDerived.Pilot.@@N@@Statement
import JvmDerived.Pilot.@@N@@Code
set_option linter.unusedVariables false
set_option linter.unusedSimpArgs false
@@BLOCK:NumsL.lean.txt@@
@@BLOCK:Masks.lean.txt@@
namespace Jvm.Own
open Sem ClassFile Op Lib Jvm.Stand Jvm.Free Jvm.LawKit Jvm.RoadKit
/-! ## A program logic over an abstract heap: references count from the start's heap size. -/
def cv (k : Nat) : Value → Value
  | .ref i => .ref (k + i)
  | v => v
def cs (k : Nat) : Slot → Slot
  | .val v => .val (cv k v)
  | .unset => .unset
  | .second => .second
theorem cv_cat (k : Nat) (v : Value) : (cv k v).category = v.category := by cases v <;> rfl
theorem cv_isRef (k : Nat) (v : Value) : (cv k v).isRef = v.isRef := by cases v <;> rfl
theorem cv_fits (k : Nat) (t : FieldType) (v : Value) : fits t (cv k v) = fits t v := by cases v <;> cases t <;> rfl
theorem cv_narrow (k : Nat) (t : FieldType) (v : Value) : narrow t (cv k v) = cv k (narrow t v) := by cases v <;> cases t <;> rfl
theorem cv_default (k : Nat) (t : FieldType) : cv k (defaultValue t) = defaultValue t := by cases t <;> rfl
theorem cat_map (k : Nat) (S : List Value) : ((S.map (cv k)).map fun v => v.category) = S.map fun v => v.category := by
  rw [List.map_map]; exact List.map_congr_left fun v _ => cv_cat k v
/-- an object: the number of its class, its fields' values; or an array: its kind, its values -/
abbrev ACell := (Nat × List Value) ⊕ (FieldType × List Value)
abbrev AHeap := List ACell
/-- the classes: name, slots, fields (declaring class, name, descriptor, type) -/
abbrev KTab := List (String × Nat × List (String × String × String × FieldType))
/-- a method: name, bytes, max_locals, return type -/
abbrev Mth := MethodName × ByteArray × Nat × Option FieldType
def CellOk (Z : State) (K : KTab) (h : Heap) (a : Addr) : ACell → Prop
  | .inl (c, vs) => ∃ (C : String) (n : Nat) (fs : List (String × String × String × FieldType)), K[c]? = some (C, n, fs) ∧ vs.length = fs.length ∧ Exa Z h a C ∧ ∀ (j : Nat) (f : String × String × String × FieldType) (v : Value), fs[j]? = some f → vs[j]? = some v → Fld Z h a f.1 f.2.1 f.2.2.1 (cv Z.heap.size v)
  | .inr (ty, vs) => ∃ cell : Cell, Arr Z h a cell ty ∧ cell.slots = (vs.map (cv Z.heap.size)).toArray ∧ ∀ v ∈ vs, fits ty v = true
def Rel (Z : State) (K : KTab) (h : Heap) (H : AHeap) : Prop :=
  h.size = Z.heap.size + H.length ∧ ∀ (i : Nat) (c : ACell), H[i]? = some c → CellOk Z K h (Z.heap.size + i) c
def FOk (tb : List Cond) (C : String) (f : String × String × String × FieldType) : Prop :=
  (Cond.lays C f.1 f.2.1 f.2.2.1 ∈ tb ∨ Cond.laysFinal C f.1 f.2.1 f.2.2.1 ∈ tb) ∧ parseFieldDescriptor f.2.2.1 = some f.2.2.2
def KOk (tb : List Cond) (K : KTab) : Prop :=
  ∀ q ∈ K, Cond.instantiable q.1 q.2.1 ∈ tb ∧ (∀ f ∈ q.2.2, FOk tb q.1 f) ∧ (q.2.2.map fun f => f.2.1).Nodup
theorem KOk.nil {tb : List Cond} : KOk tb [] := fun _ h => nomatch h
theorem KOk.cons {tb : List Cond} {K : KTab} {q : String × Nat × List (String × String × String × FieldType)} (h1 : Cond.instantiable q.1 q.2.1 ∈ tb) (h2 : ∀ f ∈ q.2.2, FOk tb q.1 f) (h3 : (q.2.2.map fun f => f.2.1).Nodup) (h : KOk tb K) : KOk tb (q :: K) := fun x hx => by
  rcases List.mem_cons.mp hx with rfl | hx
  · exact ⟨h1, h2, h3⟩
  · exact h x hx
theorem fok0 {tb : List Cond} {C : String} : ∀ f ∈ ([] : List (String × String × String × FieldType)), FOk tb C f := fun _ h => nomatch h
theorem fokS {tb : List Cond} {C : String} {g : String × String × String × FieldType} {L : List (String × String × String × FieldType)} (h1 : FOk tb C g) (h2 : ∀ f ∈ L, FOk tb C f) : ∀ f ∈ g :: L, FOk tb C f := fun f hf => by
  rcases List.mem_cons.mp hf with rfl | hf
  · exact h1
  · exact h2 f hf
/-- where a walk stands -/
def Here (tb : List Cond) (K : KTab) (μ : Mth) (rm : Room) (H : AHeap) (Z : State) (a0 : Array Value) (p : Program) (l : Launch) (e : Env) (R : Room) (s : State) (m : MethodId) (args : Array Value) (below : List Frame) (meth : Method) (c : Code)
    (T : State) (locs : List Loc) (cells slots : Nat) : Prop :=
  Stand p l e R s m args below meth c T locs cells slots ∧ p.tables.exec = Jvm.exec ∧ Z.Warmed39 s.vm ∧ (∀ d ∈ tb, d.before a0 Z = true) ∧ c.code = μ.2.1 ∧ c.maxLocals = μ.2.2.1 ∧ meth.sig.returnType = μ.2.2.2 ∧ meth.name = μ.1.name ∧ meth.locks = false ∧
    s.vm.findClass μ.1.cls = some m.cls ∧ Rel Z K T.heap H ∧ Fr Z.heap.size locs ∧ rm.frames ≤ R.frames ∧ cells + rm.cells ≤ R.cells ∧ slots + rm.slots ≤ R.slots ∧ rm.locals ≤ R.locals
/-- how it ends -/
def Ends (K : KTab) (Q : Option Value → AHeap → Prop) (Z : State) (p : Program) (e : Env) (R : Room) (s : State) (below : List Frame) (T0 : State) : Prop :=
  ∃ (v : Option Value) (H' : AHeap) (T : State) (locs : List Loc) (fs : List Frame), Q v H' ∧ Steps p.tables e below T0 (T.setFrames fs) ∧ (T.setFrames fs).status = .running ∧ Ended (T.setFrames fs) below (.returned (v.map (cv Z.heap.size))) ∧
    s.WarmedH (T.setFrames fs).vm ∧ s.sameButNew ({ T.setFrames fs with vm := s.vm } : State) locs R.cells R.slots ∧ Fr Z.heap.size locs ∧ Rel Z K T.heap H'
/-- from the frame (pc, L, S) over the heap H the body returns, and Q -/
def W (tb : List Cond) (K : KTab) (μ : Mth) (rm : Room) (pc : Nat) (L : List Slot) (S : List Value) (H : AHeap) (Q : Option Value → AHeap → Prop) : Prop :=
  L.length = μ.2.2.1 → ∀ (Z : State) (a0 : Array Value) (p : Program) (l : Launch) (e : Env) (R : Room) (s : State) (m : MethodId) (args : Array Value) (below : List Frame) (meth : Method) (c : Code) (T : State) (locs : List Loc) (cells slots : Nat),
    Here tb K μ rm H Z a0 p l e R s m args below meth c T locs cells slots → Ends K Q Z p e R s below (T.setTop (mkF m pc (L.map (cs Z.heap.size)).toArray (S.map (cv Z.heap.size))))
/-- a call of μ comes back, and Q -/
def M (tb : List Cond) (K : KTab) (μ : Mth) (rm : Room) (as : List Value) (H : AHeap) (Q : Option Value → AHeap → Prop) : Prop :=
  ∀ (Z : State) (a0 : Array Value), (∀ d ∈ tb, d.before a0 Z = true) → ∀ (l : Launch) (h : Heap) (ws : List Cond), Rel Z K h H →
    MetFree l μ.1 (head1 (Cond.code μ.1 μ.2.1 μ.2.2.1 μ.2.2.2 :: ws) rm) (fun a U => a = (as.map (cv Z.heap.size)).toArray ∧ Z.Warmed39 U.vm ∧ U.heap = h) (fun _ _ _ _ _ => True)
      (fun _ U o U' => ∃ v L, o = .returned v ∧ (∃ v' H', v = v'.map (cv Z.heap.size) ∧ Rel Z K U'.heap H' ∧ Q v' H' ∧ Fr Z.heap.size L) ∧ FrameEnd U o U' L rm.cells rm.slots)
section Logic
variable {tb : List Cond} {K : KTab} {μ : Mth} {rm : Room} {pc : Nat} {L : List Slot} {S : List Value} {H : AHeap} {Q Q' : Option Value → AHeap → Prop}
theorem Ends.mono {Z : State} {p : Program} {e : Env} {R : Room} {s : State} {below : List Frame} {T0 : State} (h : Ends K Q Z p e R s below T0) (hq : ∀ v H, Q v H → Q' v H) : Ends K Q' Z p e R s below T0 := by
  obtain ⟨v, H', T, locs, fs, h1, r⟩ := h; exact ⟨v, H', T, locs, fs, hq _ _ h1, r⟩
theorem W.mono (h : W tb K μ rm pc L S H Q) (hq : ∀ v H, Q v H → Q' v H) : W tb K μ rm pc L S H Q' := fun hl Z a0 p l e R s m args below meth c T locs cells slots X => (h hl Z a0 p l e R s m args below meth c T locs cells slots X).mono hq
theorem M.mono {as : List Value} (h : M tb K μ rm as H Q) (hq : ∀ v H, Q v H → Q' v H) : M tb K μ rm as H Q' := fun Z a0 hw l h0 ws hr p e ha hc hk s m args below hf happ hP hK => by
  obtain ⟨n, o, h1, h2, h3, v, L, h4, ⟨v', H', h5, h6, h7, h8⟩, h9⟩ := h Z a0 hw l h0 ws hr p e ha hc hk s m args below hf happ hP hK
  exact ⟨n, o, h1, h2, h3, v, L, h4, ⟨v', H', h5, h6, hq _ _ h7, h8⟩, h9⟩
theorem Ends.steps {Z : State} {p : Program} {e : Env} {R : Room} {s : State} {below : List Frame} {T0 T1 : State} (st : ∀ target, Steps p.tables e below T1 target → Steps p.tables e below T0 target) (h : Ends K Q Z p e R s below T1) : Ends K Q Z p e R s below T0 := by
  obtain ⟨v, H', T, locs, fs, h1, h2, r⟩ := h; exact ⟨v, H', T, locs, fs, h1, st _ h2, r⟩
/-- a step that moves the frame alone -/
theorem W.pure {pc' : Nat} {L' : List Slot} {S' : List Value} (hl : L'.length = L.length)
    (st : ∀ (k : Nat) (p : Program) (e : Env) (m : MethodId) (below : List Frame) (c : Code) (T : State), At T m c below → p.tables.exec = Jvm.exec → c.code = μ.2.1 → ∀ target, Steps p.tables e below (T.setTop (mkF m pc' (L'.map (cs k)).toArray (S'.map (cv k)))) target → Steps p.tables e below (T.setTop (mkF m pc (L.map (cs k)).toArray (S.map (cv k)))) target)
    (h : W tb K μ rm pc' L' S' H Q) : W tb K μ rm pc L S H Q := fun hL Z a0 p l e R s m args below meth c T locs cells slots X =>
  (h (hl.trans hL) Z a0 p l e R s m args below meth c T locs cells slots X).steps (st _ p e m below c T X.1.here X.2.1 X.2.2.2.2.1)
theorem get_conc {k : Nat} {i : Nat} {v : Value} (h : L[i]? = some (.val v)) : (L.map (cs k)).toArray[i]? = some (.val (cv k v)) := by
  simp [h, cs]
theorem W.iload_n {i : Fin 4} {x : Int32} (hd : decode μ.2.1 pc = .ok (.iload_n i, 1)) (hl : L[i.val]? = some (.val (.int x))) (h : W tb K μ rm (pc + 1) L (.int x :: S) H Q) : W tb K μ rm pc L S H Q :=
  W.pure rfl (fun k p e m below c T hA hx hb' t ht => XS.iloadN hA hx rfl (hb hb' hd) (get_conc hl) ht) h
theorem W.iload {i : Nat} {x : Int32} (hd : decode μ.2.1 pc = .ok (.iload i, 2)) (hl : L[i]? = some (.val (.int x))) (h : W tb K μ rm (pc + 2) L (.int x :: S) H Q) : W tb K μ rm pc L S H Q :=
  W.pure rfl (fun k p e m below c T hA hx hb' t ht => XS.iload hA hx rfl (hb hb' hd) (get_conc hl) ht) h
theorem W.lload_n {i : Fin 4} {x : Int64} (hd : decode μ.2.1 pc = .ok (.lload_n i, 1)) (hl : L[i.val]? = some (.val (.long x))) (h : W tb K μ rm (pc + 1) L (.long x :: S) H Q) : W tb K μ rm pc L S H Q :=
  W.pure rfl (fun k p e m below c T hA hx hb' t ht => XS.lloadN hA hx rfl (hb hb' hd) (get_conc hl) ht) h
theorem W.lload {i : Nat} {x : Int64} (hd : decode μ.2.1 pc = .ok (.lload i, 2)) (hl : L[i]? = some (.val (.long x))) (h : W tb K μ rm (pc + 2) L (.long x :: S) H Q) : W tb K μ rm pc L S H Q :=
  W.pure rfl (fun k p e m below c T hA hx hb' t ht => XS.lload hA hx rfl (hb hb' hd) (get_conc hl) ht) h
theorem W.aload_n {i : Fin 4} {v : Value} (hd : decode μ.2.1 pc = .ok (.aload_n i, 1)) (hl : L[i.val]? = some (.val v)) (hv : v.isRef = true) (h : W tb K μ rm (pc + 1) L (v :: S) H Q) : W tb K μ rm pc L S H Q :=
  W.pure rfl (fun k p e m below c T hA hx hb' t ht => XS.aloadN hA hx rfl (hb hb' hd) (get_conc hl) (by rw [cv_isRef]; exact hv) ht) h
theorem W.aload {i : Nat} {v : Value} (hd : decode μ.2.1 pc = .ok (.aload i, 2)) (hl : L[i]? = some (.val v)) (hv : v.isRef = true) (h : W tb K μ rm (pc + 2) L (v :: S) H Q) : W tb K μ rm pc L S H Q :=
  W.pure rfl (fun k p e m below c T hA hx hb' t ht => XS.aload hA hx rfl (hb hb' hd) (get_conc hl) (by rw [cv_isRef]; exact hv) ht) h
theorem W.iadd {x y : Int32} (hd : decode μ.2.1 pc = .ok (.iadd, 1)) (h : W tb K μ rm (pc + 1) L (.int (x + y) :: S) H Q) : W tb K μ rm pc L (.int y :: .int x :: S) H Q :=
  W.pure rfl (fun k p e m below c T hA hx hb' t ht => XS.iadd hA hx rfl (hb hb' hd) rfl ht) h
theorem W.isub {x y : Int32} (hd : decode μ.2.1 pc = .ok (.isub, 1)) (h : W tb K μ rm (pc + 1) L (.int (x - y) :: S) H Q) : W tb K μ rm pc L (.int y :: .int x :: S) H Q :=
  W.pure rfl (fun k p e m below c T hA hx hb' t ht => XS.isub hA hx rfl (hb hb' hd) rfl ht) h
theorem W.imul {x y : Int32} (hd : decode μ.2.1 pc = .ok (.imul, 1)) (h : W tb K μ rm (pc + 1) L (.int (x * y) :: S) H Q) : W tb K μ rm pc L (.int y :: .int x :: S) H Q :=
  W.pure rfl (fun k p e m below c T hA hx hb' t ht => XS.imul hA hx rfl (hb hb' hd) rfl ht) h
theorem W.idiv {x y : Int32} (hd : decode μ.2.1 pc = .ok (.idiv, 1)) (hy : y ≠ 0) (h : W tb K μ rm (pc + 1) L (.int (x / y) :: S) H Q) : W tb K μ rm pc L (.int y :: .int x :: S) H Q :=
  W.pure rfl (fun k p e m below c T hA hx hb' t ht => XS.idiv hA hx rfl (hb hb' hd) rfl hy ht) h
theorem W.irem {x y : Int32} (hd : decode μ.2.1 pc = .ok (.irem, 1)) (hy : y ≠ 0) (h : W tb K μ rm (pc + 1) L (.int (x % y) :: S) H Q) : W tb K μ rm pc L (.int y :: .int x :: S) H Q :=
  W.pure rfl (fun k p e m below c T hA hx hb' t ht => XS.irem hA hx rfl (hb hb' hd) rfl hy (by rw [irem_eq_mod x y]; exact ht)) h
theorem W.ineg {x : Int32} (hd : decode μ.2.1 pc = .ok (.ineg, 1)) (h : W tb K μ rm (pc + 1) L (.int (-x) :: S) H Q) : W tb K μ rm pc L (.int x :: S) H Q :=
  W.pure rfl (fun k p e m below c T hA hx hb' t ht => XS.ineg hA hx rfl (hb hb' hd) rfl ht) h
theorem W.iand {x y : Int32} (hd : decode μ.2.1 pc = .ok (.iand, 1)) (h : W tb K μ rm (pc + 1) L (.int (x &&& y) :: S) H Q) : W tb K μ rm pc L (.int y :: .int x :: S) H Q :=
  W.pure rfl (fun k p e m below c T hA hx hb' t ht => XS.iand hA hx rfl (hb hb' hd) rfl ht) h
theorem W.ior {x y : Int32} (hd : decode μ.2.1 pc = .ok (.ior, 1)) (h : W tb K μ rm (pc + 1) L (.int (x ||| y) :: S) H Q) : W tb K μ rm pc L (.int y :: .int x :: S) H Q :=
  W.pure rfl (fun k p e m below c T hA hx hb' t ht => XT.ior hA hx rfl (hb hb' hd) rfl ht) h
theorem W.ixor {x y : Int32} (hd : decode μ.2.1 pc = .ok (.ixor, 1)) (h : W tb K μ rm (pc + 1) L (.int (x ^^^ y) :: S) H Q) : W tb K μ rm pc L (.int y :: .int x :: S) H Q :=
  W.pure rfl (fun k p e m below c T hA hx hb' t ht => XT.ixor hA hx rfl (hb hb' hd) rfl ht) h
theorem W.ishl {x y : Int32} (hd : decode μ.2.1 pc = .ok (.ishl, 1)) (h : W tb K μ rm (pc + 1) L (.int (x <<< (y &&& 31)) :: S) H Q) : W tb K μ rm pc L (.int y :: .int x :: S) H Q :=
  W.pure rfl (fun k p e m below c T hA hx hb' t ht => XT.ishl hA hx rfl (hb hb' hd) rfl ht) h
theorem W.ishr {x y : Int32} (hd : decode μ.2.1 pc = .ok (.ishr, 1)) (h : W tb K μ rm (pc + 1) L (.int (x >>> (y &&& 31)) :: S) H Q) : W tb K μ rm pc L (.int y :: .int x :: S) H Q :=
  W.pure rfl (fun k p e m below c T hA hx hb' t ht => XT.ishr hA hx rfl (hb hb' hd) rfl ht) h
theorem W.iushr {x y : Int32} (hd : decode μ.2.1 pc = .ok (.iushr, 1)) (h : W tb K μ rm (pc + 1) L (.int (XT.ushr x y) :: S) H Q) : W tb K μ rm pc L (.int y :: .int x :: S) H Q :=
  W.pure rfl (fun k p e m below c T hA hx hb' t ht => XT.iushr hA hx rfl (hb hb' hd) rfl ht) h
theorem W.ladd {x y : Int64} (hd : decode μ.2.1 pc = .ok (.ladd, 1)) (h : W tb K μ rm (pc + 1) L (.long (x + y) :: S) H Q) : W tb K μ rm pc L (.long y :: .long x :: S) H Q :=
  W.pure rfl (fun k p e m below c T hA hx hb' t ht => XT.ladd hA hx rfl (hb hb' hd) rfl ht) h
theorem W.lsub {x y : Int64} (hd : decode μ.2.1 pc = .ok (.lsub, 1)) (h : W tb K μ rm (pc + 1) L (.long (x - y) :: S) H Q) : W tb K μ rm pc L (.long y :: .long x :: S) H Q :=
  W.pure rfl (fun k p e m below c T hA hx hb' t ht => XT.lsub hA hx rfl (hb hb' hd) rfl ht) h
theorem W.lmul {x y : Int64} (hd : decode μ.2.1 pc = .ok (.lmul, 1)) (h : W tb K μ rm (pc + 1) L (.long (x * y) :: S) H Q) : W tb K μ rm pc L (.long y :: .long x :: S) H Q :=
  W.pure rfl (fun k p e m below c T hA hx hb' t ht => XT.lmul hA hx rfl (hb hb' hd) rfl ht) h
theorem W.ldiv {x y : Int64} (hd : decode μ.2.1 pc = .ok (.ldiv, 1)) (hy : y ≠ 0) (h : W tb K μ rm (pc + 1) L (.long (x / y) :: S) H Q) : W tb K μ rm pc L (.long y :: .long x :: S) H Q :=
  W.pure rfl (fun k p e m below c T hA hx hb' t ht => XT.ldiv hA hx rfl (hb hb' hd) rfl hy ht) h
theorem W.land {x y : Int64} (hd : decode μ.2.1 pc = .ok (.land, 1)) (h : W tb K μ rm (pc + 1) L (.long (x &&& y) :: S) H Q) : W tb K μ rm pc L (.long y :: .long x :: S) H Q :=
  W.pure rfl (fun k p e m below c T hA hx hb' t ht => XT.land hA hx rfl (hb hb' hd) rfl ht) h
theorem W.lor {x y : Int64} (hd : decode μ.2.1 pc = .ok (.lor, 1)) (h : W tb K μ rm (pc + 1) L (.long (x ||| y) :: S) H Q) : W tb K μ rm pc L (.long y :: .long x :: S) H Q :=
  W.pure rfl (fun k p e m below c T hA hx hb' t ht => XT.lor hA hx rfl (hb hb' hd) rfl ht) h
theorem W.lxor {x y : Int64} (hd : decode μ.2.1 pc = .ok (.lxor, 1)) (h : W tb K μ rm (pc + 1) L (.long (x ^^^ y) :: S) H Q) : W tb K μ rm pc L (.long y :: .long x :: S) H Q :=
  W.pure rfl (fun k p e m below c T hA hx hb' t ht => XT.lxor hA hx rfl (hb hb' hd) rfl ht) h
theorem W.lshl {x : Int64} {y : Int32} (hd : decode μ.2.1 pc = .ok (.lshl, 1)) (h : W tb K μ rm (pc + 1) L (.long (x <<< (y.toInt64 &&& 63)) :: S) H Q) : W tb K μ rm pc L (.int y :: .long x :: S) H Q :=
  W.pure rfl (fun k p e m below c T hA hx hb' t ht => XT.lshl hA hx rfl (hb hb' hd) rfl ht) h
theorem W.lushr {x : Int64} {y : Int32} (hd : decode μ.2.1 pc = .ok (.lushr, 1)) (h : W tb K μ rm (pc + 1) L (.long (XT.ushrL x y) :: S) H Q) : W tb K μ rm pc L (.int y :: .long x :: S) H Q :=
  W.pure rfl (fun k p e m below c T hA hx hb' t ht => XT.lushr hA hx rfl (hb hb' hd) rfl ht) h
theorem W.lcmp {x y : Int64} (hd : decode μ.2.1 pc = .ok (.lcmp, 1)) (h : W tb K μ rm (pc + 1) L (.int (XT.cmpL x y) :: S) H Q) : W tb K μ rm pc L (.long y :: .long x :: S) H Q :=
  W.pure rfl (fun k p e m below c T hA hx hb' t ht => XT.lcmp hA hx rfl (hb hb' hd) rfl ht) h
theorem W.i2l {x : Int32} (hd : decode μ.2.1 pc = .ok (.i2l, 1)) (h : W tb K μ rm (pc + 1) L (.long x.toInt64 :: S) H Q) : W tb K μ rm pc L (.int x :: S) H Q :=
  W.pure rfl (fun k p e m below c T hA hx hb' t ht => XT.i2l hA hx rfl (hb hb' hd) rfl ht) h
theorem W.l2i {x : Int64} (hd : decode μ.2.1 pc = .ok (.l2i, 1)) (h : W tb K μ rm (pc + 1) L (.int x.toInt32 :: S) H Q) : W tb K μ rm pc L (.long x :: S) H Q :=
  W.pure rfl (fun k p e m below c T hA hx hb' t ht => XT.l2i hA hx rfl (hb hb' hd) rfl ht) h
theorem W.i2b {x : Int32} (hd : decode μ.2.1 pc = .ok (.i2b, 1)) (h : W tb K μ rm (pc + 1) L (.int x.toInt8.toInt32 :: S) H Q) : W tb K μ rm pc L (.int x :: S) H Q :=
  W.pure rfl (fun k p e m below c T hA hx hb' t ht => XT.i2b hA hx rfl (hb hb' hd) rfl ht) h
theorem W.i2c {x : Int32} (hd : decode μ.2.1 pc = .ok (.i2c, 1)) (h : W tb K μ rm (pc + 1) L (.int x.toUInt32.toUInt16.toUInt32.toInt32 :: S) H Q) : W tb K μ rm pc L (.int x :: S) H Q :=
  W.pure rfl (fun k p e m below c T hA hx hb' t ht => XT.i2c hA hx rfl (hb hb' hd) rfl ht) h
theorem W.iconst {i : Int} (hd : decode μ.2.1 pc = .ok (.iconst i, 1)) (h : W tb K μ rm (pc + 1) L (.int (Int32.ofInt i) :: S) H Q) : W tb K μ rm pc L (S) H Q :=
  W.pure rfl (fun k p e m below c T hA hx hb' t ht => XS.iconst hA hx rfl (hb hb' hd) ht) h
theorem W.bipush {i : Int} (hd : decode μ.2.1 pc = .ok (.bipush i, 2)) (h : W tb K μ rm (pc + 2) L (.int (Int8.ofInt i).toInt32 :: S) H Q) : W tb K μ rm pc L (S) H Q :=
  W.pure rfl (fun k p e m below c T hA hx hb' t ht => XS.bipush hA hx rfl (hb hb' hd) ht) h
theorem W.sipush {i : Int} (hd : decode μ.2.1 pc = .ok (.sipush i, 3)) (h : W tb K μ rm (pc + 3) L (.int (Int16.ofInt i).toInt32 :: S) H Q) : W tb K μ rm pc L (S) H Q :=
  W.pure rfl (fun k p e m below c T hA hx hb' t ht => XS.sipush hA hx rfl (hb hb' hd) ht) h
theorem W.lconst {i : Fin 2} (hd : decode μ.2.1 pc = .ok (.lconst i, 1)) (h : W tb K μ rm (pc + 1) L (.long (Int64.ofNat i) :: S) H Q) : W tb K μ rm pc L (S) H Q :=
  W.pure rfl (fun k p e m below c T hA hx hb' t ht => XT.lconst hA hx rfl (hb hb' hd) ht) h
theorem W.aconst_null  (hd : decode μ.2.1 pc = .ok (.aconst_null, 1)) (h : W tb K μ rm (pc + 1) L (.null :: S) H Q) : W tb K μ rm pc L (S) H Q :=
  W.pure rfl (fun k p e m below c T hA hx hb' t ht => XS.aconstNull hA hx rfl (hb hb' hd) ht) h
theorem W.dup {v : Value} (hd : decode μ.2.1 pc = .ok (.dup, 1)) (hc : v.category = 1) (h : W tb K μ rm (pc + 1) L (v :: v :: S) H Q) : W tb K μ rm pc L (v :: S) H Q :=
  W.pure rfl (fun k p e m below c T hA hx hb' t ht => XS.dup hA hx rfl (hb hb' hd) rfl (by rw [cv_cat]; exact hc) ht) h
theorem W.pop {v : Value} (hd : decode μ.2.1 pc = .ok (.pop, 1)) (hc : v.category = 1) (h : W tb K μ rm (pc + 1) L (S) H Q) : W tb K μ rm pc L (v :: S) H Q :=
  W.pure rfl (fun k p e m below c T hA hx hb' t ht => XT.pop hA hx rfl (hb hb' hd) rfl (by rw [cv_cat]; exact hc) ht) h
theorem W.dup_x1 {v w : Value} (hd : decode μ.2.1 pc = .ok (.dup_x1, 1)) (hc : v.category = 1) (hc' : w.category = 1) (h : W tb K μ rm (pc + 1) L (v :: w :: v :: S) H Q) : W tb K μ rm pc L (v :: w :: S) H Q :=
  W.pure rfl (fun k p e m below c T hA hx hb' t ht => XT.dupX1 hA hx rfl (hb hb' hd) rfl (by rw [cv_cat]; exact hc) (by rw [cv_cat]; exact hc') ht) h
theorem W.iconst' {i : Int} {x : Int32} (hd : decode μ.2.1 pc = .ok (.iconst i, 1)) (hx : Int32.ofInt i = x) (h : W tb K μ rm (pc + 1) L (.int x :: S) H Q) : W tb K μ rm pc L S H Q := W.iconst hd (by rw [hx]; exact h)
theorem W.bipush' {i : Int} {x : Int32} (hd : decode μ.2.1 pc = .ok (.bipush i, 2)) (hx : (Int8.ofInt i).toInt32 = x) (h : W tb K μ rm (pc + 2) L (.int x :: S) H Q) : W tb K μ rm pc L S H Q := W.bipush hd (by rw [hx]; exact h)
theorem W.sipush' {i : Int} {x : Int32} (hd : decode μ.2.1 pc = .ok (.sipush i, 3)) (hx : (Int16.ofInt i).toInt32 = x) (h : W tb K μ rm (pc + 3) L (.int x :: S) H Q) : W tb K μ rm pc L S H Q := W.sipush hd (by rw [hx]; exact h)
theorem W.lconst' {i : Fin 2} {x : Int64} (hd : decode μ.2.1 pc = .ok (.lconst i, 1)) (hx : Int64.ofNat i = x) (h : W tb K μ rm (pc + 1) L (.long x :: S) H Q) : W tb K μ rm pc L S H Q := W.lconst hd (by rw [hx]; exact h)
/-- a local of one word -/
def one : Slot → Bool
  | .unset => true
  | .val v => v.category == 1
  | .second => false
theorem cs_one {k : Nat} {o : Slot} (h : one o = true) : cs k o = .unset ∨ ∃ w, cs k o = .val w ∧ w.category = 1 := by
  cases o with
  | unset => exact Or.inl rfl
  | second => cases h
  | val v => exact Or.inr ⟨cv k v, rfl, by rw [cv_cat]; simpa [one] using h⟩
theorem set_conc {k i : Nat} {x : Slot} : (L.map (cs k)).toArray.setIfInBounds i (cs k x) = ((L.set i x).map (cs k)).toArray := by
  simp [List.map_set]
theorem sto1 {k i : Nat} {o : Slot} {v : Value} (hl : L[i]? = some o) (ho : one o = true) (hv : v.category = 1) : storeLocals (L.map (cs k)).toArray i (cv k v) = some ((L.set i (.val v)).map (cs k)).toArray := by
  rw [XS.store1 (o := cs k o) (by simp [hl]) (cs_one ho) (by rw [cv_cat]; exact hv)]
  exact congrArg some (set_conc (x := .val v))
/-- over the first half of a long -/
theorem sto1w {k i : Nat} {w v : Value} (hl : L[i]? = some (.val w)) (ho : w.category = 2) (hi : i + 1 < L.length) (hv : v.category = 1) : storeLocals (L.map (cs k)).toArray i (cv k v) = some (((L.set (i + 1) .unset).set i (.val v)).map (cs k)).toArray := by
  have h0 : i < L.length := by omega
  have e : L[i] = .val w := by rw [List.getElem?_eq_getElem h0] at hl; exact Option.some.inj hl
  simp [storeLocals, storeSelf, setAt, h0, e, cs, cv_cat, ho, hi, hv, List.map_set]
/-- over the second half of a long -/
theorem sto1s {k i : Nat} {v : Value} (hl : L[i]? = some .second) (hi : 0 < i) (hv : v.category = 1) : storeLocals (L.map (cs k)).toArray i (cv k v) = some (((L.set (i - 1) .unset).set i (.val v)).map (cs k)).toArray := by
  have h0 : i < L.length := (List.getElem?_eq_some_iff.mp hl).1
  have e : L[i] = .second := by rw [List.getElem?_eq_getElem h0] at hl; exact Option.some.inj hl
  have h1 : i - 1 < L.length := by omega
  simp [storeLocals, storeSelf, setAt, h0, h1, e, cs, cv_cat, hv, List.map_set]
/-- what a long may be stored over -/
def two : Slot → Slot → Bool
  | .second, _ => false
  | _, .val w => w.category == 1
  | _, _ => true
theorem sto2 {k i : Nat} {o o' : Slot} {x : Int64} (hl : L[i]? = some o) (hl' : L[i + 1]? = some o') (ho : two o o' = true) : storeLocals (L.map (cs k)).toArray i (.long x) = some (((L.set i (.val (.long x))).set (i + 1) .second).map (cs k)).toArray := by
  have h0 : i < L.length := (List.getElem?_eq_some_iff.mp hl).1
  have h1 : i + 1 < L.length := (List.getElem?_eq_some_iff.mp hl').1
  have e : L[i] = o := by rw [List.getElem?_eq_getElem h0] at hl; exact Option.some.inj hl
  have e' : L[i + 1] = o' := by rw [List.getElem?_eq_getElem h1] at hl'; exact Option.some.inj hl'
  have ne : ¬ (i = i + 1) := by omega
  have c2 : (Value.long x).category = 2 := rfl
  have cl : cv k (.long x) = .long x := rfl
  have sw : ∀ (l : List Slot) (u v w : Slot), ((l.set (i + 1) u).set i v).set (i + 1) w = (l.set i v).set (i + 1) w := fun l u v w => by
    rw [List.set_comm _ _ (by omega : i + 1 ≠ i), List.set_set]
  cases o with
  | second => cases ho
  | unset =>
    cases o' with
    | unset => simp [storeLocals, storeSelf, setAt, h0, h1, e, e', cs, c2, cl, List.map_set]
    | second => simp [storeLocals, storeSelf, setAt, h0, h1, e, e', cs, c2, cl, List.map_set]
    | val w' =>
      have hc : w'.category = 1 := by simpa [two] using ho
      simp [storeLocals, storeSelf, setAt, h0, h1, e, e', cs, cv_cat, hc, c2, cl, List.map_set]
  | val w =>
    by_cases hw : w.category = 2
    · simp [storeLocals, storeSelf, setAt, h0, h1, e, cs, cv_cat, hw, c2, cl, List.map_set, sw]
    · cases o' with
      | unset => simp [storeLocals, storeSelf, setAt, h0, h1, e, e', cs, cv_cat, hw, c2, cl, List.map_set]
      | second => simp [storeLocals, storeSelf, setAt, h0, h1, e, e', cs, cv_cat, hw, c2, cl, List.map_set]
      | val w' =>
        have hc : w'.category = 1 := by simpa [two] using ho
        simp [storeLocals, storeSelf, setAt, h0, h1, e, e', cs, cv_cat, hw, hc, c2, cl, List.map_set]
theorem W.istore_n {i : Fin 4} {o : Slot} {x : Int32} (hd : decode μ.2.1 pc = .ok (.istore_n i, 1)) (hl : L[i.val]? = some o) (ho : one o = true) (h : W tb K μ rm (pc + 1) (L.set i.val (.val (.int x))) S H Q) : W tb K μ rm pc L (.int x :: S) H Q :=
  W.pure (by simp) (fun k p e m below c T hA hx hb' t ht => XS.istoreN hA hx rfl (hb hb' hd) rfl (sto1 (v := .int x) hl ho rfl) ht) h
theorem W.istore_nW {i : Fin 4} {w : Value} {x : Int32} (hd : decode μ.2.1 pc = .ok (.istore_n i, 1)) (hl : L[i.val]? = some (.val w)) (ho : w.category = 2) (hi : i.val + 1 < L.length) (h : W tb K μ rm (pc + 1) ((L.set (i.val + 1) .unset).set i.val (.val (.int x))) S H Q) : W tb K μ rm pc L (.int x :: S) H Q :=
  W.pure (by simp) (fun k p e m below c T hA hx hb' t ht => XS.istoreN hA hx rfl (hb hb' hd) rfl (sto1w (v := .int x) hl ho hi rfl) ht) h
theorem W.istore_nS {i : Fin 4} {x : Int32} (hd : decode μ.2.1 pc = .ok (.istore_n i, 1)) (hl : L[i.val]? = some .second) (hi : 0 < i.val) (h : W tb K μ rm (pc + 1) ((L.set (i.val - 1) .unset).set i.val (.val (.int x))) S H Q) : W tb K μ rm pc L (.int x :: S) H Q :=
  W.pure (by simp) (fun k p e m below c T hA hx hb' t ht => XS.istoreN hA hx rfl (hb hb' hd) rfl (sto1s (v := .int x) hl hi rfl) ht) h
theorem W.istore {i : Nat} {o : Slot} {x : Int32} (hd : decode μ.2.1 pc = .ok (.istore i, 2)) (hl : L[i]? = some o) (ho : one o = true) (h : W tb K μ rm (pc + 2) (L.set i (.val (.int x))) S H Q) : W tb K μ rm pc L (.int x :: S) H Q :=
  W.pure (by simp) (fun k p e m below c T hA hx hb' t ht => XS.istore hA hx rfl (hb hb' hd) rfl (sto1 (v := .int x) hl ho rfl) ht) h
theorem W.istoreW {i : Nat} {w : Value} {x : Int32} (hd : decode μ.2.1 pc = .ok (.istore i, 2)) (hl : L[i]? = some (.val w)) (ho : w.category = 2) (hi : i + 1 < L.length) (h : W tb K μ rm (pc + 2) ((L.set (i + 1) .unset).set i (.val (.int x))) S H Q) : W tb K μ rm pc L (.int x :: S) H Q :=
  W.pure (by simp) (fun k p e m below c T hA hx hb' t ht => XS.istore hA hx rfl (hb hb' hd) rfl (sto1w (v := .int x) hl ho hi rfl) ht) h
theorem W.istoreS {i : Nat} {x : Int32} (hd : decode μ.2.1 pc = .ok (.istore i, 2)) (hl : L[i]? = some .second) (hi : 0 < i) (h : W tb K μ rm (pc + 2) ((L.set (i - 1) .unset).set i (.val (.int x))) S H Q) : W tb K μ rm pc L (.int x :: S) H Q :=
  W.pure (by simp) (fun k p e m below c T hA hx hb' t ht => XS.istore hA hx rfl (hb hb' hd) rfl (sto1s (v := .int x) hl hi rfl) ht) h
theorem W.astore_n {i : Fin 4} {o : Slot} {v : Value} (hd : decode μ.2.1 pc = .ok (.astore_n i, 1)) (hl : L[i.val]? = some o) (ho : one o = true) (hv : v.isRef = true) (h : W tb K μ rm (pc + 1) (L.set i.val (.val v)) S H Q) : W tb K μ rm pc L (v :: S) H Q :=
  W.pure (by simp) (fun k p e m below c T hA hx hb' t ht => XS.astoreN hA hx rfl (hb hb' hd) rfl (by rw [cv_isRef]; exact hv) (sto1 (v := v) hl ho (by cases v <;> first | rfl | cases hv)) ht) h
theorem W.astore {i : Nat} {o : Slot} {v : Value} (hd : decode μ.2.1 pc = .ok (.astore i, 2)) (hl : L[i]? = some o) (ho : one o = true) (hv : v.isRef = true) (h : W tb K μ rm (pc + 2) (L.set i (.val v)) S H Q) : W tb K μ rm pc L (v :: S) H Q :=
  W.pure (by simp) (fun k p e m below c T hA hx hb' t ht => XS.astore hA hx rfl (hb hb' hd) rfl (by rw [cv_isRef]; exact hv) (sto1 (v := v) hl ho (by cases v <;> first | rfl | cases hv)) ht) h
theorem W.lstore_n {i : Fin 4} {o o' : Slot} {x : Int64} (hd : decode μ.2.1 pc = .ok (.lstore_n i, 1)) (hl : L[i.val]? = some o) (hl' : L[i.val + 1]? = some o') (ho : two o o' = true) (h : W tb K μ rm (pc + 1) ((L.set i.val (.val (.long x))).set (i.val + 1) .second) S H Q) : W tb K μ rm pc L (.long x :: S) H Q :=
  W.pure (by simp) (fun k p e m below c T hA hx hb' t ht => XT.lstoreN hA hx rfl (hb hb' hd) rfl (sto2 hl hl' ho) ht) h
theorem W.lstore {i : Nat} {o o' : Slot} {x : Int64} (hd : decode μ.2.1 pc = .ok (.lstore i, 2)) (hl : L[i]? = some o) (hl' : L[i + 1]? = some o') (ho : two o o' = true) (h : W tb K μ rm (pc + 2) ((L.set i (.val (.long x))).set (i + 1) .second) S H Q) : W tb K μ rm pc L (.long x :: S) H Q :=
  W.pure (by simp) (fun k p e m below c T hA hx hb' t ht => XT.lstore hA hx rfl (hb hb' hd) rfl (sto2 hl hl' ho) ht) h
theorem W.iinc {i : Nat} {n : Int} {x y : Int32} (hd : decode μ.2.1 pc = .ok (.iinc i n, 3)) (hy : Int32.ofInt n = y) (hl : L[i]? = some (.val (.int x))) (h : W tb K μ rm (pc + 3) (L.set i (.val (.int (x + y)))) S H Q) : W tb K μ rm pc L S H Q := by
  subst hy
  exact W.pure (by simp) (fun k p e m below c T hA hx hb' t ht => XS.iinc hA hx rfl (hb hb' hd) (get_conc hl) (sto1 (v := .int (x + Int32.ofInt n)) hl rfl rfl) ht) h
theorem W.goto {o : Int} {pc' : Nat} (hd : decode μ.2.1 pc = .ok (.goto o, 3)) (ho : 0 ≤ (pc : Int) + o) (hp : ((pc : Int) + o).toNat = pc') (h : W tb K μ rm pc' L S H Q) : W tb K μ rm pc L S H Q :=
  W.pure rfl (fun k p e m below c T hA hx hb' t ht => XS.goto hA hx rfl rfl (hb hb' hd) ho hp ht) h
/-- what a comparison asks -/
def cnd : ClassFile.Cond → Int32 → Int32 → Prop
  | .eq, x, y => x = y
  | .ne, x, y => ¬ x = y
  | .lt, x, y => x < y
  | .ge, x, y => ¬ x < y
  | .gt, x, y => y < x
  | .le, x, y => ¬ y < x
def cndN : ClassFile.Cond → Int32 → Int32 → Prop
  | .eq, x, y => ¬ x = y
  | .ne, x, y => x = y
  | .lt, x, y => ¬ x < y
  | .ge, x, y => x < y
  | .gt, x, y => ¬ y < x
  | .le, x, y => y < x
theorem cndN_of (cd : ClassFile.Cond) (x y : Int32) (h : ¬ cnd cd x y) : cndN cd x y := by
  cases cd <;> first | exact h | exact Classical.not_not.mp h
theorem cnd_iff (cd : ClassFile.Cond) (x y : Int32) : if_icmp.holds cd x y = true ↔ cnd cd x y := by
  cases cd <;> simp [if_icmp.holds, cnd, Int32.not_lt]
theorem cnd_not (cd : ClassFile.Cond) (x y : Int32) : if_icmp.holds cd x y = false ↔ ¬ cnd cd x y := by
  rw [← cnd_iff]; cases if_icmp.holds cd x y <;> simp
theorem W.icmp {cd : ClassFile.Cond} {x y : Int32} {o : Int} {pc' : Nat} (hd : decode μ.2.1 pc = .ok (.if_icmp cd o, 3)) (ho : 0 ≤ (pc : Int) + o) (hp : ((pc : Int) + o).toNat = pc') (h1 : cnd cd x y → W tb K μ rm pc' L S H Q) (h2 : cndN cd x y → W tb K μ rm (pc + 3) L S H Q) : W tb K μ rm pc L (.int y :: .int x :: S) H Q := by
  cases hc : if_icmp.holds cd x y
  · exact W.pure rfl (fun k p e m below c T hA hx hb' t ht => XS.icmpNo hA hx rfl (hb hb' hd) rfl hc ht) (h2 (cndN_of cd x y ((cnd_not cd x y).mp hc)))
  · exact W.pure rfl (fun k p e m below c T hA hx hb' t ht => XS.icmpYes hA hx rfl rfl (hb hb' hd) rfl hc ho hp ht) (h1 ((cnd_iff cd x y).mp hc))
theorem W.ifc {cd : ClassFile.Cond} {x : Int32} {o : Int} {pc' : Nat} (hd : decode μ.2.1 pc = .ok (.ifCond cd o, 3)) (ho : 0 ≤ (pc : Int) + o) (hp : ((pc : Int) + o).toNat = pc') (h1 : cnd cd x 0 → W tb K μ rm pc' L S H Q) (h2 : cndN cd x 0 → W tb K μ rm (pc + 3) L S H Q) : W tb K μ rm pc L (.int x :: S) H Q := by
  cases hc : ifCond.holds cd x
  · exact W.pure rfl (fun k p e m below c T hA hx hb' t ht => XS.ifNo hA hx rfl (hb hb' hd) rfl hc ht) (h2 (cndN_of cd x 0 ((cnd_not cd x 0).mp (by rw [← if0]; exact hc))))
  · exact W.pure rfl (fun k p e m below c T hA hx hb' t ht => XS.ifYes hA hx rfl rfl (hb hb' hd) rfl hc ho hp ht) (h1 ((cnd_iff cd x 0).mp (by rw [← if0]; exact hc)))
def cndL : ClassFile.Cond → Int64 → Int64 → Prop
  | .eq, x, y => x = y
  | .ne, x, y => ¬ x = y
  | .lt, x, y => x < y
  | .ge, x, y => ¬ x < y
  | .gt, x, y => y < x
  | .le, x, y => ¬ y < x
def cndLN : ClassFile.Cond → Int64 → Int64 → Prop
  | .eq, x, y => ¬ x = y
  | .ne, x, y => x = y
  | .lt, x, y => ¬ x < y
  | .ge, x, y => x < y
  | .gt, x, y => ¬ y < x
  | .le, x, y => y < x
theorem cndLN_iff (cd : ClassFile.Cond) (x y : Int64) : cndLN cd x y ↔ ¬ cndL cd x y := by
  cases cd <;> first | exact Iff.rfl | exact Classical.not_not.symm
theorem cndN_iff (cd : ClassFile.Cond) (x y : Int32) : cndN cd x y ↔ ¬ cnd cd x y := by
  cases cd <;> first | exact Iff.rfl | exact Classical.not_not.symm
theorem cmpL_iff (cd : ClassFile.Cond) (x y : Int64) : cnd cd (XT.cmpL x y) 0 ↔ cndL cd x y := by
  have e : XT.cmpL x y = lcmpW x y := by simp [XT.cmpL, lcmpW]
  rw [e]
  cases cd
  · exact lw_eq x y
  · exact not_congr (lw_eq x y)
  · exact lw_lt x y
  · exact not_congr (lw_lt x y)
  · exact lw_gt x y
  · exact not_congr (lw_gt x y)
/-- lcmp and the branch behind it -/
theorem W.lcif {cd : ClassFile.Cond} {x y : Int64} {o : Int} {pc1 pc' : Nat} (hd1 : decode μ.2.1 pc = .ok (.lcmp, 1)) (hp1 : pc + 1 = pc1) (hd : decode μ.2.1 pc1 = .ok (.ifCond cd o, 3)) (ho : 0 ≤ (pc1 : Int) + o) (hp : ((pc1 : Int) + o).toNat = pc') (h1 : cndL cd x y → W tb K μ rm pc' L S H Q) (h2 : cndLN cd x y → W tb K μ rm (pc1 + 3) L S H Q) : W tb K μ rm pc L (.long y :: .long x :: S) H Q := by
  subst hp1
  exact W.lcmp hd1 (W.ifc hd ho hp (fun h => h1 ((cmpL_iff cd x y).mp h)) (fun h => h2 ((cndLN_iff cd x y).mpr fun q => (cndN_iff cd _ 0).mp h ((cmpL_iff cd x y).mpr q))))
theorem W.ifnullR {i : Nat} {o : Int} (hd : decode μ.2.1 pc = .ok (.ifnull o, 3)) (h : W tb K μ rm (pc + 3) L S H Q) : W tb K μ rm pc L (.ref i :: S) H Q :=
  W.pure rfl (fun k p e m below c T hA hx hb' t ht => XS.ifnullNo hA hx rfl (hb hb' hd) rfl ht) h
theorem W.ifnonnullR {i : Nat} {o : Int} {pc' : Nat} (hd : decode μ.2.1 pc = .ok (.ifnonnull o, 3)) (ho : 0 ≤ (pc : Int) + o) (hp : ((pc : Int) + o).toNat = pc') (h : W tb K μ rm pc' L S H Q) : W tb K μ rm pc L (.ref i :: S) H Q :=
  W.pure rfl (fun k p e m below c T hA hx hb' t ht => XT.ifnonnullYes hA hx rfl rfl (hb hb' hd) rfl ho hp ht) h
theorem W.lsw {d : Int} {ps : Array (Int × Int)} {len : Nat} {x : Int32} {o : Int} {pc' : Nat} (hd : decode μ.2.1 pc = .ok (.lookupswitch d ps, len)) (hs : (ps.toList.zip (ps.toList.drop 1)).all (fun (a, next) => a.1 < next.1) = true) (ho : lookupswitch.offset ps.toList d x.toInt = o) (h0 : 0 ≤ (pc : Int) + o) (hp : ((pc : Int) + o).toNat = pc')
    (h : W tb K μ rm pc' L S H Q) : W tb K μ rm pc L (.int x :: S) H Q := by
  subst hp
  refine W.pure rfl (fun k p e m below c T hA hx hb' t ht => ?_) h
  have hd' := hb hb' hd
  show Steps p.tables e below (T.setTop (mkF m pc (L.map (cs k)).toArray (.int x :: S.map (cv k)))) _
  jvm_step hA [hA.top, hx, hd', lookupswitch.wp_chain, ho, h0]
  refine ⟨?_, ht⟩
  simpa using hs
end Logic
end Jvm.Own
namespace Jvm.Own
open Sem ClassFile Op Lib Jvm.Stand Jvm.Free Jvm.LawKit Jvm.RoadKit
section Heap
variable {Z : State} {K : KTab} {h h' : Heap} {H : AHeap} {a b : Addr} {tb : List Cond} {a0 : Array Value}
theorem CellOk.ext {c : ACell} (E : Ext h h') (F : CellOk Z K h a c) : CellOk Z K h' a c := by
  cases c with
  | inl q =>
    obtain ⟨C, n, fs, h1, h2, h3, h4⟩ := F
    exact ⟨C, n, fs, h1, h2, h3.ext E, fun j f v hf hv => (h4 j f v hf hv).ext E⟩
  | inr q =>
    obtain ⟨cell, h1, h2⟩ := F
    exact ⟨cell, h1.ext E, h2⟩
theorem CellOk.other {c : ACell} {sl : Nat} {v : Value} (W : Wr h h' b sl v) (F : CellOk Z K h a c) (ne : a ≠ b) : CellOk Z K h' a c := by
  cases c with
  | inl q =>
    obtain ⟨C, n, fs, h1, h2, h3, h4⟩ := F
    exact ⟨C, n, fs, h1, h2, h3.wr W, fun j f v hf hv => (h4 j f v hf hv).other W (Or.inl ne)⟩
  | inr q =>
    obtain ⟨cell, h1, h2⟩ := F
    exact ⟨cell, h1.other W ne, h2⟩
theorem Rel.start (Z : State) (K : KTab) : Rel Z K Z.heap [] := ⟨rfl, fun i c q => by simp at q⟩
theorem Rel.push {c : ACell} {cell : Cell} (R : Rel Z K h H) (F : CellOk Z K (h.push cell) (Z.heap.size + H.length) c) : Rel Z K (h.push cell) (H ++ [c]) := by
  have E : Ext h (h.push cell) := ⟨by simp, fun x c q => by rw [Array.getElem?_push_lt (Array.getElem?_eq_some_iff.mp q).1]; exact (Array.getElem?_eq_getElem _).symm.trans q⟩
  refine ⟨by simp [R.1]; omega, fun i c' q => ?_⟩
  rcases Nat.lt_trichotomy i H.length with hi | hi | hi
  · rw [List.getElem?_append_left hi] at q
    exact (R.2 i c' q).ext E
  · subst hi
    rw [List.getElem?_append_right (Nat.le_refl _)] at q
    simp at q
    subst q
    exact F
  · rw [List.getElem?_append_right (Nat.le_of_lt hi)] at q
    rw [List.getElem?_eq_none (show 1 ≤ i - H.length from Nat.sub_pos_of_lt hi)] at q
    cases q
theorem Rel.set {c : ACell} {i sl : Nat} {v : Value} (R : Rel Z K h H) (W : Wr h h' (Z.heap.size + i) sl v) (F : CellOk Z K h' (Z.heap.size + i) c) : Rel Z K h' (H.set i c) := by
  refine ⟨by rw [W.size, List.length_set]; exact R.1, fun j c' q => ?_⟩
  by_cases e : j = i
  · subst e
    obtain ⟨hl, -⟩ := List.getElem?_eq_some_iff.mp q
    rw [List.getElem?_set_self (by simpa using hl)] at q
    cases q
    exact F
  · rw [List.getElem?_set_ne (Ne.symm e)] at q
    exact (R.2 j c' q).other W (fun q' => e (Nat.add_left_cancel q'))
theorem mem_of_get {q : String × Nat × List (String × String × String × FieldType)} {c : Nat} (hK : K[c]? = some q) : q ∈ K := List.mem_of_getElem? hK
theorem FOk.laid {C : String} {f : String × String × String × FieldType} (F : FOk tb C f) (hw : ∀ d ∈ tb, d.before a0 Z = true) : Laid Z a0 C f.1 f.2.1 f.2.2.1 := F.1.imp (hw _) (hw _)
theorem CellOk.put {c i j : Nat} {vs : List Value} {C : String} {n : Nat} {fs : List (String × String × String × FieldType)} {f : String × String × String × FieldType} {v : Value} (hKO : KOk tb K) (hw : ∀ d ∈ tb, d.before a0 Z = true) (hK : K[c]? = some (C, n, fs)) (hf : fs[j]? = some f)
    (W : Wr h h' a (RoadKit.slotOf Z f.1 f.2.1 f.2.2.1) (cv Z.heap.size v)) (F : CellOk Z K h a (.inl (c, vs))) : CellOk Z K h' a (.inl (c, vs.set j v)) := by
  obtain ⟨C', n', fs', h1, h2, h3, h4⟩ := F
  cases hK.symm.trans h1
  obtain ⟨k1, k2, k3⟩ := hKO _ (mem_of_get hK)
  refine ⟨C, n, fs, hK, by simpa using h2, h3.wr W, fun j' f' v' hf' hv' => ?_⟩
  by_cases e : j' = j
  · subst e
    cases hf.symm.trans hf'
    have hl : j' < vs.length := by rw [h2]; exact (List.getElem?_eq_some_iff.mp hf).1
    rw [List.getElem?_set_self hl] at hv'
    cases hv'
    obtain ⟨w, hw'⟩ : ∃ w, vs[j']? = some w := ⟨vs[j'], List.getElem?_eq_getElem hl⟩
    exact (h4 j' f w hf hw').same W
  · rw [List.getElem?_set_ne (Ne.symm e)] at hv'
    have m1 : f ∈ fs := List.mem_of_getElem? hf
    have m2 : f' ∈ fs := List.mem_of_getElem? hf'
    have hn : f'.2.1 ≠ f.2.1 := fun q => by
      have g1 : (fs.map fun f => f.2.1)[j']? = some f'.2.1 := by simp [hf']
      have g2 : (fs.map fun f => f.2.1)[j]? = some f.2.1 := by simp [hf]
      rw [q] at g1
      obtain ⟨l1, e1⟩ := List.getElem?_eq_some_iff.mp g1
      obtain ⟨l2, e2⟩ := List.getElem?_eq_some_iff.mp g2
      rcases Nat.lt_or_gt_of_ne e with lt | lt
      · exact (List.pairwise_iff_getElem.mp k3) j' j l1 l2 lt (e1.trans e2.symm)
      · exact (List.pairwise_iff_getElem.mp k3) j j' l2 l1 lt (e2.trans e1.symm)
    exact (h4 j' f' v' hf' hv').other W (Or.inr (slot_ne ((k2 f' m2).laid hw) ((k2 f m1).laid hw) hn (k2 f' m2).2 (k2 f m1).2))
theorem CellOk.sto {ty : FieldType} {vs : List Value} {j : Nat} {v : Value} (W : Wr h h' a j (cv Z.heap.size v)) (F : CellOk Z K h a (.inr (ty, vs))) (hv : fits ty v = true) : CellOk Z K h' a (.inr (ty, vs.set j v)) := by
  obtain ⟨cell, h1, h2, h3⟩ := F
  refine ⟨_, h1.same W, ?_, fun w hw => ?_⟩
  · simp [Cell.setSlot, h2, List.map_set]
  · rcases List.mem_or_eq_of_mem_set hw with q | q
    · exact h3 w q
    · exact q ▸ hv
end Heap
section Logic
variable {tb : List Cond} {K : KTab} {μ : Mth} {rm : Room} {pc : Nat} {L : List Slot} {S : List Value} {H : AHeap} {Q Q' : Option Value → AHeap → Prop}
theorem via_of {Z : State} {a0 : Array Value} (hw : ∀ d ∈ tb, d.before a0 Z = true) {R0 O n d : String} (via : R0 = O ∨ Cond.sameField R0 O n d ∈ tb) : Via Z R0 O n d := by
  rcases via with rfl | q
  · exact Via.refl
  · exact Via.of (hw _ q)
theorem W.getF {idx i j c n : Nat} {C R0 host : String} {fs : List (String × String × String × FieldType)} {vs : List Value} {f : String × String × String × FieldType} {v : Value} (hd : decode μ.2.1 pc = .ok (.getfield idx, 3))
    (w : Cond.fieldLink μ.1.cls idx R0 f.2.1 f.2.2.1 ∈ tb ∨ Cond.fieldLinkNest μ.1.cls idx R0 f.2.1 f.2.2.1 host ∈ tb) (via : R0 = f.1 ∨ Cond.sameField R0 f.1 f.2.1 f.2.2.1 ∈ tb) (hK : K[c]? = some (C, n, fs)) (hf : fs[j]? = some f) (hH : H[i]? = some (.inl (c, vs))) (hv : vs[j]? = some v)
    (h : W tb K μ rm (pc + 3) L (v :: S) H Q) : W tb K μ rm pc L (.ref i :: S) H Q := by
  intro hL Z a0 p l e R s m args below meth c' T locs cells slots X
  obtain ⟨X0, hx, hZ, hw, hby, hml, hrt, hnm, hlk, hown, hR, hr⟩ := X
  obtain ⟨C', n', fs', k1, k2, k3, k4⟩ := hR.2 _ _ hH
  cases hK.symm.trans k1
  have F := k4 j f v hf hv
  obtain ⟨T1, X1, e1, st⟩ := RoadKit.getF X0 hx hZ hown (w.imp (hw _) (hw _)) (via_of hw via) rfl F (g := mkF m pc (L.map (cs Z.heap.size)).toArray ((Value.ref i :: S).map (cv Z.heap.size))) rfl rfl (hb hby hd)
  exact (h hL Z a0 p l e R s m args below meth c' T1 locs cells slots ⟨X1, hx, hZ, hw, hby, hml, hrt, hnm, hlk, hown, e1 ▸ hR, hr⟩).steps st
theorem W.putF {idx i j c n : Nat} {C R0 host : String} {fs : List (String × String × String × FieldType)} {vs : List Value} {f : String × String × String × FieldType} {v : Value} (hKO : KOk tb K) (hd : decode μ.2.1 pc = .ok (.putfield idx, 3))
    (w : Cond.fieldLink μ.1.cls idx R0 f.2.1 f.2.2.1 ∈ tb ∨ Cond.fieldLinkNest μ.1.cls idx R0 f.2.1 f.2.2.1 host ∈ tb) (via : R0 = f.1 ∨ Cond.sameField R0 f.1 f.2.1 f.2.2.1 ∈ tb) (hK : K[c]? = some (C, n, fs)) (hf : fs[j]? = some f)
    (la : Cond.lays C f.1 f.2.1 f.2.2.1 ∈ tb ∨ (Cond.laysFinal C f.1 f.2.1 f.2.2.1 ∈ tb ∧ μ.1.cls = f.1 ∧ μ.1.name = "<init>")) (hn : narrow f.2.2.2 v = v) (hfi : fits f.2.2.2 v = true) (hH : H[i]? = some (.inl (c, vs)))
    (h : W tb K μ rm (pc + 3) L S (H.set i (.inl (c, vs.set j v))) Q) : W tb K μ rm pc L (v :: .ref i :: S) H Q := by
  intro hL Z a0 p l e R s m args below meth c' T locs cells slots X
  obtain ⟨X0, hx, hZ, hw, hby, hml, hrt, hnm, hlk, hown, hR, hFr, hr⟩ := X
  have CO := hR.2 _ _ hH
  obtain ⟨C', n', fs', k1, k2, k3, k4⟩ := CO
  cases hK.symm.trans k1
  have hl : j < vs.length := by rw [k2]; exact (List.getElem?_eq_some_iff.mp hf).1
  have F := k4 j f vs[j] hf (List.getElem?_eq_getElem hl)
  obtain ⟨o1, o2, o3⟩ := hKO _ (mem_of_get hK)
  obtain ⟨T1, h1, X1, e1, W1, st⟩ := RoadKit.putF X0 hx hZ hown (w.imp (hw _) (hw _)) (via_of hw via) rfl F k3 (la.imp (hw _) fun q => ⟨hw _ q.1, q.2.1, hnm.trans q.2.2⟩) (hw _ o1) (o2 f (List.mem_of_getElem? hf)).2 (v := cv Z.heap.size v) (by rw [cv_narrow, hn]) (by rw [cv_fits]; exact hfi) (g := mkF m pc (L.map (cs Z.heap.size)).toArray ((v :: Value.ref i :: S).map (cv Z.heap.size))) rfl rfl (hb hby hd)
  exact (h hL Z a0 p l e R s m args below meth c' T1 _ cells slots ⟨X1, hx, hZ, hw, hby, hml, hrt, hnm, hlk, hown, e1 ▸ hR.set W1 (CellOk.put (i := i) hKO hw hK hf W1 (hR.2 _ _ hH)), Fr.snoc X1 hFr (Nat.le_add_right _ _), hr⟩).steps st
/-- a field of a boolean, byte, char or short -/
theorem W.putFN {idx i j c n : Nat} {C R0 : String} {fs : List (String × String × String × FieldType)} {vs : List Value} {f : String × String × String × FieldType} {v v' : Value} (hKO : KOk tb K) (hd : decode μ.2.1 pc = .ok (.putfield idx, 3))
    (w : Cond.fieldLink μ.1.cls idx R0 f.2.1 f.2.2.1 ∈ tb) (via : R0 = f.1 ∨ Cond.sameField R0 f.1 f.2.1 f.2.2.1 ∈ tb) (hK : K[c]? = some (C, n, fs)) (hf : fs[j]? = some f)
    (la : Cond.lays C f.1 f.2.1 f.2.2.1 ∈ tb ∨ (Cond.laysFinal C f.1 f.2.1 f.2.2.1 ∈ tb ∧ μ.1.cls = f.1 ∧ μ.1.name = "<init>")) (hn : narrow f.2.2.2 v = v') (hfi : fits f.2.2.2 v' = true) (hH : H[i]? = some (.inl (c, vs)))
    (h : W tb K μ rm (pc + 3) L S (H.set i (.inl (c, vs.set j v'))) Q) : W tb K μ rm pc L (v :: .ref i :: S) H Q := by
  intro hL Z a0 p l e R s m args below meth c' T locs cells slots X
  obtain ⟨X0, hx, hZ, hw, hby, hml, hrt, hnm, hlk, hown, hR, hFr, hr⟩ := X
  have CO := hR.2 _ _ hH
  obtain ⟨C', n', fs', k1, k2, k3, k4⟩ := CO
  cases hK.symm.trans k1
  have hl : j < vs.length := by rw [k2]; exact (List.getElem?_eq_some_iff.mp hf).1
  have F := k4 j f vs[j] hf (List.getElem?_eq_getElem hl)
  obtain ⟨o1, o2, o3⟩ := hKO _ (mem_of_get hK)
  obtain ⟨T1, h1, X1, e1, W1, st⟩ := RoadKit.putFN X0 hx hZ hown (hw _ w) (via_of hw via) rfl F k3 (la.imp (hw _) fun q => ⟨hw _ q.1, q.2.1, hnm.trans q.2.2⟩) (hw _ o1) (o2 f (List.mem_of_getElem? hf)).2 (v := cv Z.heap.size v) (v' := cv Z.heap.size v') (by rw [cv_narrow, hn]) (by rw [cv_fits]; exact hfi) (g := mkF m pc (L.map (cs Z.heap.size)).toArray ((v :: Value.ref i :: S).map (cv Z.heap.size))) rfl rfl (hb hby hd)
  exact (h hL Z a0 p l e R s m args below meth c' T1 _ cells slots ⟨X1, hx, hZ, hw, hby, hml, hrt, hnm, hlk, hown, e1 ▸ hR.set W1 (CellOk.put (i := i) hKO hw hK hf W1 (hR.2 _ _ hH)), Fr.snoc X1 hFr (Nat.le_add_right _ _), hr⟩).steps st
/-- the index j is the natural N -/
abbrev ix (j : Int32) (N : Nat) : Prop := ¬ j < 0 ∧ j.toNatClampNeg = N
theorem ix_ofNat {N : Nat} (h : N < 2 ^ 31) : ix (Int32.ofNat N) N := by
  have e : (Int32.ofNat N).toInt = N := Int32.toInt_ofNat_of_lt h
  refine ⟨?_, ?_⟩
  · rw [Int32.lt_iff_toInt_lt, e]; simp
  · rw [Int32.toNatClampNeg, e]; rfl
theorem inb {cell : Cell} {j : Int32} {N : Nat} {vs : List Value} {k : Nat} (k2 : cell.slots = (vs.map (cv k)).toArray) (hj : ¬ j < 0) (hN : j.toNatClampNeg = N) (hl : N < vs.length) : ¬ (j < 0 ∨ cell.slots.size ≤ j.toNatClampNeg) := by
  rw [k2, hN]; simp; exact ⟨by simpa using hj, hl⟩
/-- room for an object of n slots -/
def nok (rm : Room) (n : Nat) : Bool := Nat.ble 1 rm.cells && (Nat.ble n rm.slots && Nat.ble n 67108864)
theorem nok_spec {rm : Room} {n : Nat} (h : nok rm n = true) : 1 ≤ rm.cells ∧ n ≤ rm.slots ∧ n * 8 ≤ 536870912 := by
  simp only [nok, Bool.and_eq_true, Nat.ble_eq] at h
  omega
theorem W.new {idx c n i : Nat} {C : String} {fs : List (String × String × String × FieldType)} (hKO : KOk tb K) (hd : decode μ.2.1 pc = .ok (.new idx, 3)) (w : Cond.classLink μ.1.cls idx C ∈ tb) (wz : Cond.initialized C ∈ tb) (hK : K[c]? = some (C, n, fs)) (hi : H.length = i) (hr : nok rm n = true)
    (h : W tb K μ ⟨rm.frames, rm.cells - 1, rm.slots - n, rm.locals⟩ (pc + 3) L (.ref i :: S) (H ++ [.inl (c, fs.map fun f => defaultValue f.2.2.2)]) Q) : W tb K μ rm pc L S H Q := by
  intro hL Z a0 p l e R s m args below meth c' T locs cells slots X
  obtain ⟨X0, hx, hZ, hw, hby, hml, hrt, hnm, hlk, hown, hR, hFr, hr1, hr2, hr3, hr4⟩ := X
  obtain ⟨hc, hs, hb'⟩ := nok_spec hr
  obtain ⟨o1, o2, o3⟩ := hKO _ (mem_of_get hK)
  obtain ⟨vm', cC, kC, h1, h2, h3, h4, X', st⟩ := X0.newCold hx hown (mv hZ (hw _ w)) (mv hZ (hw _ (show Cond.instantiable C n ∈ tb from o1))) (mv hZ (hw _ wz)) (g := mkF m pc (L.map (cs Z.heap.size)).toArray (S.map (cv Z.heap.size))) rfl (hb hby hd) (by omega) (by omega)
  rw [hZ.alike.findClass] at h1
  obtain ⟨kZ, z1, -⟩ := Vm.findClass_spec h1
  obtain ⟨k', z2, z3⟩ := hZ.alike.2.2 _ _ z1
  cases h2.symm.trans z2
  have ei : kC.instanceTypes = kZ.instanceTypes := by rw [z3]
  have hN : (T.heap.push { cls := cC, slots := kC.instanceTypes.map defaultValue, vm := .none })[T.heap.size]? = some { cls := cC, slots := kC.instanceTypes.map defaultValue, vm := .none } := by simp
  have ea : Z.heap.size + i = T.heap.size := by rw [hR.1, hi]
  have CO : CellOk Z K (T.heap.push { cls := cC, slots := kC.instanceTypes.map defaultValue, vm := .none }) (Z.heap.size + H.length) (.inl (c, fs.map fun f => defaultValue f.2.2.2)) := by
    refine ⟨C, n, fs, hK, by simp, ⟨_, kZ, by rw [← hR.1]; exact hN, h1, z1, rfl, fun _ => by simp [ei]⟩, fun j f v hf hv => ?_⟩
    have hv' : v = defaultValue f.2.2.2 := by simpa [hf] using hv.symm
    subst hv'
    obtain ⟨f1, f2⟩ := o2 f (List.mem_of_getElem? hf)
    obtain ⟨c1, k1, cf, kf, i1, ff, b1, b2, b3, b4, b5, b6, -⟩ := (FOk.laid ⟨f1, f2⟩ hw).spec
    cases h1.symm.trans b1
    cases z1.symm.trans b2
    rw [cv_default]
    exact ⟨_, cf, kf, i1, ff, by rw [← hR.1]; exact hN, b3, b4, by simp, rfl, b5, by simp [ei, b6, (State.fieldFound?_type b3 f2).2]⟩
  have := h hL Z a0 p l e R s m args below meth c' _ locs (cells + 1) (slots + n) ⟨X', hx, hZ, hw, hby, hml, hrt, hnm, hlk, hown, hR.push CO, hFr, hr1, by show cells + 1 + (rm.cells - 1) ≤ _; omega, by show slots + n + (rm.slots - n) ≤ _; omega, hr4⟩
  refine this.steps fun t ht => st t ?_
  rw [← ea]; exact ht
theorem W.newarray {aty : ArrayType} {ty : FieldType} {N i : Nat} {n : Int32} {d : Value} (hd : decode μ.2.1 pc = .ok (.newarray aty, 2)) (hty : newarray.typeOf aty = ty) (w : Cond.arrayClass ty ∈ tb) (hdv : defaultValue ty = d) (hn : ix n N) (hi : H.length = i) (hr : nok rm N = true)
    (h : W tb K μ ⟨rm.frames, rm.cells - 1, rm.slots - N, rm.locals⟩ (pc + 2) L (.ref i :: S) (H ++ [.inr (ty, List.replicate N d)]) Q) : W tb K μ rm pc L (.int n :: S) H Q := by
  intro hL Z a0 p l e R s m args below meth c' T locs cells slots X
  obtain ⟨X0, hx, hZ, hw, hby, hml, hrt, hnm, hlk, hown, hR, hFr, hr1, hr2, hr3, hr4⟩ := X
  obtain ⟨hn, hN⟩ := hn
  subst hty hdv hN
  obtain ⟨hc, hs, hb'⟩ := nok_spec hr
  have hcb : componentBytes (newarray.typeOf aty) ≤ 8 := by cases aty <;> decide
  obtain ⟨cA, kA, comp, h1, h2, h3, X', st⟩ := X0.newarrayPrim hx (mvA hZ (hw _ w)) (g := mkF m pc (L.map (cs Z.heap.size)).toArray ((Value.int n :: S).map (cv Z.heap.size))) rfl (hb hby hd) (n := n) rfl hn (Nat.le_trans (Nat.mul_le_mul (Nat.le_refl _) hcb) hb') (by omega) (by omega)
  rw [hZ.alike.findClass] at h1
  obtain ⟨kZ, z1, -⟩ := Vm.findClass_spec h1
  obtain ⟨k', z2, z3⟩ := hZ.alike.2.2 _ _ z1
  cases h2.symm.trans z2
  have hN : (T.heap.push { cls := cA, slots := Array.replicate n.toNatClampNeg (defaultValue (newarray.typeOf aty)), vm := .none })[T.heap.size]? = some { cls := cA, slots := Array.replicate n.toNatClampNeg (defaultValue (newarray.typeOf aty)), vm := .none } := by simp
  have ea : Z.heap.size + i = T.heap.size := by rw [hR.1, hi]
  have CO : CellOk Z K (T.heap.push { cls := cA, slots := Array.replicate n.toNatClampNeg (defaultValue (newarray.typeOf aty)), vm := .none }) (Z.heap.size + H.length) (.inr (newarray.typeOf aty, List.replicate n.toNatClampNeg (defaultValue (newarray.typeOf aty)))) := by
    refine ⟨_, ⟨by rw [← hR.1]; exact hN, ⟨by simp, kZ, z1, comp, by rw [← h3, z3]⟩, by simp⟩, by simp [cv_default], fun v hv => ?_⟩
    rw [(List.mem_replicate.mp hv).2]
    cases aty <;> rfl
  have := h hL Z a0 p l e R s m args below meth c' _ locs (cells + 1) (slots + n.toNatClampNeg) ⟨X', hx, hZ, hw, hby, hml, hrt, hnm, hlk, hown, hR.push CO, hFr, hr1, by show cells + 1 + (rm.cells - 1) ≤ _; omega, by show slots + n.toNatClampNeg + (rm.slots - n.toNatClampNeg) ≤ _; omega, hr4⟩
  refine this.steps fun t ht => st t ?_
  rw [← ea]; exact ht
theorem W.arraylength {i : Nat} {ty : FieldType} {vs : List Value} (hd : decode μ.2.1 pc = .ok (.arraylength, 1)) (hH : H[i]? = some (.inr (ty, vs))) (h : W tb K μ rm (pc + 1) L (.int (Int32.ofNat vs.length) :: S) H Q) : W tb K μ rm pc L (.ref i :: S) H Q := by
  intro hL Z a0 p l e R s m args below meth c' T locs cells slots X
  have X' := X
  obtain ⟨X0, hx, hZ, hw, hby, hml, hrt, hnm, hlk, hown, hR, hr⟩ := X
  obtain ⟨cell, A, k2, k3⟩ := hR.2 _ _ hH
  refine (h hL Z a0 p l e R s m args below meth c' T locs cells slots X').steps fun t ht => ?_
  refine X0.arraylength hx A.1 (State.isArrayOf_alike hZ.alike A.2.1) (g := mkF m pc (L.map (cs Z.heap.size)).toArray ((Value.ref i :: S).map (cv Z.heap.size))) rfl rfl (hb hby hd) t ?_
  have e : cell.slots.size.toInt32 = Int32.ofNat vs.length := by rw [k2]; simp
  rw [e]; exact ht
theorem W.xaload {ins : Instr} {ty : FieldType} (hk : (ins = .iaload ∧ ty = .int) ∨ (ins = .laload ∧ ty = .long) ∨ (ins = .baload ∧ (ty = .byte ∨ ty = .boolean))) {i N : Nat} {j : Int32} {vs : List Value} {v : Value} (hd : decode μ.2.1 pc = .ok (ins, 1)) (hH : H[i]? = some (.inr (ty, vs))) (hj : ix j N) (hv : vs[N]? = some v)
    (h : W tb K μ rm (pc + 1) L (v :: S) H Q) : W tb K μ rm pc L (.int j :: .ref i :: S) H Q := by
  intro hL Z a0 p l e R s m args below meth c' T locs cells slots X
  have X' := X
  obtain ⟨X0, hx, hZ, hw, hby, hml, hrt, hnm, hlk, hown, hR, hr⟩ := X
  obtain ⟨cell, A, k2, k3⟩ := hR.2 _ _ hH
  have hN := hj.2
  have hin := inb k2 hj.1 hN (List.getElem?_eq_some_iff.mp hv).1
  have hv' : cell.slots[j.toNatClampNeg]? = some (cv Z.heap.size v) := by rw [k2, hN]; simp [hv]
  refine (h hL Z a0 p l e R s m args below meth c' T locs cells slots X').steps fun t ht => ?_
  rcases hk with ⟨rfl, rfl⟩ | ⟨rfl, rfl⟩ | ⟨rfl, rfl | rfl⟩
  · exact X0.iaload hx A.1 (State.isArrayOf_alike hZ.alike A.2.1) A.2.2 hin hv' (g := mkF m pc (L.map (cs Z.heap.size)).toArray ((Value.int j :: Value.ref i :: S).map (cv Z.heap.size))) rfl rfl (hb hby hd) t ht
  · exact X0.laload hx A.1 (State.isArrayOf_alike hZ.alike A.2.1) A.2.2 hin hv' (g := mkF m pc (L.map (cs Z.heap.size)).toArray ((Value.int j :: Value.ref i :: S).map (cv Z.heap.size))) rfl rfl (hb hby hd) t ht
  · exact X0.baloadBytes hx A.1 (State.isArrayOf_alike hZ.alike A.2.1) A.2.2 hin hv' (g := mkF m pc (L.map (cs Z.heap.size)).toArray ((Value.int j :: Value.ref i :: S).map (cv Z.heap.size))) rfl rfl (hb hby hd) t ht
  · exact X0.baloadBooleans hx A.1 (State.isArrayOf_alike hZ.alike A.2.1) A.2.2 hin hv' (g := mkF m pc (L.map (cs Z.heap.size)).toArray ((Value.int j :: Value.ref i :: S).map (cv Z.heap.size))) rfl rfl (hb hby hd) t ht
theorem W.iastore {i N : Nat} {j x : Int32} {vs : List Value} (hd : decode μ.2.1 pc = .ok (.iastore, 1)) (hH : H[i]? = some (.inr (.int, vs))) (hj : ix j N) (hl : Nat.blt N vs.length = true)
    (h : W tb K μ rm (pc + 1) L S (H.set i (.inr (.int, vs.set N (.int x)))) Q) : W tb K μ rm pc L (.int x :: .int j :: .ref i :: S) H Q := by
  intro hL Z a0 p l e R s m args below meth c' T locs cells slots X
  obtain ⟨X0, hx, hZ, hw, hby, hml, hrt, hnm, hlk, hown, hR, hFr, hr⟩ := X
  have CO := hR.2 _ _ hH
  obtain ⟨cell, A, k2, k3⟩ := CO
  obtain ⟨T1, h1, X1, e1, W1, st⟩ := stI X0 hx hZ rfl A (inb k2 hj.1 hj.2 (Nat.blt_eq.mp hl)) (g := mkF m pc (L.map (cs Z.heap.size)).toArray ((Value.int x :: Value.int j :: Value.ref i :: S).map (cv Z.heap.size))) rfl rfl (hb hby hd)
  rw [hj.2] at W1
  exact (h hL Z a0 p l e R s m args below meth c' T1 _ cells slots ⟨X1, hx, hZ, hw, hby, hml, hrt, hnm, hlk, hown, e1 ▸ hR.set W1 (CellOk.sto (v := .int x) W1 (hR.2 _ _ hH) rfl), Fr.snoc X1 hFr (Nat.le_add_right _ _), hr⟩).steps st
theorem W.lastore {i N : Nat} {j : Int32} {x : Int64} {vs : List Value} (hd : decode μ.2.1 pc = .ok (.lastore, 1)) (hH : H[i]? = some (.inr (.long, vs))) (hj : ix j N) (hl : Nat.blt N vs.length = true)
    (h : W tb K μ rm (pc + 1) L S (H.set i (.inr (.long, vs.set N (.long x)))) Q) : W tb K μ rm pc L (.long x :: .int j :: .ref i :: S) H Q := by
  intro hL Z a0 p l e R s m args below meth c' T locs cells slots X
  obtain ⟨X0, hx, hZ, hw, hby, hml, hrt, hnm, hlk, hown, hR, hFr, hr⟩ := X
  have CO := hR.2 _ _ hH
  obtain ⟨cell, A, k2, k3⟩ := CO
  obtain ⟨T1, h1, X1, e1, W1, st⟩ := stJ X0 hx hZ rfl A (inb k2 hj.1 hj.2 (Nat.blt_eq.mp hl)) (g := mkF m pc (L.map (cs Z.heap.size)).toArray ((Value.long x :: Value.int j :: Value.ref i :: S).map (cv Z.heap.size))) rfl rfl (hb hby hd)
  rw [hj.2] at W1
  exact (h hL Z a0 p l e R s m args below meth c' T1 _ cells slots ⟨X1, hx, hZ, hw, hby, hml, hrt, hnm, hlk, hown, e1 ▸ hR.set W1 (CellOk.sto (v := .long x) W1 (hR.2 _ _ hH) rfl), Fr.snoc X1 hFr (Nat.le_add_right _ _), hr⟩).steps st
theorem W.bastore {i N : Nat} {j x : Int32} {vs : List Value} (hd : decode μ.2.1 pc = .ok (.bastore, 1)) (hH : H[i]? = some (.inr (.byte, vs))) (hj : ix j N) (hl : Nat.blt N vs.length = true)
    (h : W tb K μ rm (pc + 1) L S (H.set i (.inr (.byte, vs.set N (.int x.toInt8.toInt32)))) Q) : W tb K μ rm pc L (.int x :: .int j :: .ref i :: S) H Q := by
  intro hL Z a0 p l e R s m args below meth c' T locs cells slots X
  obtain ⟨X0, hx, hZ, hw, hby, hml, hrt, hnm, hlk, hown, hR, hFr, hr⟩ := X
  have CO := hR.2 _ _ hH
  obtain ⟨cell, A, k2, k3⟩ := CO
  obtain ⟨T1, h1, X1, e1, W1, st⟩ := stB X0 hx hZ rfl A (inb k2 hj.1 hj.2 (Nat.blt_eq.mp hl)) (g := mkF m pc (L.map (cs Z.heap.size)).toArray ((Value.int x :: Value.int j :: Value.ref i :: S).map (cv Z.heap.size))) rfl rfl (hb hby hd)
  rw [hj.2] at W1
  exact (h hL Z a0 p l e R s m args below meth c' T1 _ cells slots ⟨X1, hx, hZ, hw, hby, hml, hrt, hnm, hlk, hown, e1 ▸ hR.set W1 (CellOk.sto (v := .int x.toInt8.toInt32) W1 (hR.2 _ _ hH) (fits_nar_byte x)), Fr.snoc X1 hFr (Nat.le_add_right _ _), hr⟩).steps st
theorem W.bastoreZ {i N : Nat} {j x : Int32} {vs : List Value} (hd : decode μ.2.1 pc = .ok (.bastore, 1)) (hH : H[i]? = some (.inr (.boolean, vs))) (hj : ix j N) (hl : Nat.blt N vs.length = true)
    (h : W tb K μ rm (pc + 1) L S (H.set i (.inr (.boolean, vs.set N (.int (x &&& 1))))) Q) : W tb K μ rm pc L (.int x :: .int j :: .ref i :: S) H Q := by
  intro hL Z a0 p l e R s m args below meth c' T locs cells slots X
  obtain ⟨X0, hx, hZ, hw, hby, hml, hrt, hnm, hlk, hown, hR, hFr, hr⟩ := X
  have CO := hR.2 _ _ hH
  obtain ⟨cell, A, k2, k3⟩ := CO
  obtain ⟨T1, h1, X1, e1, W1, st⟩ := stZ X0 hx hZ rfl A (inb k2 hj.1 hj.2 (Nat.blt_eq.mp hl)) (g := mkF m pc (L.map (cs Z.heap.size)).toArray ((Value.int x :: Value.int j :: Value.ref i :: S).map (cv Z.heap.size))) rfl rfl (hb hby hd)
  rw [hj.2] at W1
  exact (h hL Z a0 p l e R s m args below meth c' T1 _ cells slots ⟨X1, hx, hZ, hw, hby, hml, hrt, hnm, hlk, hown, e1 ▸ hR.set W1 (CellOk.sto (v := .int (x &&& 1)) W1 (hR.2 _ _ hH) (fits_nar_bool x)), Fr.snoc X1 hFr (Nat.le_add_right _ _), hr⟩).steps st
theorem W.ldcInt {idx : Nat} {x : Int32} (hd : decode μ.2.1 pc = .ok (.ldc idx, 2)) (w : Cond.constant μ.1.cls idx x ∈ tb) (h : W tb K μ rm (pc + 2) L (.int x :: S) H Q) : W tb K μ rm pc L S H Q := by
  intro hL Z a0 p l e R s m args below meth c' T locs cells slots X
  have X' := X
  obtain ⟨X0, hx, hZ, hw, hby, hml, hrt, hnm, hlk, hown, hR, hr⟩ := X
  exact (h hL Z a0 p l e R s m args below meth c' T locs cells slots X').steps (X0.ldcInt hx hown (mvT hZ (hw _ w)) (g := mkF m pc (L.map (cs Z.heap.size)).toArray (S.map (cv Z.heap.size))) rfl (hb hby hd))
theorem W.ldcLong {idx : Nat} {x : Int64} (hd : decode μ.2.1 pc = .ok (.ldc2_w idx, 3)) (w : Cond.constantLong μ.1.cls idx x ∈ tb) (h : W tb K μ rm (pc + 3) L (.long x :: S) H Q) : W tb K μ rm pc L S H Q := by
  intro hL Z a0 p l e R s m args below meth c' T locs cells slots X
  have X' := X
  obtain ⟨X0, hx, hZ, hw, hby, hml, hrt, hnm, hlk, hown, hR, hr⟩ := X
  exact (h hL Z a0 p l e R s m args below meth c' T locs cells slots X').steps (X0.ldc2Long hx hown (mvT hZ (hw _ w)) (g := mkF m pc (L.map (cs Z.heap.size)).toArray (S.map (cv Z.heap.size))) rfl (hb hby hd))
end Logic
end Jvm.Own
namespace Jvm.Own
open Sem ClassFile Op Lib Jvm.Stand Jvm.Free Jvm.LawKit Jvm.RoadKit
section Logic
variable {tb : List Cond} {K : KTab} {μ μ' : Mth} {rm rm' : Room} {pc : Nat} {L : List Slot} {S : List Value} {H : AHeap} {Q Q' : Option Value → AHeap → Prop}
theorem W.ret_ (hd : decode μ.2.1 pc = .ok (.return_, 1)) (hr0 : μ.2.2.2 = none) (hQ : Q none H) : W tb K μ rm pc L [] H Q := by
  intro hL Z a0 p l e R s m args below meth c' T locs cells slots X
  obtain ⟨X0, hx, hZ, hw, hby, hml, hrt, hnm, hlk, hown, hR, hFr, hr1, hr2, hr3, hr4⟩ := X
  obtain ⟨fs, hr, hrun, hended, hW, hsame⟩ := X0.leave (v := none) (fun _ => rfl) hlk
  exact ⟨none, H, T, locs, fs, hQ, X0.returnOut hx (hrt.trans hr0) (hb hby hd) hr, hrun, hended, hW, hsame.mono (by omega) (by omega), hFr, hR⟩
theorem W.ireturn {x : Int32} (hd : decode μ.2.1 pc = .ok (.ireturn, 1)) (hr0 : μ.2.2.2 = some .int) (hQ : Q (some (.int x)) H) : W tb K μ rm pc L (.int x :: S) H Q := by
  intro hL Z a0 p l e R s m args below meth c' T locs cells slots X
  obtain ⟨X0, hx, hZ, hw, hby, hml, hrt, hnm, hlk, hown, hR, hFr, hr1, hr2, hr3, hr4⟩ := X
  obtain ⟨fs, hr, hrun, hended, hW, hsame⟩ := X0.leave (v := some (.int x)) (fun h => by rw [hrt, hr0] at h; cases h) hlk
  exact ⟨some (.int x), H, T, locs, fs, hQ, retOut X0 hx (hrt.trans hr0) rfl (Or.inl ⟨rfl, Or.inl rfl, _, rfl⟩) (hb hby hd) hr, hrun, hended, hW, hsame.mono (by omega) (by omega), hFr, hR⟩
theorem W.ireturnN {t : FieldType} {x : Int32} (hd : decode μ.2.1 pc = .ok (.ireturn, 1)) (hr0 : μ.2.2.2 = some t) (ht : t = .boolean ∨ t = .byte ∨ t = .char ∨ t = .short) (hQ : Q (some (.int (nar t x))) H) : W tb K μ rm pc L (.int x :: S) H Q := by
  intro hL Z a0 p l e R s m args below meth c' T locs cells slots X
  obtain ⟨X0, hx, hZ, hw, hby, hml, hrt, hnm, hlk, hown, hR, hFr, hr1, hr2, hr3, hr4⟩ := X
  obtain ⟨fs, hr, hrun, hended, hW, hsame⟩ := X0.leave (v := some (.int (nar t x))) (fun h => by rw [hrt, hr0] at h; cases h) hlk
  exact ⟨some (.int (nar t x)), H, T, locs, fs, hQ, retN X0 hx (hrt.trans hr0) ht (hb hby hd) hr, hrun, hended, hW, hsame.mono (by omega) (by omega), hFr, hR⟩
theorem W.ireturnZ {x : Int32} (hd : decode μ.2.1 pc = .ok (.ireturn, 1)) (hr0 : μ.2.2.2 = some .boolean) (hQ : Q (some (.int (x &&& 1))) H) : W tb K μ rm pc L (.int x :: S) H Q := W.ireturnN hd hr0 (Or.inl rfl) hQ
theorem W.lreturn {x : Int64} (hd : decode μ.2.1 pc = .ok (.lreturn, 1)) (hr0 : μ.2.2.2 = some .long) (hQ : Q (some (.long x)) H) : W tb K μ rm pc L (.long x :: S) H Q := by
  intro hL Z a0 p l e R s m args below meth c' T locs cells slots X
  obtain ⟨X0, hx, hZ, hw, hby, hml, hrt, hnm, hlk, hown, hR, hFr, hr1, hr2, hr3, hr4⟩ := X
  obtain ⟨fs, hr, hrun, hended, hW, hsame⟩ := X0.leave (v := some (.long x)) (fun h => by rw [hrt, hr0] at h; cases h) hlk
  exact ⟨some (.long x), H, T, locs, fs, hQ, retOut X0 hx (hrt.trans hr0) rfl (Or.inr (Or.inl ⟨rfl, rfl, _, rfl⟩)) (hb hby hd) hr, hrun, hended, hW, hsame.mono (by omega) (by omega), hFr, hR⟩
theorem W.areturn {t : FieldType} {v : Value} (hd : decode μ.2.1 pc = .ok (.areturn, 1)) (hr0 : μ.2.2.2 = some t) (ht : t.isReference = true) (hv : v.isRef = true) (hQ : Q (some v) H) : W tb K μ rm pc L (v :: S) H Q := by
  intro hL Z a0 p l e R s m args below meth c' T locs cells slots X
  obtain ⟨X0, hx, hZ, hw, hby, hml, hrt, hnm, hlk, hown, hR, hFr, hr1, hr2, hr3, hr4⟩ := X
  obtain ⟨fs, hr, hrun, hended, hW, hsame⟩ := X0.leave (v := some (cv Z.heap.size v)) (fun h => by rw [hrt, hr0] at h; cases h) hlk
  exact ⟨some v, H, T, locs, fs, hQ, retOut X0 hx (hrt.trans hr0) (by cases v <;> first | (cases t <;> rfl) | cases hv) (Or.inr (Or.inr (Or.inr (Or.inr ⟨rfl, ht, by rw [cv_isRef]; exact hv⟩)))) (hb hby hd) hr, hrun, hended, hW, hsame.mono (by omega) (by omega), hFr, hR⟩
/-- what a call leaves of the room -/
abbrev less (rm rm' : Room) : Room := ⟨rm.frames, rm.cells - rm'.cells, rm.slots - rm'.slots, rm.locals⟩
abbrev wt (S : List Value) : Nat := (S.map fun v => v.category).sum
abbrev plainCls (μ' : Mth) : Prop := μ'.1.cls ≠ "java/lang/invoke/MethodHandle" ∧ μ'.1.cls ≠ "java/lang/invoke/VarHandle"
/-- room for a call: S stays on the stack, n locals -/
def rok (rm rm' : Room) (n : Nat) (S : List Value) : Bool := Nat.ble (rm'.frames + 1) rm.frames && (Nat.ble (wt S + (n + 11) + rm'.locals) rm.locals && (Nat.ble rm'.cells rm.cells && Nat.ble rm'.slots rm.slots))
theorem rok_spec {rm rm' : Room} {n : Nat} {S : List Value} (h : rok rm rm' n S = true) : rm'.frames + 1 ≤ rm.frames ∧ wt S + (n + 11) + rm'.locals ≤ rm.locals ∧ rm'.cells ≤ rm.cells ∧ rm'.slots ≤ rm.slots := by
  simp only [rok, Bool.and_eq_true, Nat.ble_eq] at h
  exact h
/-- room for Object's constructor -/
def iok (rm : Room) (S : List Value) : Bool := Nat.ble 1 rm.frames && Nat.ble (wt S + 12) rm.locals
/-- a callee that answers one value and leaves one heap -/
abbrev Is (v0 : Option Value) (H0 : AHeap) : Option Value → AHeap → Prop := fun v H => v = v0 ∧ H = H0
theorem hs {H : AHeap} {i : Nat} {c c' : ACell} (h : H[i]? = some c) : (H.set i c')[i]? = some c' := List.getElem?_set_self (List.getElem?_eq_some_iff.mp h).1
theorem hn {H : AHeap} {i j : Nat} {c c' : ACell} (h : H[j]? = some c) (ne : i ≠ j) : (H.set i c')[j]? = some c := by rw [List.getElem?_set_ne ne]; exact h
theorem ha {H H' : AHeap} {j : Nat} {c : ACell} (h : H[j]? = some c) : (H ++ H')[j]? = some c := by rw [List.getElem?_append_left (List.getElem?_eq_some_iff.mp h).1]; exact h
theorem back_st (k : Nat) (v : Option Value) (S : List Value) : (v.map (cv k)).toList ++ S.map (cv k) = (v.toList ++ S).map (cv k) := by cases v <;> rfl
theorem W.callS {idx : Nat} {as : List Value} {S0 : List Value} {ps : List FieldType} {r : Option FieldType} (hd : decode μ.2.1 pc = .ok (.invokestatic idx, 3)) (w1 : Cond.methodLink μ.1.cls idx μ'.1 ∈ tb) (w2 : Cond.static μ'.1 ∈ tb) (w3 : Cond.initialized μ'.1.cls ∈ tb) (w4 : Cond.code μ'.1 μ'.2.1 μ'.2.2.1 μ'.2.2.2 ∈ tb) (hy : plainCls μ')
    (hp : parseMethodDescriptor μ'.1.desc = some ⟨ps, r⟩) (hlen : as.length = ps.length) (hS : S0 = as.reverse ++ S) (hM : M tb K μ' rm' as H Q') (hr : rok rm rm' μ'.2.2.1 S = true)
    (h : ∀ v H', Q' v H' → W tb K μ (less rm rm') (pc + 3) L (v.toList ++ S) H' Q) : W tb K μ rm pc L S0 H Q := by
  intro hL Z a0 p l e R s m args below meth c' T locs cells slots X
  obtain ⟨X0, hx, hZ, hw, hby, hml, hrt, hnm, hlk, hown, hR, hFr, hr1, hr2, hr3, hr4⟩ := X
  obtain ⟨hf, hl, hc, hs⟩ := rok_spec hr
  obtain ⟨_, vm1, ⟨T1, L1, k1, n1⟩, hW1, X1, ⟨Lc, ⟨v', H', rfl, hR', hq', hFr'⟩, l1, y1, z1⟩, st⟩ := Jvm.LawKit.callS X0 hx (y := μ'.1) hown (mvT hZ (hw _ w1)) (mvT hZ (hw _ w2)) (mvT hZ (hw _ w3)) (mvT hZ (hw _ w4)) hy (backOf (R := R) (rm := rm') (h := T.heap) (Q := fun v h L => ∃ v' H', v = Option.map (cv Z.heap.size) v' ∧ Rel Z K h H' ∧ Q' v' H' ∧ Fr Z.heap.size L) (W := wt S) (hM Z a0 hw l T.heap [] hR) hZ (hw _ w4) (hw _ w3) (by omega) (by omega))
    (g := mkF m pc (L.map (cs Z.heap.size)).toArray (S0.map (cv Z.heap.size))) rfl (by simp [hL, hml]) (argsL := as.map (cv Z.heap.size)) (rest := S.map (cv Z.heap.size)) (lenOf hp (by simpa using hlen)) (by rw [hS]; simp) (by show 2 * 0 + _ ≤ _; rw [cat_map]; exact Nat.le_of_eq (by simp)) (hb hby hd) (fun _ _ => ⟨rfl, rfl, by show cells + _ ≤ _; omega, by show slots + _ ≤ _; omega⟩)
  dsimp only [Pt.U, Pt.locs, Pt.cells, Pt.slots] at X1 l1 y1 z1 st hR'
  subst l1 y1 z1
  rw [back_st] at st
  exact (h v' H' hq' hL Z a0 p l e R s m args below meth c' T1 _ _ _ ⟨X1, hx, hZ, hw, hby, hml, hrt, hnm, hlk, hown, hR', Fr.app hFr hFr', hr1, by show cells + _ + (rm.cells - _) ≤ _; omega, by show slots + _ + (rm.slots - _) ≤ _; omega, hr4⟩).steps st
theorem W.callI {idx i : Nat} {as : List Value} {S0 : List Value} {ps : List FieldType} {r : Option FieldType} (hd : decode μ.2.1 pc = .ok (.invokespecial idx, 3)) (hn : μ'.1.name = "<init>") (hr0 : μ'.2.2.2 = none) (w1 : Cond.methodLink μ.1.cls idx μ'.1 ∈ tb) (w2 : Cond.instanceMethod μ'.1 ∈ tb) (w3 : Cond.initialized μ'.1.cls ∈ tb) (w4 : Cond.code μ'.1 μ'.2.1 μ'.2.2.1 μ'.2.2.2 ∈ tb) (hy : plainCls μ')
    (hp : parseMethodDescriptor μ'.1.desc = some ⟨ps, r⟩) (hlen : as.length = ps.length) (hS : S0 = as.reverse ++ .ref i :: S) (hM : M tb K μ' rm' (.ref i :: as) H Q') (hr : rok rm rm' μ'.2.2.1 S = true)
    (h : ∀ v H', Q' v H' → W tb K μ (less rm rm') (pc + 3) L (v.toList ++ S) H' Q) : W tb K μ rm pc L S0 H Q := by
  intro hL Z a0 p l e R s m args below meth c' T locs cells slots X
  obtain ⟨X0, hx, hZ, hw, hby, hml, hrt, hnm, hlk, hown, hR, hFr, hr1, hr2, hr3, hr4⟩ := X
  obtain ⟨hf, hl, hc, hs⟩ := rok_spec hr
  have w4' : (Cond.code μ'.1 μ'.2.1 μ'.2.2.1 none).before a0 Z = true := by have q := hw _ w4; rw [hr0] at q; exact q
  obtain ⟨_, vm1, ⟨T1, L1, k1, n1⟩, hW1, X1, ⟨Lc, ⟨v', H', rfl, hR', hq', hFr'⟩, l1, y1, z1⟩, st⟩ := X0.specialBack hx (y := μ'.1) hn hown (mvT hZ (hw _ w1)) (mvT hZ (hw _ w2)) (mvT hZ w4') hy (backOf (R := R) (rm := rm') (h := T.heap) (Q := fun v h L => ∃ v' H', v = Option.map (cv Z.heap.size) v' ∧ Rel Z K h H' ∧ Q' v' H' ∧ Fr Z.heap.size L) (W := wt S) (hM Z a0 hw l T.heap [] hR) hZ (hw _ w4) (hw _ w3) (by omega) (by omega))
    (g := mkF m pc (L.map (cs Z.heap.size)).toArray (S0.map (cv Z.heap.size))) rfl (by simp [hL, hml]) (Steps.refl _) (a := Z.heap.size + i) (argsL := as.map (cv Z.heap.size)) (rest := S.map (cv Z.heap.size)) (lenOf hp (by simpa using hlen)) (by rw [hS]; simp [cv]) (by show 2 * 0 + _ ≤ _; rw [cat_map]; exact Nat.le_of_eq (by simp)) (hb hby hd) (fun _ _ => ⟨rfl, rfl, by show cells + _ ≤ _; omega, by show slots + _ ≤ _; omega⟩)
  dsimp only [Pt.U, Pt.locs, Pt.cells, Pt.slots] at X1 l1 y1 z1 st hR'
  subst l1 y1 z1
  rw [back_st] at st
  exact (h v' H' hq' hL Z a0 p l e R s m args below meth c' T1 _ _ _ ⟨X1, hx, hZ, hw, hby, hml, hrt, hnm, hlk, hown, hR', Fr.app hFr hFr', hr1, by show cells + _ + (rm.cells - _) ≤ _; omega, by show slots + _ + (rm.slots - _) ≤ _; omega, hr4⟩).steps (fun t ht => st.trans ht)
/-- the opcode that returns nothing -/
def opReturn : UInt8 := 177
/-- java/lang/Object's constructor -/
theorem W.initO {idx i : Nat} (hd : decode μ.2.1 pc = .ok (.invokespecial idx, 3)) (w1 : Cond.methodLink μ.1.cls idx Lib.objectInit ∈ tb) (w2 : Cond.instanceMethod Lib.objectInit ∈ tb) (w3 : Cond.code Lib.objectInit ⟨#[opReturn]⟩ 1 none ∈ tb) (hr : iok rm S = true)
    (h : W tb K μ rm (pc + 3) L S H Q) : W tb K μ rm pc L (.ref i :: S) H Q := by
  intro hL Z a0 p l e R s m args below meth c' T locs cells slots X
  obtain ⟨X0, hx, hZ, hw, hby, hml, hrt, hnm, hlk, hown, hR, hFr, hr1, hr2, hr3, hr4⟩ := X
  simp only [iok, Bool.and_eq_true, Nat.ble_eq] at hr
  obtain ⟨hf, hl⟩ := hr
  obtain ⟨T1, X1, e1, st⟩ := RoadKit.initO X0 hx hZ hown (hw _ w1) (hw _ w2) (hw _ w3) rfl (g := mkF m pc (L.map (cs Z.heap.size)).toArray ((Value.ref i :: S).map (cv Z.heap.size))) rfl (by simp [hL, hml]) rfl (hb hby hd) (by omega) (W := wt S) (by show 2 * 0 + _ ≤ _; rw [cat_map]; exact Nat.le_of_eq (by simp)) (by omega)
  exact (h hL Z a0 p l e R s m args below meth c' T1 locs cells slots ⟨X1, hx, hZ, hw, hby, hml, hrt, hnm, hlk, hown, e1 ▸ hR, hFr, hr1, hr2, hr3, hr4⟩).steps st
theorem W.callV {idx i c n : Nat} {C : String} {fs : List (String × String × String × FieldType)} {vs : List Value} {y : MethodName} {as : List Value} {S0 : List Value} {ps : List FieldType} {r : Option FieldType} (hd : decode μ.2.1 pc = .ok (.invokevirtual idx, 3)) (w1 : Cond.methodLink μ.1.cls idx y ∈ tb) (w2 : Cond.declares y ∈ tb) (w3 : Cond.selects C y μ'.1 ∈ tb) (hnf : y = μ'.1 ∨ ∃ q ∈ K, q.1 = y.cls) (hKO : KOk tb K)
    (w4 : Cond.instanceMethod μ'.1 ∈ tb) (w5 : Cond.initialized μ'.1.cls ∈ tb) (w6 : Cond.code μ'.1 μ'.2.1 μ'.2.2.1 μ'.2.2.2 ∈ tb) (hy : y.cls ≠ "java/lang/invoke/MethodHandle" ∧ y.cls ≠ "java/lang/invoke/VarHandle") (hK : K[c]? = some (C, n, fs)) (hp : parseMethodDescriptor y.desc = some ⟨ps, r⟩) (hlen : as.length = ps.length) (hS : S0 = as.reverse ++ .ref i :: S)
    (hH : H[i]? = some (.inl (c, vs))) (hM : M tb K μ' rm' (.ref i :: as) H Q') (hr : rok rm rm' μ'.2.2.1 S = true)
    (h : ∀ v H', Q' v H' → W tb K μ (less rm rm') (pc + 3) L (v.toList ++ S) H' Q) : W tb K μ rm pc L S0 H Q := by
  intro hL Z a0 p l e R s m args below meth c' T locs cells slots X
  obtain ⟨X0, hx, hZ, hw, hby, hml, hrt, hnm, hlk, hown, hR, hFr, hr1, hr2, hr3, hr4⟩ := X
  obtain ⟨hf, hl, hc, hs⟩ := rok_spec hr
  obtain ⟨C', n', fs', q1, q2, q3, q4⟩ := hR.2 _ _ hH
  cases hK.symm.trans q1
  obtain ⟨cB, kB, b1, b2, b3⟩ := isOf (T := T) hZ rfl q3
  have nf : NotFace s y := by
    rcases hnf with rfl | ⟨q, hq, hqc⟩
    · exact notFace_of_selects (args := #[]) (mvT hZ (hw _ w3))
    · intro r0 h0
      have g1 := findClass_of_methodNamed h0
      obtain ⟨c1, k1, i1, i2, i3, i4, -⟩ := Cond.instantiable_spec (args := #[]) (s := s) (mv hZ (hw _ (hKO q hq).1))
      rw [hqc] at i1
      cases g1.symm.trans i1
      exact ⟨k1, i2, by simp only [Bool.or_eq_false_iff] at i4; exact i4.1⟩
  obtain ⟨_, vm1, ⟨T1, L1, k1, n1⟩, hW1, X1, ⟨Lc, ⟨v', H', rfl, hR', hq', hFr'⟩, l1, y1, z1⟩, st⟩ := X0.virtualBack hx (y := y) (z := μ'.1) hown (mvT hZ (hw _ w1)) (mvT hZ (hw _ w2)) nf (mvT hZ (hw _ w3)) (mvT hZ (hw _ w4)) hy (backOf (R := R) (rm := rm') (h := T.heap) (Q := fun v h L => ∃ v' H', v = Option.map (cv Z.heap.size) v' ∧ Rel Z K h H' ∧ Q' v' H' ∧ Fr Z.heap.size L) (W := wt S) (hM Z a0 hw l T.heap [] hR) hZ (hw _ w6) (hw _ w5) (by omega) (by omega)) b1 b3
    (g := mkF m pc (L.map (cs Z.heap.size)).toArray (S0.map (cv Z.heap.size))) rfl (by simp [hL, hml]) (Steps.refl _) (argsL := as.map (cv Z.heap.size)) (rest := S.map (cv Z.heap.size)) (lenOf hp (by simpa using hlen)) (by rw [hS]; simp [cv]) (by show 2 * 0 + _ ≤ _; rw [cat_map]; exact Nat.le_of_eq (by simp)) (hb hby hd) (fun _ _ => ⟨rfl, rfl, by show cells + _ ≤ _; omega, by show slots + _ ≤ _; omega⟩)
  dsimp only [Pt.U, Pt.locs, Pt.cells, Pt.slots] at X1 l1 y1 z1 st hR'
  subst l1 y1 z1
  rw [back_st] at st
  exact (h v' H' hq' hL Z a0 p l e R s m args below meth c' T1 _ _ _ ⟨X1, hx, hZ, hw, hby, hml, hrt, hnm, hlk, hown, hR', Fr.app hFr hFr', hr1, by show cells + _ + (rm.cells - _) ≤ _; omega, by show slots + _ + (rm.slots - _) ≤ _; omega, hr4⟩).steps (fun t ht => st.trans ht)
/-- a private method, by invokevirtual -/
theorem W.callP {idx i c n : Nat} {C : String} {fs : List (String × String × String × FieldType)} {vs : List Value} {as : List Value} {S0 : List Value} {ps : List FieldType} {r : Option FieldType} (hd : decode μ.2.1 pc = .ok (.invokevirtual idx, 3)) (w1 : Cond.methodLink μ.1.cls idx μ'.1 ∈ tb) (w2 : Cond.privateMethod μ'.1 ∈ tb) (hKO : KOk tb K)
    (w4 : Cond.instanceMethod μ'.1 ∈ tb) (w5 : Cond.initialized μ'.1.cls ∈ tb) (w6 : Cond.code μ'.1 μ'.2.1 μ'.2.2.1 μ'.2.2.2 ∈ tb) (hy : plainCls μ') (hK : K[c]? = some (C, n, fs)) (hC : C = μ'.1.cls) (hp : parseMethodDescriptor μ'.1.desc = some ⟨ps, r⟩) (hlen : as.length = ps.length) (hS : S0 = as.reverse ++ .ref i :: S)
    (hH : H[i]? = some (.inl (c, vs))) (hM : M tb K μ' rm' (.ref i :: as) H Q') (hr : rok rm rm' μ'.2.2.1 S = true)
    (h : ∀ v H', Q' v H' → W tb K μ (less rm rm') (pc + 3) L (v.toList ++ S) H' Q) : W tb K μ rm pc L S0 H Q := by
  intro hL Z a0 p l e R s m args below meth c' T locs cells slots X
  obtain ⟨X0, hx, hZ, hw, hby, hml, hrt, hnm, hlk, hown, hR, hFr, hr1, hr2, hr3, hr4⟩ := X
  obtain ⟨hf, hl, hc, hs⟩ := rok_spec hr
  obtain ⟨C', n', fs', q1, q2, q3, q4⟩ := hR.2 _ _ hH
  cases hK.symm.trans q1
  obtain ⟨cell, c1, c2⟩ := q3.cell
  obtain ⟨mk, methM, m1, m2, m3, m4⟩ := Cond.instanceMethod_spec (args := args) (mv hZ (hw _ w4))
  obtain ⟨methM', cM, hmethM', -, -, -, -, -, -, hsigM⟩ := Cond.code_spec m1 (mv (args := args) hZ (hw _ w6))
  cases m2.symm.trans hmethM'
  obtain ⟨cc, kk, i1, i2, i3, i4, -⟩ := Cond.instantiable_spec (args := args) (s := s) (mv hZ (hw _ (hKO _ (mem_of_get hK)).1))
  have g1 := findClass_of_methodNamed m1
  rw [← hC] at g1
  cases g1.symm.trans i1
  have hni : kk.isInterface = false := by simp only [Bool.or_eq_false_iff] at i4; exact i4.1
  have hpriv : s.PrivateAt μ'.1 := Cond.privateMethod_at (mvP hZ (hw _ w2) (args := #[]))
  have hsel : selectMethod e.platform s.vm cell.cls mk = .method mk := selectMethod_private m2 (hpriv mk methM m1 m2)
  obtain ⟨vm1, X1', st1⟩ := X0.invokevirtual hx hown (mvT hZ (hw _ w1)) m1 m2 m3 i2 hni hy (a := Z.heap.size + i) (cell := cell) c1 c2 hsel m2 m4 i2 hni (g := mkF m pc (L.map (cs Z.heap.size)).toArray (S0.map (cv Z.heap.size))) rfl (argsL := as.map (cv Z.heap.size)) (rest := S.map (cv Z.heap.size)) (lenOf hp (by simpa using hlen) _ hsigM) (by rw [hS]; simp [cv]) (hb hby hd)
  obtain ⟨_, ⟨T1, L1, k1, n1⟩, X1, ⟨Lc, ⟨v', H', rfl, hR', hq', hFr'⟩, l1, y1, z1⟩, st⟩ := (backOf (R := R) (rm := rm') (h := T.heap) (Q := fun v h L => ∃ v' H', v = Option.map (cv Z.heap.size) v' ∧ Rel Z K h H' ∧ Q' v' H' ∧ Fr Z.heap.size L) (W := wt S) (hM Z a0 hw l T.heap [] hR) hZ (hw _ w6) (hw _ w5) (by omega) (by omega)) m meth c' ⟨T.setVm vm1, locs, cells, slots⟩ (mkF m pc (L.map (cs Z.heap.size)).toArray (S.map (cv Z.heap.size))) (.invokevirtual idx) mk (.ref (Z.heap.size + i) :: as.map (cv Z.heap.size)).toArray X1' rfl (by simp [hL, hml]) (hb hby hd) (by show 2 * 0 + _ ≤ _; rw [cat_map]; exact Nat.le_of_eq (by simp)) (X1'.named m1) ⟨rfl, rfl, by show cells + _ ≤ _; omega, by show slots + _ ≤ _; omega⟩
  dsimp only [Pt.U, Pt.locs, Pt.cells, Pt.slots] at X1 l1 y1 z1 st hR'
  subst l1 y1 z1
  rw [back_st] at st
  exact (h v' H' hq' hL Z a0 p l e R s m args below meth c' T1 _ _ _ ⟨X1, hx, hZ, hw, hby, hml, hrt, hnm, hlk, hown, hR', Fr.app hFr hFr', hr1, by show cells + _ + (rm.cells - _) ≤ _; omega, by show slots + _ + (rm.slots - _) ≤ _; omega, hr4⟩).steps (fun t ht => (st1 _ fun acts => by rw [doInvoke_state]; exact Steps.refl _).trans (st.trans ht))
/-- the locals at the entry -/
def ent : List Value → List Slot
  | [] => []
  | v :: r => if v.category = 2 then .val v :: .second :: ent r else .val v :: ent r
theorem ent_map (k : Nat) (as : List Value) : ent (as.map (cv k)) = (ent as).map (cs k) := by
  induction as with
  | nil => rfl
  | cons v r ih => by_cases h : v.category = 2 <;> simp [ent, h, cv_cat, ih, cs]
theorem fold_ent (as : List Value) : ∀ acc : Array Slot, as.foldl (fun acc v => if v.category = 2 then (acc.push (.val v)).push .second else acc.push (.val v)) acc = acc ++ (ent as).toArray := by
  induction as with
  | nil => intro acc; simp [ent]
  | cons v r ih => intro acc; by_cases h : v.category = 2 <;> simp [ent, h, ih]
theorem locals_of (k n : Nat) (as : List Value) : argsToLocals (as.map (cv k)).toArray n = ((ent as ++ List.replicate (n - (ent as).length) Slot.unset).map (cs k)).toArray := by
  have h : (as.map (cv k)).toArray.foldl (fun (acc : Array Slot) v => if v.category = 2 then (acc.push (.val v)).push .second else acc.push (.val v)) #[] = ((ent as).map (cs k)).toArray := by
    rw [List.foldl_toArray, fold_ent, ent_map]; simp
  simp only [argsToLocals]
  rw [h]
  simp [cs]
theorem M.of {as : List Value} (hn : plainFor μ.1 = true) (hl : ent as ++ List.replicate (μ.2.2.1 - (ent as).length) .unset = L) (hl' : L.length = μ.2.2.1) (h : W tb K μ rm 0 L [] H Q) : M tb K μ rm as H Q := by
  intro Z a0 hw l h0 ws hR
  refine MetFree.of_bodySF hn hisR ?_
  intro p e s m args below meth c s₁ Bd hml0 hP hK
  obtain ⟨rfl, hZ, hh⟩ := hP
  have e0 : s₁.heap = h0 := by rw [← hh, Bd.state]; rfl
  obtain ⟨v, H', T, locs, fs, hq, st, hrun, hended, hW, hsame, hFr, hR'⟩ := h hl' Z a0 p l e rm s m _ below meth c s₁ [] 0 0 ⟨Stand.of_body Bd, Bd.exec, hZ, hw, Bd.bytes, hml0, Bd.returns, (name_of_methodNamed Bd.named Bd.method).1, Bd.notSynchronized, findClass_of_methodNamed Bd.named, e0 ▸ hR, Fr.nil _, Nat.le_refl _, Nat.le_of_eq (Nat.zero_add _), Nat.le_of_eq (Nat.zero_add _), Nat.le_refl _⟩
  have q : entryFrame m (as.map (cv Z.heap.size)).toArray μ.2.2.1 = mkF m 0 (L.map (cs Z.heap.size)).toArray [] := by
    rw [← hl, entryFrame, locals_of]
  exact ⟨_, _, castTop q st, hrun, hended, _, locs, rfl, ⟨v, H', rfl, hR', hq, hFr⟩, ⟨_, rfl⟩, hW, hsame⟩
end Logic
end Jvm.Own
namespace Jvm.Pilot.@@N@@
open Jvm Jvm.ClassFile Sem Op Lib Jvm.Free Jvm.Stand Jvm.LawKit Jvm.RoadKit Jvm.Own Bundle Jvm.Pilot.@@N@@.Jvm.D
/-! PRINTED BY gen.py: the classes, the methods, one lemma a site -/
def KT : KTab := [("com/example/chainwright/chainwright/core/StageQueue", 2, [("com/example/chainwright/chainwright/core/StageQueue", "heap", "[J", (.array .long)), ("com/example/chainwright/chainwright/core/StageQueue", "size", "I", .int)])]
theorem kt : KOk tables_1 KT := (KOk.cons (List.mem_of_getElem? (i := 1) rfl) (fokS ⟨Or.inl (List.mem_of_getElem? (i := 11) rfl), by decide⟩ (fokS ⟨Or.inl (List.mem_of_getElem? (i := 18) rfl), by decide⟩ fok0)) (by decide) KOk.nil)
abbrev μ0 : Mth := (x, code, 11, ret)
abbrev W0 := W tables_1 KT μ0
abbrev M0 := M tables_1 KT μ0
theorem pf0 : plainFor μ0.1 = true := by first | (refine plainFor_of_name ?_; simp [plainName, overriddenIn, x]; done) | decide +kernel
theorem pd0 : parseMethodDescriptor "(IIIII)Z" = some ⟨[.int, .int, .int, .int, .int], some .boolean⟩ := by decide +kernel
abbrev μ1 : Mth := (⟨"com/example/chainwright/chainwright/core/StageQueue", "<init>", "()V"⟩, prog_35_method_1_code, 1, none)
abbrev W1 := W tables_1 KT μ1
abbrev M1 := M tables_1 KT μ1
theorem pf1 : plainFor μ1.1 = true := by first | (refine plainFor_of_name ?_; simp [plainName, overriddenIn, x]; done) | decide +kernel
theorem pd1 : parseMethodDescriptor "()V" = some ⟨[], none⟩ := by decide +kernel
abbrev μ2 : Mth := (⟨"com/example/chainwright/chainwright/core/StageQueue", "isEmpty", "()Z"⟩, prog_35_method_3_code, 1, some .boolean)
abbrev W2 := W tables_1 KT μ2
abbrev M2 := M tables_1 KT μ2
theorem pf2 : plainFor μ2.1 = true := by first | (refine plainFor_of_name ?_; simp [plainName, overriddenIn, x]; done) | decide +kernel
theorem pd2 : parseMethodDescriptor "()Z" = some ⟨[], some .boolean⟩ := by decide +kernel
abbrev μ3 : Mth := (⟨"java/lang/Math", "min", "(II)I"⟩, jdk_29_method_69_code, 2, some .int)
abbrev W3 := W tables_1 KT μ3
abbrev M3 := M tables_1 KT μ3
theorem pf3 : plainFor μ3.1 = true := by first | (refine plainFor_of_name ?_; simp [plainName, overriddenIn, x]; done) | decide +kernel
theorem pd3 : parseMethodDescriptor "(II)I" = some ⟨[.int, .int], some .int⟩ := by decide +kernel
abbrev μ4 : Mth := (⟨"com/example/chainwright/chainwright/core/StageQueue", "add", "(II)V"⟩, prog_35_method_2_code, 6, none)
abbrev W4 := W tables_1 KT μ4
abbrev M4 := M tables_1 KT μ4
theorem pf4 : plainFor μ4.1 = true := by first | (refine plainFor_of_name ?_; simp [plainName, overriddenIn, x]; done) | decide +kernel
theorem pd4 : parseMethodDescriptor "(II)V" = some ⟨[.int, .int], none⟩ := by decide +kernel
abbrev μ5 : Mth := (⟨"com/example/chainwright/chainwright/core/StageQueue", "poll", "()I"⟩, prog_35_method_5_code, 6, some .int)
abbrev W5 := W tables_1 KT μ5
abbrev M5 := M tables_1 KT μ5
theorem pf5 : plainFor μ5.1 = true := by first | (refine plainFor_of_name ?_; simp [plainName, overriddenIn, x]; done) | decide +kernel
theorem pd5 : parseMethodDescriptor "()I" = some ⟨[], some .int⟩ := by decide +kernel
abbrev μ6 : Mth := (⟨"com/example/chainwright/chainwright/core/StageQueue", "clear", "()V"⟩, prog_35_method_6_code, 1, none)
abbrev W6 := W tables_1 KT μ6
abbrev M6 := M tables_1 KT μ6
theorem pf6 : plainFor μ6.1 = true := by first | (refine plainFor_of_name ?_; simp [plainName, overriddenIn, x]; done) | decide +kernel
theorem e0 {rm : Room} {H : AHeap} {Q : Option Value → AHeap → Prop} {a0 : Int32} {a1 : Int32} {a2 : Int32} {a3 : Int32} {a4 : Int32} (h : W0 rm 0 [.val (.int a0), .val (.int a1), .val (.int a2), .val (.int a3), .val (.int a4), .unset, .unset, .unset, .unset, .unset, .unset] [] H Q) : M0 rm [.int a0, .int a1, .int a2, .int a3, .int a4] H Q := M.of pf0 rfl rfl h
theorem e0L {rm : Room} {H : AHeap} {Q : Option Value → AHeap → Prop} {L : List Slot} {as : List Value} (h : W0 rm 0 L [] H Q) (hl : ent as ++ List.replicate (11 - (ent as).length) .unset = L := by rfl) (hn : L.length = 11 := by rfl) : M0 rm as H Q := M.of pf0 hl hn h
theorem s0_0 {rm : Room} {S : List Value} {H : AHeap} {Q : Option Value → AHeap → Prop} {l0 l1 l2 l3 l4 l5 l6 l7 l8 l9 l10 : Slot} (i : Nat) (hi : H.length = i) (hr : nok rm 2 = true) (h : W0 ⟨rm.frames, rm.cells - 1, rm.slots - 2, rm.locals⟩ 3 [l0, l1, l2, l3, l4, l5, l6, l7, l8, l9, l10] (.ref i :: S) (H ++ [.inl (0, [.null, .int 0])]) Q) : W0 rm 0 [l0, l1, l2, l3, l4, l5, l6, l7, l8, l9, l10] (S) H Q := W.new (c := 0) kt at_0 (List.mem_of_getElem? (i := 0) rfl) (List.mem_of_getElem? (i := 2) rfl) rfl hi hr h
theorem s0_3 {rm : Room} {S : List Value} {H : AHeap} {Q : Option Value → AHeap → Prop} {l0 l1 l2 l3 l4 l5 l6 l7 l8 l9 l10 : Slot} {v : Value} (hc : v.category = 1) (h : W0 rm 4 [l0, l1, l2, l3, l4, l5, l6, l7, l8, l9, l10] (v :: v :: S) (H) Q) : W0 rm 3 [l0, l1, l2, l3, l4, l5, l6, l7, l8, l9, l10] (v :: S) H Q := W.dup at_3 hc h
theorem s0_4 {rm : Room} {S : List Value} {H : AHeap} {Q : Option Value → AHeap → Prop} {l0 l1 l2 l3 l4 l5 l6 l7 l8 l9 l10 : Slot} {rm' : Room} {H' : AHeap} {i : Nat}   (hM : M1 rm' [.ref i] H (Is none H')) (hr : rok rm rm' 1 S = true) (h : W0 (less rm rm') 7 [l0, l1, l2, l3, l4, l5, l6, l7, l8, l9, l10] (S) H' Q) : W0 rm 4 [l0, l1, l2, l3, l4, l5, l6, l7, l8, l9, l10] (.ref i :: S) H Q := W.callI (S := S) (as := []) (rm' := rm') at_4 rfl rfl (List.mem_of_getElem? (i := 3) rfl) (List.mem_of_getElem? (i := 4) rfl) (List.mem_of_getElem? (i := 2) rfl) (List.mem_of_getElem? (i := 5) rfl) (by decide) pd1 rfl rfl hM hr (fun _ _ q => by obtain ⟨rfl, rfl⟩ := q; exact h)
theorem s0_4q {rm : Room} {S : List Value} {H : AHeap} {Q : Option Value → AHeap → Prop} {l0 l1 l2 l3 l4 l5 l6 l7 l8 l9 l10 : Slot} {rm' : Room} {Q' : Option Value → AHeap → Prop} {i : Nat}  (hM : M1 rm' [.ref i] H Q') (hr : rok rm rm' 1 S = true) (h : ∀ v H', Q' v H' → W0 (less rm rm') 7 [l0, l1, l2, l3, l4, l5, l6, l7, l8, l9, l10] (v.toList ++ S) H' Q) : W0 rm 4 [l0, l1, l2, l3, l4, l5, l6, l7, l8, l9, l10] (.ref i :: S) H Q := W.callI (S := S) (as := []) (rm' := rm') at_4 rfl rfl (List.mem_of_getElem? (i := 3) rfl) (List.mem_of_getElem? (i := 4) rfl) (List.mem_of_getElem? (i := 2) rfl) (List.mem_of_getElem? (i := 5) rfl) (by decide) pd1 rfl rfl hM hr h
theorem s0_7 {rm : Room} {S : List Value} {H : AHeap} {Q : Option Value → AHeap → Prop} {l0 l1 l2 l3 l4 l5 l6 l7 l8 l9 l10 : Slot} {i : Nat} (ho : one l5 = true) (h : W0 rm 9 [l0, l1, l2, l3, l4, .val (.ref i), l6, l7, l8, l9, l10] (S) (H) Q) : W0 rm 7 [l0, l1, l2, l3, l4, l5, l6, l7, l8, l9, l10] (.ref i :: S) H Q := W.astore at_7 rfl ho rfl h
theorem s0_9 {rm : Room} {S : List Value} {H : AHeap} {Q : Option Value → AHeap → Prop} {l0 l1 l2 l3 l4 l6 l7 l8 l9 l10 : Slot} {i : Nat} (h : W0 rm 11 [l0, l1, l2, l3, l4, .val (.ref i), l6, l7, l8, l9, l10] (.ref i :: S) (H) Q) : W0 rm 9 [l0, l1, l2, l3, l4, .val (.ref i), l6, l7, l8, l9, l10] (S) H Q := W.aload at_9 rfl rfl h
theorem s0_9n {rm : Room} {S : List Value} {H : AHeap} {Q : Option Value → AHeap → Prop} {l0 l1 l2 l3 l4 l6 l7 l8 l9 l10 : Slot}  (h : W0 rm 11 [l0, l1, l2, l3, l4, .val .null, l6, l7, l8, l9, l10] (.null :: S) (H) Q) : W0 rm 9 [l0, l1, l2, l3, l4, .val .null, l6, l7, l8, l9, l10] (S) H Q := W.aload at_9 rfl rfl h
theorem s0_11 {rm : Room} {S : List Value} {H : AHeap} {Q : Option Value → AHeap → Prop} {l0 l1 l2 l3 l4 l5 l6 l7 l8 l9 l10 : Slot} {rm' : Room} {H' : AHeap} {i : Nat} {vs : List Value}  {r : Int32} (hH : H[i]? = some (.inl (0, vs))) (hM : M2 rm' [.ref i] H (Is (some (.int r)) H')) (hr : rok rm rm' 1 S = true) (h : W0 (less rm rm') 14 [l0, l1, l2, l3, l4, l5, l6, l7, l8, l9, l10] (.int r :: S) H' Q) : W0 rm 11 [l0, l1, l2, l3, l4, l5, l6, l7, l8, l9, l10] (.ref i :: S) H Q := W.callV (c := 0) (S := S) (as := []) (rm' := rm') at_11 (List.mem_of_getElem? (i := 12) rfl) (List.mem_of_getElem? (i := 13) rfl) (List.mem_of_getElem? (i := 15) rfl) (Or.inl rfl) kt (List.mem_of_getElem? (i := 14) rfl) (List.mem_of_getElem? (i := 2) rfl) (List.mem_of_getElem? (i := 16) rfl) (by decide) rfl pd2 rfl rfl hH hM hr (fun _ _ q => by obtain ⟨rfl, rfl⟩ := q; exact h)
theorem s0_11q {rm : Room} {S : List Value} {H : AHeap} {Q : Option Value → AHeap → Prop} {l0 l1 l2 l3 l4 l5 l6 l7 l8 l9 l10 : Slot} {rm' : Room} {Q' : Option Value → AHeap → Prop} {i : Nat} {vs : List Value}  (hH : H[i]? = some (.inl (0, vs))) (hM : M2 rm' [.ref i] H Q') (hr : rok rm rm' 1 S = true) (h : ∀ v H', Q' v H' → W0 (less rm rm') 14 [l0, l1, l2, l3, l4, l5, l6, l7, l8, l9, l10] (v.toList ++ S) H' Q) : W0 rm 11 [l0, l1, l2, l3, l4, l5, l6, l7, l8, l9, l10] (.ref i :: S) H Q := W.callV (c := 0) (S := S) (as := []) (rm' := rm') at_11 (List.mem_of_getElem? (i := 12) rfl) (List.mem_of_getElem? (i := 13) rfl) (List.mem_of_getElem? (i := 15) rfl) (Or.inl rfl) kt (List.mem_of_getElem? (i := 14) rfl) (List.mem_of_getElem? (i := 2) rfl) (List.mem_of_getElem? (i := 16) rfl) (by decide) rfl pd2 rfl rfl hH hM hr h
theorem s0_14 {rm : Room} {S : List Value} {H : AHeap} {Q : Option Value → AHeap → Prop} {l0 l1 l2 l3 l4 l5 l6 l7 l8 l9 l10 : Slot} {x : Int32} (ho : one l6 = true) (h : W0 rm 16 [l0, l1, l2, l3, l4, l5, .val (.int x), l7, l8, l9, l10] (S) (H) Q) : W0 rm 14 [l0, l1, l2, l3, l4, l5, l6, l7, l8, l9, l10] (.int x :: S) H Q := W.istore at_14 rfl ho h
theorem s0_14w {rm : Room} {S : List Value} {H : AHeap} {Q : Option Value → AHeap → Prop} {l0 l1 l2 l3 l4 l5 l7 l8 l9 l10 : Slot} {w : Value} {x : Int32} (ho : w.category = 2) (h : W0 rm 16 [l0, l1, l2, l3, l4, l5, .val (.int x), .unset, l8, l9, l10] (S) (H) Q) : W0 rm 14 [l0, l1, l2, l3, l4, l5, .val w, l7, l8, l9, l10] (.int x :: S) H Q := W.istoreW at_14 rfl ho (Nat.le_of_ble_eq_true rfl) h
theorem s0_14s {rm : Room} {S : List Value} {H : AHeap} {Q : Option Value → AHeap → Prop} {l0 l1 l2 l3 l4 l5 l7 l8 l9 l10 : Slot} {x : Int32} (h : W0 rm 16 [l0, l1, l2, l3, l4, .unset, .val (.int x), l7, l8, l9, l10] (S) (H) Q) : W0 rm 14 [l0, l1, l2, l3, l4, l5, .second, l7, l8, l9, l10] (.int x :: S) H Q := W.istoreS at_14 rfl (by decide) h
theorem s0_16 {rm : Room} {S : List Value} {H : AHeap} {Q : Option Value → AHeap → Prop} {l0 l1 l2 l3 l5 l6 l7 l8 l9 l10 : Slot} {x : Int32} (h : W0 rm 18 [l0, l1, l2, l3, .val (.int x), l5, l6, l7, l8, l9, l10] (.int x :: S) (H) Q) : W0 rm 16 [l0, l1, l2, l3, .val (.int x), l5, l6, l7, l8, l9, l10] (S) H Q := W.iload at_16 rfl h
theorem s0_18 {rm : Room} {S : List Value} {H : AHeap} {Q : Option Value → AHeap → Prop} {l0 l1 l2 l3 l4 l5 l6 l7 l8 l9 l10 : Slot}  (h : W0 rm 19 [l0, l1, l2, l3, l4, l5, l6, l7, l8, l9, l10] (.int 3 :: S) (H) Q) : W0 rm 18 [l0, l1, l2, l3, l4, l5, l6, l7, l8, l9, l10] (S) H Q := W.iconst' at_18 (by decide) h
theorem s0_19 {rm : Room} {S : List Value} {H : AHeap} {Q : Option Value → AHeap → Prop} {l0 l1 l2 l3 l4 l5 l6 l7 l8 l9 l10 : Slot} {x y : Int32} (h : W0 rm 20 [l0, l1, l2, l3, l4, l5, l6, l7, l8, l9, l10] (.int (x &&& y) :: S) (H) Q) : W0 rm 19 [l0, l1, l2, l3, l4, l5, l6, l7, l8, l9, l10] (.int y :: .int x :: S) H Q := W.iand at_19 h
theorem s0_20 {rm : Room} {S : List Value} {H : AHeap} {Q : Option Value → AHeap → Prop} {l0 l1 l2 l3 l4 l5 l6 l7 l8 l9 l10 : Slot} {x : Int32} (ho : one l7 = true) (h : W0 rm 22 [l0, l1, l2, l3, l4, l5, l6, .val (.int x), l8, l9, l10] (S) (H) Q) : W0 rm 20 [l0, l1, l2, l3, l4, l5, l6, l7, l8, l9, l10] (.int x :: S) H Q := W.istore at_20 rfl ho h
theorem s0_20w {rm : Room} {S : List Value} {H : AHeap} {Q : Option Value → AHeap → Prop} {l0 l1 l2 l3 l4 l5 l6 l8 l9 l10 : Slot} {w : Value} {x : Int32} (ho : w.category = 2) (h : W0 rm 22 [l0, l1, l2, l3, l4, l5, l6, .val (.int x), .unset, l9, l10] (S) (H) Q) : W0 rm 20 [l0, l1, l2, l3, l4, l5, l6, .val w, l8, l9, l10] (.int x :: S) H Q := W.istoreW at_20 rfl ho (Nat.le_of_ble_eq_true rfl) h
theorem s0_20s {rm : Room} {S : List Value} {H : AHeap} {Q : Option Value → AHeap → Prop} {l0 l1 l2 l3 l4 l5 l6 l8 l9 l10 : Slot} {x : Int32} (h : W0 rm 22 [l0, l1, l2, l3, l4, l5, .unset, .val (.int x), l8, l9, l10] (S) (H) Q) : W0 rm 20 [l0, l1, l2, l3, l4, l5, l6, .second, l8, l9, l10] (.int x :: S) H Q := W.istoreS at_20 rfl (by decide) h
theorem s0_22 {rm : Room} {S : List Value} {H : AHeap} {Q : Option Value → AHeap → Prop} {l0 l1 l2 l3 l5 l6 l7 l8 l9 l10 : Slot} {x : Int32} (h : W0 rm 24 [l0, l1, l2, l3, .val (.int x), l5, l6, l7, l8, l9, l10] (.int x :: S) (H) Q) : W0 rm 22 [l0, l1, l2, l3, .val (.int x), l5, l6, l7, l8, l9, l10] (S) H Q := W.iload at_22 rfl h
theorem s0_24 {rm : Room} {S : List Value} {H : AHeap} {Q : Option Value → AHeap → Prop} {l0 l1 l2 l3 l4 l5 l6 l7 l8 l9 l10 : Slot}  (h : W0 rm 25 [l0, l1, l2, l3, l4, l5, l6, l7, l8, l9, l10] (.int 2 :: S) (H) Q) : W0 rm 24 [l0, l1, l2, l3, l4, l5, l6, l7, l8, l9, l10] (S) H Q := W.iconst' at_24 (by decide) h
theorem s0_25 {rm : Room} {S : List Value} {H : AHeap} {Q : Option Value → AHeap → Prop} {l0 l1 l2 l3 l4 l5 l6 l7 l8 l9 l10 : Slot} {x y : Int32} (h : W0 rm 26 [l0, l1, l2, l3, l4, l5, l6, l7, l8, l9, l10] (.int (XT.ushr x y) :: S) (H) Q) : W0 rm 25 [l0, l1, l2, l3, l4, l5, l6, l7, l8, l9, l10] (.int y :: .int x :: S) H Q := W.iushr at_25 h
theorem s0_26 {rm : Room} {S : List Value} {H : AHeap} {Q : Option Value → AHeap → Prop} {l0 l1 l2 l3 l4 l5 l6 l7 l8 l9 l10 : Slot}  (h : W0 rm 27 [l0, l1, l2, l3, l4, l5, l6, l7, l8, l9, l10] (.int 3 :: S) (H) Q) : W0 rm 26 [l0, l1, l2, l3, l4, l5, l6, l7, l8, l9, l10] (S) H Q := W.iconst' at_26 (by decide) h
theorem s0_27 {rm : Room} {S : List Value} {H : AHeap} {Q : Option Value → AHeap → Prop} {l0 l1 l2 l3 l4 l5 l6 l7 l8 l9 l10 : Slot} {x y : Int32} (h : W0 rm 28 [l0, l1, l2, l3, l4, l5, l6, l7, l8, l9, l10] (.int (x &&& y) :: S) (H) Q) : W0 rm 27 [l0, l1, l2, l3, l4, l5, l6, l7, l8, l9, l10] (.int y :: .int x :: S) H Q := W.iand at_27 h
theorem s0_28 {rm : Room} {S : List Value} {H : AHeap} {Q : Option Value → AHeap → Prop} {l0 l1 l2 l3 l4 l5 l6 l8 l9 l10 : Slot} {x : Int32} (h : W0 rm 30 [l0, l1, l2, l3, l4, l5, l6, .val (.int x), l8, l9, l10] (.int x :: S) (H) Q) : W0 rm 28 [l0, l1, l2, l3, l4, l5, l6, .val (.int x), l8, l9, l10] (S) H Q := W.iload at_28 rfl h
theorem s0_30 {rm : Room} {S : List Value} {H : AHeap} {Q : Option Value → AHeap → Prop} {l0 l1 l2 l3 l4 l5 l6 l7 l8 l9 l10 : Slot} {rm' : Room} {H' : AHeap} {a0 : Int32} {a1 : Int32} {r : Int32} (hM : M3 rm' [.int a0, .int a1] H (Is (some (.int r)) H')) (hr : rok rm rm' 2 S = true) (h : W0 (less rm rm') 33 [l0, l1, l2, l3, l4, l5, l6, l7, l8, l9, l10] (.int r :: S) H' Q) : W0 rm 30 [l0, l1, l2, l3, l4, l5, l6, l7, l8, l9, l10] (.int a1 :: .int a0 :: S) H Q := W.callS (S := S) (as := [.int a0, .int a1]) (rm' := rm') at_30 (List.mem_of_getElem? (i := 19) rfl) (List.mem_of_getElem? (i := 20) rfl) (List.mem_of_getElem? (i := 21) rfl) (List.mem_of_getElem? (i := 22) rfl) (by decide) pd3 rfl rfl hM hr (fun _ _ q => by obtain ⟨rfl, rfl⟩ := q; exact h)
theorem s0_30q {rm : Room} {S : List Value} {H : AHeap} {Q : Option Value → AHeap → Prop} {l0 l1 l2 l3 l4 l5 l6 l7 l8 l9 l10 : Slot} {rm' : Room} {Q' : Option Value → AHeap → Prop} {a0 a1 : Value} (hM : M3 rm' [a0, a1] H Q') (hr : rok rm rm' 2 S = true) (h : ∀ v H', Q' v H' → W0 (less rm rm') 33 [l0, l1, l2, l3, l4, l5, l6, l7, l8, l9, l10] (v.toList ++ S) H' Q) : W0 rm 30 [l0, l1, l2, l3, l4, l5, l6, l7, l8, l9, l10] (a1 :: a0 :: S) H Q := W.callS (S := S) (as := [a0, a1]) (rm' := rm') at_30 (List.mem_of_getElem? (i := 19) rfl) (List.mem_of_getElem? (i := 20) rfl) (List.mem_of_getElem? (i := 21) rfl) (List.mem_of_getElem? (i := 22) rfl) (by decide) pd3 rfl rfl hM hr h
theorem s0_33 {rm : Room} {S : List Value} {H : AHeap} {Q : Option Value → AHeap → Prop} {l0 l1 l2 l3 l4 l5 l6 l7 l8 l9 l10 : Slot} {x : Int32} (ho : one l8 = true) (h : W0 rm 35 [l0, l1, l2, l3, l4, l5, l6, l7, .val (.int x), l9, l10] (S) (H) Q) : W0 rm 33 [l0, l1, l2, l3, l4, l5, l6, l7, l8, l9, l10] (.int x :: S) H Q := W.istore at_33 rfl ho h
theorem s0_33w {rm : Room} {S : List Value} {H : AHeap} {Q : Option Value → AHeap → Prop} {l0 l1 l2 l3 l4 l5 l6 l7 l9 l10 : Slot} {w : Value} {x : Int32} (ho : w.category = 2) (h : W0 rm 35 [l0, l1, l2, l3, l4, l5, l6, l7, .val (.int x), .unset, l10] (S) (H) Q) : W0 rm 33 [l0, l1, l2, l3, l4, l5, l6, l7, .val w, l9, l10] (.int x :: S) H Q := W.istoreW at_33 rfl ho (Nat.le_of_ble_eq_true rfl) h
theorem s0_33s {rm : Room} {S : List Value} {H : AHeap} {Q : Option Value → AHeap → Prop} {l0 l1 l2 l3 l4 l5 l6 l7 l9 l10 : Slot} {x : Int32} (h : W0 rm 35 [l0, l1, l2, l3, l4, l5, l6, .unset, .val (.int x), l9, l10] (S) (H) Q) : W0 rm 33 [l0, l1, l2, l3, l4, l5, l6, l7, .second, l9, l10] (.int x :: S) H Q := W.istoreS at_33 rfl (by decide) h
theorem s0_35 {rm : Room} {S : List Value} {H : AHeap} {Q : Option Value → AHeap → Prop} {l0 l1 l2 l3 l5 l6 l7 l8 l9 l10 : Slot} {x : Int32} (h : W0 rm 37 [l0, l1, l2, l3, .val (.int x), l5, l6, l7, l8, l9, l10] (.int x :: S) (H) Q) : W0 rm 35 [l0, l1, l2, l3, .val (.int x), l5, l6, l7, l8, l9, l10] (S) H Q := W.iload at_35 rfl h
theorem s0_37 {rm : Room} {S : List Value} {H : AHeap} {Q : Option Value → AHeap → Prop} {l0 l1 l2 l3 l4 l5 l6 l7 l8 l9 l10 : Slot}  (h : W0 rm 38 [l0, l1, l2, l3, l4, l5, l6, l7, l8, l9, l10] (.int 4 :: S) (H) Q) : W0 rm 37 [l0, l1, l2, l3, l4, l5, l6, l7, l8, l9, l10] (S) H Q := W.iconst' at_37 (by decide) h
theorem s0_38 {rm : Room} {S : List Value} {H : AHeap} {Q : Option Value → AHeap → Prop} {l0 l1 l2 l3 l4 l5 l6 l7 l8 l9 l10 : Slot} {x y : Int32} (h : W0 rm 39 [l0, l1, l2, l3, l4, l5, l6, l7, l8, l9, l10] (.int (XT.ushr x y) :: S) (H) Q) : W0 rm 38 [l0, l1, l2, l3, l4, l5, l6, l7, l8, l9, l10] (.int y :: .int x :: S) H Q := W.iushr at_38 h
theorem s0_39 {rm : Room} {S : List Value} {H : AHeap} {Q : Option Value → AHeap → Prop} {l0 l1 l2 l3 l4 l5 l6 l7 l8 l9 l10 : Slot}  (h : W0 rm 40 [l0, l1, l2, l3, l4, l5, l6, l7, l8, l9, l10] (.int 1 :: S) (H) Q) : W0 rm 39 [l0, l1, l2, l3, l4, l5, l6, l7, l8, l9, l10] (S) H Q := W.iconst' at_39 (by decide) h
theorem s0_40 {rm : Room} {S : List Value} {H : AHeap} {Q : Option Value → AHeap → Prop} {l0 l1 l2 l3 l4 l5 l6 l7 l8 l9 l10 : Slot} {x y : Int32} (h : W0 rm 41 [l0, l1, l2, l3, l4, l5, l6, l7, l8, l9, l10] (.int (x &&& y) :: S) (H) Q) : W0 rm 40 [l0, l1, l2, l3, l4, l5, l6, l7, l8, l9, l10] (.int y :: .int x :: S) H Q := W.iand at_40 h
theorem s0_41 {rm : Room} {S : List Value} {H : AHeap} {Q : Option Value → AHeap → Prop} {l0 l1 l2 l3 l4 l5 l6 l7 l8 l9 l10 : Slot} {x : Int32} (h1 : x = 0 → W0 rm 48 [l0, l1, l2, l3, l4, l5, l6, l7, l8, l9, l10] S H Q) (h2 : ¬ x = 0 → W0 rm 44 [l0, l1, l2, l3, l4, l5, l6, l7, l8, l9, l10] S H Q) : W0 rm 41 [l0, l1, l2, l3, l4, l5, l6, l7, l8, l9, l10] (.int x :: S) H Q := W.ifc at_41 (by decide) (by decide) h1 h2
theorem s0_44 {rm : Room} {S : List Value} {H : AHeap} {Q : Option Value → AHeap → Prop} {l0 l1 l2 l3 l4 l5 l6 l7 l8 l9 l10 : Slot}  (h : W0 rm 45 [l0, l1, l2, l3, l4, l5, l6, l7, l8, l9, l10] (.int 1 :: S) (H) Q) : W0 rm 44 [l0, l1, l2, l3, l4, l5, l6, l7, l8, l9, l10] (S) H Q := W.iconst' at_44 (by decide) h
theorem s0_45 {rm : Room} {S : List Value} {H : AHeap} {Q : Option Value → AHeap → Prop} {l0 l1 l2 l3 l4 l5 l6 l7 l8 l9 l10 : Slot}  (h : W0 rm 49 [l0, l1, l2, l3, l4, l5, l6, l7, l8, l9, l10] (S) (H) Q) : W0 rm 45 [l0, l1, l2, l3, l4, l5, l6, l7, l8, l9, l10] (S) H Q := W.goto at_45 (by decide) (by decide) h
theorem s0_48 {rm : Room} {S : List Value} {H : AHeap} {Q : Option Value → AHeap → Prop} {l0 l1 l2 l3 l4 l5 l6 l7 l8 l9 l10 : Slot}  (h : W0 rm 49 [l0, l1, l2, l3, l4, l5, l6, l7, l8, l9, l10] (.int 0 :: S) (H) Q) : W0 rm 48 [l0, l1, l2, l3, l4, l5, l6, l7, l8, l9, l10] (S) H Q := W.iconst' at_48 (by decide) h
theorem s0_49 {rm : Room} {S : List Value} {H : AHeap} {Q : Option Value → AHeap → Prop} {l0 l1 l2 l3 l4 l5 l6 l7 l8 l9 l10 : Slot} {x : Int32} (ho : one l9 = true) (h : W0 rm 51 [l0, l1, l2, l3, l4, l5, l6, l7, l8, .val (.int x), l10] (S) (H) Q) : W0 rm 49 [l0, l1, l2, l3, l4, l5, l6, l7, l8, l9, l10] (.int x :: S) H Q := W.istore at_49 rfl ho h
theorem s0_49w {rm : Room} {S : List Value} {H : AHeap} {Q : Option Value → AHeap → Prop} {l0 l1 l2 l3 l4 l5 l6 l7 l8 l10 : Slot} {w : Value} {x : Int32} (ho : w.category = 2) (h : W0 rm 51 [l0, l1, l2, l3, l4, l5, l6, l7, l8, .val (.int x), .unset] (S) (H) Q) : W0 rm 49 [l0, l1, l2, l3, l4, l5, l6, l7, l8, .val w, l10] (.int x :: S) H Q := W.istoreW at_49 rfl ho (Nat.le_of_ble_eq_true rfl) h
theorem s0_49s {rm : Room} {S : List Value} {H : AHeap} {Q : Option Value → AHeap → Prop} {l0 l1 l2 l3 l4 l5 l6 l7 l8 l10 : Slot} {x : Int32} (h : W0 rm 51 [l0, l1, l2, l3, l4, l5, l6, l7, .unset, .val (.int x), l10] (S) (H) Q) : W0 rm 49 [l0, l1, l2, l3, l4, l5, l6, l7, l8, .second, l10] (.int x :: S) H Q := W.istoreS at_49 rfl (by decide) h
theorem s0_51 {rm : Room} {S : List Value} {H : AHeap} {Q : Option Value → AHeap → Prop} {l0 l1 l2 l3 l4 l5 l6 l7 l8 l9 l10 : Slot}  (h : W0 rm 53 [l0, l1, l2, l3, l4, l5, l6, l7, l8, l9, l10] (.int 2147483647 :: S) (H) Q) : W0 rm 51 [l0, l1, l2, l3, l4, l5, l6, l7, l8, l9, l10] (S) H Q := W.ldcInt at_51 (List.mem_of_getElem? (i := 23) rfl) h
theorem s0_53 {rm : Room} {S : List Value} {H : AHeap} {Q : Option Value → AHeap → Prop} {l0 l1 l2 l3 l4 l5 l6 l7 l8 l9 l10 : Slot} {x : Int32} (ho : one l10 = true) (h : W0 rm 55 [l0, l1, l2, l3, l4, l5, l6, l7, l8, l9, .val (.int x)] (S) (H) Q) : W0 rm 53 [l0, l1, l2, l3, l4, l5, l6, l7, l8, l9, l10] (.int x :: S) H Q := W.istore at_53 rfl ho h
theorem s0_53s {rm : Room} {S : List Value} {H : AHeap} {Q : Option Value → AHeap → Prop} {l0 l1 l2 l3 l4 l5 l6 l7 l8 l9 : Slot} {x : Int32} (h : W0 rm 55 [l0, l1, l2, l3, l4, l5, l6, l7, l8, .unset, .val (.int x)] (S) (H) Q) : W0 rm 53 [l0, l1, l2, l3, l4, l5, l6, l7, l8, l9, .second] (.int x :: S) H Q := W.istoreS at_53 rfl (by decide) h
theorem s0_55 {rm : Room} {S : List Value} {H : AHeap} {Q : Option Value → AHeap → Prop} {l0 l1 l2 l3 l4 l5 l6 l8 l9 l10 : Slot} {x : Int32} (h : W0 rm 57 [l0, l1, l2, l3, l4, l5, l6, .val (.int x), l8, l9, l10] (.int x :: S) (H) Q) : W0 rm 55 [l0, l1, l2, l3, l4, l5, l6, .val (.int x), l8, l9, l10] (S) H Q := W.iload at_55 rfl h
theorem s0_57 {rm : Room} {S : List Value} {H : AHeap} {Q : Option Value → AHeap → Prop} {l0 l1 l2 l3 l4 l5 l6 l7 l8 l9 l10 : Slot}  (h : W0 rm 58 [l0, l1, l2, l3, l4, l5, l6, l7, l8, l9, l10] (.int 1 :: S) (H) Q) : W0 rm 57 [l0, l1, l2, l3, l4, l5, l6, l7, l8, l9, l10] (S) H Q := W.iconst' at_57 (by decide) h
theorem s0_58 {rm : Room} {S : List Value} {H : AHeap} {Q : Option Value → AHeap → Prop} {l0 l1 l2 l3 l4 l5 l6 l7 l8 l9 l10 : Slot} {x y : Int32} (h1 : x < y → W0 rm 74 [l0, l1, l2, l3, l4, l5, l6, l7, l8, l9, l10] S H Q) (h2 : ¬ x < y → W0 rm 61 [l0, l1, l2, l3, l4, l5, l6, l7, l8, l9, l10] S H Q) : W0 rm 58 [l0, l1, l2, l3, l4, l5, l6, l7, l8, l9, l10] (.int y :: .int x :: S) H Q := W.icmp at_58 (by decide) (by decide) h1 h2
theorem s0_61 {rm : Room} {S : List Value} {H : AHeap} {Q : Option Value → AHeap → Prop} {l0 l1 l2 l3 l4 l6 l7 l8 l9 l10 : Slot} {i : Nat} (h : W0 rm 63 [l0, l1, l2, l3, l4, .val (.ref i), l6, l7, l8, l9, l10] (.ref i :: S) (H) Q) : W0 rm 61 [l0, l1, l2, l3, l4, .val (.ref i), l6, l7, l8, l9, l10] (S) H Q := W.aload at_61 rfl rfl h
theorem s0_61n {rm : Room} {S : List Value} {H : AHeap} {Q : Option Value → AHeap → Prop} {l0 l1 l2 l3 l4 l6 l7 l8 l9 l10 : Slot}  (h : W0 rm 63 [l0, l1, l2, l3, l4, .val .null, l6, l7, l8, l9, l10] (.null :: S) (H) Q) : W0 rm 61 [l0, l1, l2, l3, l4, .val .null, l6, l7, l8, l9, l10] (S) H Q := W.aload at_61 rfl rfl h
theorem s0_63 {rm : Room} {S : List Value} {H : AHeap} {Q : Option Value → AHeap → Prop} {l1 l2 l3 l4 l5 l6 l7 l8 l9 l10 : Slot} {x : Int32} (h : W0 rm 64 [.val (.int x), l1, l2, l3, l4, l5, l6, l7, l8, l9, l10] (.int x :: S) (H) Q) : W0 rm 63 [.val (.int x), l1, l2, l3, l4, l5, l6, l7, l8, l9, l10] (S) H Q := W.iload_n at_63 rfl h
theorem s0_64 {rm : Room} {S : List Value} {H : AHeap} {Q : Option Value → AHeap → Prop} {l0 l1 l2 l3 l4 l5 l6 l7 l8 l9 : Slot} {x : Int32} (h : W0 rm 66 [l0, l1, l2, l3, l4, l5, l6, l7, l8, l9, .val (.int x)] (.int x :: S) (H) Q) : W0 rm 64 [l0, l1, l2, l3, l4, l5, l6, l7, l8, l9, .val (.int x)] (S) H Q := W.iload at_64 rfl h
theorem s0_66 {rm : Room} {S : List Value} {H : AHeap} {Q : Option Value → AHeap → Prop} {l0 l1 l2 l3 l4 l5 l6 l7 l8 l9 l10 : Slot} {x y : Int32} (h : W0 rm 67 [l0, l1, l2, l3, l4, l5, l6, l7, l8, l9, l10] (.int (x &&& y) :: S) (H) Q) : W0 rm 66 [l0, l1, l2, l3, l4, l5, l6, l7, l8, l9, l10] (.int y :: .int x :: S) H Q := W.iand at_66 h
theorem s0_67 {rm : Room} {S : List Value} {H : AHeap} {Q : Option Value → AHeap → Prop} {l0 l2 l3 l4 l5 l6 l7 l8 l9 l10 : Slot} {x : Int32} (h : W0 rm 68 [l0, .val (.int x), l2, l3, l4, l5, l6, l7, l8, l9, l10] (.int x :: S) (H) Q) : W0 rm 67 [l0, .val (.int x), l2, l3, l4, l5, l6, l7, l8, l9, l10] (S) H Q := W.iload_n at_67 rfl h
theorem s0_68 {rm : Room} {S : List Value} {H : AHeap} {Q : Option Value → AHeap → Prop} {l0 l1 l2 l3 l4 l5 l6 l7 l8 l9 : Slot} {x : Int32} (h : W0 rm 70 [l0, l1, l2, l3, l4, l5, l6, l7, l8, l9, .val (.int x)] (.int x :: S) (H) Q) : W0 rm 68 [l0, l1, l2, l3, l4, l5, l6, l7, l8, l9, .val (.int x)] (S) H Q := W.iload at_68 rfl h
theorem s0_70 {rm : Room} {S : List Value} {H : AHeap} {Q : Option Value → AHeap → Prop} {l0 l1 l2 l3 l4 l5 l6 l7 l8 l9 l10 : Slot} {x y : Int32} (h : W0 rm 71 [l0, l1, l2, l3, l4, l5, l6, l7, l8, l9, l10] (.int (x &&& y) :: S) (H) Q) : W0 rm 70 [l0, l1, l2, l3, l4, l5, l6, l7, l8, l9, l10] (.int y :: .int x :: S) H Q := W.iand at_70 h
theorem s0_71 {rm : Room} {S : List Value} {H : AHeap} {Q : Option Value → AHeap → Prop} {l0 l1 l2 l3 l4 l5 l6 l7 l8 l9 l10 : Slot} {rm' : Room} {H' : AHeap} {i : Nat} {vs : List Value} {a0 : Int32} {a1 : Int32}  (hH : H[i]? = some (.inl (0, vs))) (hM : M4 rm' [.ref i, .int a0, .int a1] H (Is none H')) (hr : rok rm rm' 6 S = true) (h : W0 (less rm rm') 74 [l0, l1, l2, l3, l4, l5, l6, l7, l8, l9, l10] (S) H' Q) : W0 rm 71 [l0, l1, l2, l3, l4, l5, l6, l7, l8, l9, l10] (.int a1 :: .int a0 :: .ref i :: S) H Q := W.callV (c := 0) (S := S) (as := [.int a0, .int a1]) (rm' := rm') at_71 (List.mem_of_getElem? (i := 24) rfl) (List.mem_of_getElem? (i := 25) rfl) (List.mem_of_getElem? (i := 27) rfl) (Or.inl rfl) kt (List.mem_of_getElem? (i := 26) rfl) (List.mem_of_getElem? (i := 2) rfl) (List.mem_of_getElem? (i := 28) rfl) (by decide) rfl pd4 rfl rfl hH hM hr (fun _ _ q => by obtain ⟨rfl, rfl⟩ := q; exact h)
theorem s0_71q {rm : Room} {S : List Value} {H : AHeap} {Q : Option Value → AHeap → Prop} {l0 l1 l2 l3 l4 l5 l6 l7 l8 l9 l10 : Slot} {rm' : Room} {Q' : Option Value → AHeap → Prop} {i : Nat} {vs : List Value} {a0 a1 : Value} (hH : H[i]? = some (.inl (0, vs))) (hM : M4 rm' [.ref i, a0, a1] H Q') (hr : rok rm rm' 6 S = true) (h : ∀ v H', Q' v H' → W0 (less rm rm') 74 [l0, l1, l2, l3, l4, l5, l6, l7, l8, l9, l10] (v.toList ++ S) H' Q) : W0 rm 71 [l0, l1, l2, l3, l4, l5, l6, l7, l8, l9, l10] (a1 :: a0 :: .ref i :: S) H Q := W.callV (c := 0) (S := S) (as := [a0, a1]) (rm' := rm') at_71 (List.mem_of_getElem? (i := 24) rfl) (List.mem_of_getElem? (i := 25) rfl) (List.mem_of_getElem? (i := 27) rfl) (Or.inl rfl) kt (List.mem_of_getElem? (i := 26) rfl) (List.mem_of_getElem? (i := 2) rfl) (List.mem_of_getElem? (i := 28) rfl) (by decide) rfl pd4 rfl rfl hH hM hr h
theorem s0_74 {rm : Room} {S : List Value} {H : AHeap} {Q : Option Value → AHeap → Prop} {l0 l1 l2 l3 l4 l5 l6 l8 l9 l10 : Slot} {x : Int32} (h : W0 rm 76 [l0, l1, l2, l3, l4, l5, l6, .val (.int x), l8, l9, l10] (.int x :: S) (H) Q) : W0 rm 74 [l0, l1, l2, l3, l4, l5, l6, .val (.int x), l8, l9, l10] (S) H Q := W.iload at_74 rfl h
theorem s0_76 {rm : Room} {S : List Value} {H : AHeap} {Q : Option Value → AHeap → Prop} {l0 l1 l2 l3 l4 l5 l6 l7 l8 l9 l10 : Slot}  (h : W0 rm 77 [l0, l1, l2, l3, l4, l5, l6, l7, l8, l9, l10] (.int 2 :: S) (H) Q) : W0 rm 76 [l0, l1, l2, l3, l4, l5, l6, l7, l8, l9, l10] (S) H Q := W.iconst' at_76 (by decide) h
theorem s0_77 {rm : Room} {S : List Value} {H : AHeap} {Q : Option Value → AHeap → Prop} {l0 l1 l2 l3 l4 l5 l6 l7 l8 l9 l10 : Slot} {x y : Int32} (h1 : x < y → W0 rm 93 [l0, l1, l2, l3, l4, l5, l6, l7, l8, l9, l10] S H Q) (h2 : ¬ x < y → W0 rm 80 [l0, l1, l2, l3, l4, l5, l6, l7, l8, l9, l10] S H Q) : W0 rm 77 [l0, l1, l2, l3, l4, l5, l6, l7, l8, l9, l10] (.int y :: .int x :: S) H Q := W.icmp at_77 (by decide) (by decide) h1 h2
theorem s0_80 {rm : Room} {S : List Value} {H : AHeap} {Q : Option Value → AHeap → Prop} {l0 l1 l2 l3 l4 l6 l7 l8 l9 l10 : Slot} {i : Nat} (h : W0 rm 82 [l0, l1, l2, l3, l4, .val (.ref i), l6, l7, l8, l9, l10] (.ref i :: S) (H) Q) : W0 rm 80 [l0, l1, l2, l3, l4, .val (.ref i), l6, l7, l8, l9, l10] (S) H Q := W.aload at_80 rfl rfl h
theorem s0_80n {rm : Room} {S : List Value} {H : AHeap} {Q : Option Value → AHeap → Prop} {l0 l1 l2 l3 l4 l6 l7 l8 l9 l10 : Slot}  (h : W0 rm 82 [l0, l1, l2, l3, l4, .val .null, l6, l7, l8, l9, l10] (.null :: S) (H) Q) : W0 rm 80 [l0, l1, l2, l3, l4, .val .null, l6, l7, l8, l9, l10] (S) H Q := W.aload at_80 rfl rfl h
theorem s0_82 {rm : Room} {S : List Value} {H : AHeap} {Q : Option Value → AHeap → Prop} {l0 l1 l3 l4 l5 l6 l7 l8 l9 l10 : Slot} {x : Int32} (h : W0 rm 83 [l0, l1, .val (.int x), l3, l4, l5, l6, l7, l8, l9, l10] (.int x :: S) (H) Q) : W0 rm 82 [l0, l1, .val (.int x), l3, l4, l5, l6, l7, l8, l9, l10] (S) H Q := W.iload_n at_82 rfl h
theorem s0_83 {rm : Room} {S : List Value} {H : AHeap} {Q : Option Value → AHeap → Prop} {l0 l1 l2 l3 l4 l5 l6 l7 l8 l9 : Slot} {x : Int32} (h : W0 rm 85 [l0, l1, l2, l3, l4, l5, l6, l7, l8, l9, .val (.int x)] (.int x :: S) (H) Q) : W0 rm 83 [l0, l1, l2, l3, l4, l5, l6, l7, l8, l9, .val (.int x)] (S) H Q := W.iload at_83 rfl h
theorem s0_85 {rm : Room} {S : List Value} {H : AHeap} {Q : Option Value → AHeap → Prop} {l0 l1 l2 l3 l4 l5 l6 l7 l8 l9 l10 : Slot} {x y : Int32} (h : W0 rm 86 [l0, l1, l2, l3, l4, l5, l6, l7, l8, l9, l10] (.int (x &&& y) :: S) (H) Q) : W0 rm 85 [l0, l1, l2, l3, l4, l5, l6, l7, l8, l9, l10] (.int y :: .int x :: S) H Q := W.iand at_85 h
theorem s0_86 {rm : Room} {S : List Value} {H : AHeap} {Q : Option Value → AHeap → Prop} {l0 l1 l2 l4 l5 l6 l7 l8 l9 l10 : Slot} {x : Int32} (h : W0 rm 87 [l0, l1, l2, .val (.int x), l4, l5, l6, l7, l8, l9, l10] (.int x :: S) (H) Q) : W0 rm 86 [l0, l1, l2, .val (.int x), l4, l5, l6, l7, l8, l9, l10] (S) H Q := W.iload_n at_86 rfl h
theorem s0_87 {rm : Room} {S : List Value} {H : AHeap} {Q : Option Value → AHeap → Prop} {l0 l1 l2 l3 l4 l5 l6 l7 l8 l9 : Slot} {x : Int32} (h : W0 rm 89 [l0, l1, l2, l3, l4, l5, l6, l7, l8, l9, .val (.int x)] (.int x :: S) (H) Q) : W0 rm 87 [l0, l1, l2, l3, l4, l5, l6, l7, l8, l9, .val (.int x)] (S) H Q := W.iload at_87 rfl h
theorem s0_89 {rm : Room} {S : List Value} {H : AHeap} {Q : Option Value → AHeap → Prop} {l0 l1 l2 l3 l4 l5 l6 l7 l8 l9 l10 : Slot} {x y : Int32} (h : W0 rm 90 [l0, l1, l2, l3, l4, l5, l6, l7, l8, l9, l10] (.int (x &&& y) :: S) (H) Q) : W0 rm 89 [l0, l1, l2, l3, l4, l5, l6, l7, l8, l9, l10] (.int y :: .int x :: S) H Q := W.iand at_89 h
theorem s0_90 {rm : Room} {S : List Value} {H : AHeap} {Q : Option Value → AHeap → Prop} {l0 l1 l2 l3 l4 l5 l6 l7 l8 l9 l10 : Slot} {rm' : Room} {H' : AHeap} {i : Nat} {vs : List Value} {a0 : Int32} {a1 : Int32}  (hH : H[i]? = some (.inl (0, vs))) (hM : M4 rm' [.ref i, .int a0, .int a1] H (Is none H')) (hr : rok rm rm' 6 S = true) (h : W0 (less rm rm') 93 [l0, l1, l2, l3, l4, l5, l6, l7, l8, l9, l10] (S) H' Q) : W0 rm 90 [l0, l1, l2, l3, l4, l5, l6, l7, l8, l9, l10] (.int a1 :: .int a0 :: .ref i :: S) H Q := W.callV (c := 0) (S := S) (as := [.int a0, .int a1]) (rm' := rm') at_90 (List.mem_of_getElem? (i := 24) rfl) (List.mem_of_getElem? (i := 25) rfl) (List.mem_of_getElem? (i := 27) rfl) (Or.inl rfl) kt (List.mem_of_getElem? (i := 26) rfl) (List.mem_of_getElem? (i := 2) rfl) (List.mem_of_getElem? (i := 28) rfl) (by decide) rfl pd4 rfl rfl hH hM hr (fun _ _ q => by obtain ⟨rfl, rfl⟩ := q; exact h)
theorem s0_90q {rm : Room} {S : List Value} {H : AHeap} {Q : Option Value → AHeap → Prop} {l0 l1 l2 l3 l4 l5 l6 l7 l8 l9 l10 : Slot} {rm' : Room} {Q' : Option Value → AHeap → Prop} {i : Nat} {vs : List Value} {a0 a1 : Value} (hH : H[i]? = some (.inl (0, vs))) (hM : M4 rm' [.ref i, a0, a1] H Q') (hr : rok rm rm' 6 S = true) (h : ∀ v H', Q' v H' → W0 (less rm rm') 93 [l0, l1, l2, l3, l4, l5, l6, l7, l8, l9, l10] (v.toList ++ S) H' Q) : W0 rm 90 [l0, l1, l2, l3, l4, l5, l6, l7, l8, l9, l10] (a1 :: a0 :: .ref i :: S) H Q := W.callV (c := 0) (S := S) (as := [a0, a1]) (rm' := rm') at_90 (List.mem_of_getElem? (i := 24) rfl) (List.mem_of_getElem? (i := 25) rfl) (List.mem_of_getElem? (i := 27) rfl) (Or.inl rfl) kt (List.mem_of_getElem? (i := 26) rfl) (List.mem_of_getElem? (i := 2) rfl) (List.mem_of_getElem? (i := 28) rfl) (by decide) rfl pd4 rfl rfl hH hM hr h
theorem s0_93 {rm : Room} {S : List Value} {H : AHeap} {Q : Option Value → AHeap → Prop} {l0 l1 l2 l3 l4 l5 l6 l8 l9 l10 : Slot} {x : Int32} (h : W0 rm 95 [l0, l1, l2, l3, l4, l5, l6, .val (.int x), l8, l9, l10] (.int x :: S) (H) Q) : W0 rm 93 [l0, l1, l2, l3, l4, l5, l6, .val (.int x), l8, l9, l10] (S) H Q := W.iload at_93 rfl h
theorem s0_95 {rm : Room} {S : List Value} {H : AHeap} {Q : Option Value → AHeap → Prop} {l0 l1 l2 l3 l4 l5 l6 l7 l8 l9 l10 : Slot}  (h : W0 rm 96 [l0, l1, l2, l3, l4, l5, l6, l7, l8, l9, l10] (.int 3 :: S) (H) Q) : W0 rm 95 [l0, l1, l2, l3, l4, l5, l6, l7, l8, l9, l10] (S) H Q := W.iconst' at_95 (by decide) h
theorem s0_96 {rm : Room} {S : List Value} {H : AHeap} {Q : Option Value → AHeap → Prop} {l0 l1 l2 l3 l4 l5 l6 l7 l8 l9 l10 : Slot} {x y : Int32} (h1 : x < y → W0 rm 112 [l0, l1, l2, l3, l4, l5, l6, l7, l8, l9, l10] S H Q) (h2 : ¬ x < y → W0 rm 99 [l0, l1, l2, l3, l4, l5, l6, l7, l8, l9, l10] S H Q) : W0 rm 96 [l0, l1, l2, l3, l4, l5, l6, l7, l8, l9, l10] (.int y :: .int x :: S) H Q := W.icmp at_96 (by decide) (by decide) h1 h2
theorem s0_99 {rm : Room} {S : List Value} {H : AHeap} {Q : Option Value → AHeap → Prop} {l0 l1 l2 l3 l4 l6 l7 l8 l9 l10 : Slot} {i : Nat} (h : W0 rm 101 [l0, l1, l2, l3, l4, .val (.ref i), l6, l7, l8, l9, l10] (.ref i :: S) (H) Q) : W0 rm 99 [l0, l1, l2, l3, l4, .val (.ref i), l6, l7, l8, l9, l10] (S) H Q := W.aload at_99 rfl rfl h
theorem s0_99n {rm : Room} {S : List Value} {H : AHeap} {Q : Option Value → AHeap → Prop} {l0 l1 l2 l3 l4 l6 l7 l8 l9 l10 : Slot}  (h : W0 rm 101 [l0, l1, l2, l3, l4, .val .null, l6, l7, l8, l9, l10] (.null :: S) (H) Q) : W0 rm 99 [l0, l1, l2, l3, l4, .val .null, l6, l7, l8, l9, l10] (S) H Q := W.aload at_99 rfl rfl h
theorem s0_101 {rm : Room} {S : List Value} {H : AHeap} {Q : Option Value → AHeap → Prop} {l0 l2 l3 l4 l5 l6 l7 l8 l9 l10 : Slot} {x : Int32} (h : W0 rm 102 [l0, .val (.int x), l2, l3, l4, l5, l6, l7, l8, l9, l10] (.int x :: S) (H) Q) : W0 rm 101 [l0, .val (.int x), l2, l3, l4, l5, l6, l7, l8, l9, l10] (S) H Q := W.iload_n at_101 rfl h
theorem s0_102 {rm : Room} {S : List Value} {H : AHeap} {Q : Option Value → AHeap → Prop} {l0 l1 l2 l3 l4 l5 l6 l7 l8 l9 : Slot} {x : Int32} (h : W0 rm 104 [l0, l1, l2, l3, l4, l5, l6, l7, l8, l9, .val (.int x)] (.int x :: S) (H) Q) : W0 rm 102 [l0, l1, l2, l3, l4, l5, l6, l7, l8, l9, .val (.int x)] (S) H Q := W.iload at_102 rfl h
theorem s0_104 {rm : Room} {S : List Value} {H : AHeap} {Q : Option Value → AHeap → Prop} {l0 l1 l2 l3 l4 l5 l6 l7 l8 l9 l10 : Slot} {x y : Int32} (h : W0 rm 105 [l0, l1, l2, l3, l4, l5, l6, l7, l8, l9, l10] (.int (x &&& y) :: S) (H) Q) : W0 rm 104 [l0, l1, l2, l3, l4, l5, l6, l7, l8, l9, l10] (.int y :: .int x :: S) H Q := W.iand at_104 h
theorem s0_105 {rm : Room} {S : List Value} {H : AHeap} {Q : Option Value → AHeap → Prop} {l1 l2 l3 l4 l5 l6 l7 l8 l9 l10 : Slot} {x : Int32} (h : W0 rm 106 [.val (.int x), l1, l2, l3, l4, l5, l6, l7, l8, l9, l10] (.int x :: S) (H) Q) : W0 rm 105 [.val (.int x), l1, l2, l3, l4, l5, l6, l7, l8, l9, l10] (S) H Q := W.iload_n at_105 rfl h
theorem s0_106 {rm : Room} {S : List Value} {H : AHeap} {Q : Option Value → AHeap → Prop} {l0 l1 l2 l3 l4 l5 l6 l7 l8 l9 : Slot} {x : Int32} (h : W0 rm 108 [l0, l1, l2, l3, l4, l5, l6, l7, l8, l9, .val (.int x)] (.int x :: S) (H) Q) : W0 rm 106 [l0, l1, l2, l3, l4, l5, l6, l7, l8, l9, .val (.int x)] (S) H Q := W.iload at_106 rfl h
theorem s0_108 {rm : Room} {S : List Value} {H : AHeap} {Q : Option Value → AHeap → Prop} {l0 l1 l2 l3 l4 l5 l6 l7 l8 l9 l10 : Slot} {x y : Int32} (h : W0 rm 109 [l0, l1, l2, l3, l4, l5, l6, l7, l8, l9, l10] (.int (x &&& y) :: S) (H) Q) : W0 rm 108 [l0, l1, l2, l3, l4, l5, l6, l7, l8, l9, l10] (.int y :: .int x :: S) H Q := W.iand at_108 h
theorem s0_109 {rm : Room} {S : List Value} {H : AHeap} {Q : Option Value → AHeap → Prop} {l0 l1 l2 l3 l4 l5 l6 l7 l8 l9 l10 : Slot} {rm' : Room} {H' : AHeap} {i : Nat} {vs : List Value} {a0 : Int32} {a1 : Int32}  (hH : H[i]? = some (.inl (0, vs))) (hM : M4 rm' [.ref i, .int a0, .int a1] H (Is none H')) (hr : rok rm rm' 6 S = true) (h : W0 (less rm rm') 112 [l0, l1, l2, l3, l4, l5, l6, l7, l8, l9, l10] (S) H' Q) : W0 rm 109 [l0, l1, l2, l3, l4, l5, l6, l7, l8, l9, l10] (.int a1 :: .int a0 :: .ref i :: S) H Q := W.callV (c := 0) (S := S) (as := [.int a0, .int a1]) (rm' := rm') at_109 (List.mem_of_getElem? (i := 24) rfl) (List.mem_of_getElem? (i := 25) rfl) (List.mem_of_getElem? (i := 27) rfl) (Or.inl rfl) kt (List.mem_of_getElem? (i := 26) rfl) (List.mem_of_getElem? (i := 2) rfl) (List.mem_of_getElem? (i := 28) rfl) (by decide) rfl pd4 rfl rfl hH hM hr (fun _ _ q => by obtain ⟨rfl, rfl⟩ := q; exact h)
theorem s0_109q {rm : Room} {S : List Value} {H : AHeap} {Q : Option Value → AHeap → Prop} {l0 l1 l2 l3 l4 l5 l6 l7 l8 l9 l10 : Slot} {rm' : Room} {Q' : Option Value → AHeap → Prop} {i : Nat} {vs : List Value} {a0 a1 : Value} (hH : H[i]? = some (.inl (0, vs))) (hM : M4 rm' [.ref i, a0, a1] H Q') (hr : rok rm rm' 6 S = true) (h : ∀ v H', Q' v H' → W0 (less rm rm') 112 [l0, l1, l2, l3, l4, l5, l6, l7, l8, l9, l10] (v.toList ++ S) H' Q) : W0 rm 109 [l0, l1, l2, l3, l4, l5, l6, l7, l8, l9, l10] (a1 :: a0 :: .ref i :: S) H Q := W.callV (c := 0) (S := S) (as := [a0, a1]) (rm' := rm') at_109 (List.mem_of_getElem? (i := 24) rfl) (List.mem_of_getElem? (i := 25) rfl) (List.mem_of_getElem? (i := 27) rfl) (Or.inl rfl) kt (List.mem_of_getElem? (i := 26) rfl) (List.mem_of_getElem? (i := 2) rfl) (List.mem_of_getElem? (i := 28) rfl) (by decide) rfl pd4 rfl rfl hH hM hr h
theorem s0_112 {rm : Room} {S : List Value} {H : AHeap} {Q : Option Value → AHeap → Prop} {l0 l1 l2 l3 l4 l5 l7 l8 l9 l10 : Slot} {x : Int32} (h : W0 rm 114 [l0, l1, l2, l3, l4, l5, .val (.int x), l7, l8, l9, l10] (.int x :: S) (H) Q) : W0 rm 112 [l0, l1, l2, l3, l4, l5, .val (.int x), l7, l8, l9, l10] (S) H Q := W.iload at_112 rfl h
theorem s0_114 {rm : Room} {S : List Value} {H : AHeap} {Q : Option Value → AHeap → Prop} {l0 l1 l2 l3 l4 l5 l6 l7 l8 l9 l10 : Slot} {x : Int32} (h1 : x = 0 → W0 rm 139 [l0, l1, l2, l3, l4, l5, l6, l7, l8, l9, l10] S H Q) (h2 : ¬ x = 0 → W0 rm 117 [l0, l1, l2, l3, l4, l5, l6, l7, l8, l9, l10] S H Q) : W0 rm 114 [l0, l1, l2, l3, l4, l5, l6, l7, l8, l9, l10] (.int x :: S) H Q := W.ifc at_114 (by decide) (by decide) h1 h2
theorem s0_117 {rm : Room} {S : List Value} {H : AHeap} {Q : Option Value → AHeap → Prop} {l0 l1 l2 l3 l4 l6 l7 l8 l9 l10 : Slot} {i : Nat} (h : W0 rm 119 [l0, l1, l2, l3, l4, .val (.ref i), l6, l7, l8, l9, l10] (.ref i :: S) (H) Q) : W0 rm 117 [l0, l1, l2, l3, l4, .val (.ref i), l6, l7, l8, l9, l10] (S) H Q := W.aload at_117 rfl rfl h
theorem s0_117n {rm : Room} {S : List Value} {H : AHeap} {Q : Option Value → AHeap → Prop} {l0 l1 l2 l3 l4 l6 l7 l8 l9 l10 : Slot}  (h : W0 rm 119 [l0, l1, l2, l3, l4, .val .null, l6, l7, l8, l9, l10] (.null :: S) (H) Q) : W0 rm 117 [l0, l1, l2, l3, l4, .val .null, l6, l7, l8, l9, l10] (S) H Q := W.aload at_117 rfl rfl h
theorem s0_119 {rm : Room} {S : List Value} {H : AHeap} {Q : Option Value → AHeap → Prop} {l0 l1 l2 l3 l4 l5 l6 l7 l8 l9 l10 : Slot} {rm' : Room} {H' : AHeap} {i : Nat} {vs : List Value}  {r : Int32} (hH : H[i]? = some (.inl (0, vs))) (hM : M2 rm' [.ref i] H (Is (some (.int r)) H')) (hr : rok rm rm' 1 S = true) (h : W0 (less rm rm') 122 [l0, l1, l2, l3, l4, l5, l6, l7, l8, l9, l10] (.int r :: S) H' Q) : W0 rm 119 [l0, l1, l2, l3, l4, l5, l6, l7, l8, l9, l10] (.ref i :: S) H Q := W.callV (c := 0) (S := S) (as := []) (rm' := rm') at_119 (List.mem_of_getElem? (i := 12) rfl) (List.mem_of_getElem? (i := 13) rfl) (List.mem_of_getElem? (i := 15) rfl) (Or.inl rfl) kt (List.mem_of_getElem? (i := 14) rfl) (List.mem_of_getElem? (i := 2) rfl) (List.mem_of_getElem? (i := 16) rfl) (by decide) rfl pd2 rfl rfl hH hM hr (fun _ _ q => by obtain ⟨rfl, rfl⟩ := q; exact h)
theorem s0_119q {rm : Room} {S : List Value} {H : AHeap} {Q : Option Value → AHeap → Prop} {l0 l1 l2 l3 l4 l5 l6 l7 l8 l9 l10 : Slot} {rm' : Room} {Q' : Option Value → AHeap → Prop} {i : Nat} {vs : List Value}  (hH : H[i]? = some (.inl (0, vs))) (hM : M2 rm' [.ref i] H Q') (hr : rok rm rm' 1 S = true) (h : ∀ v H', Q' v H' → W0 (less rm rm') 122 [l0, l1, l2, l3, l4, l5, l6, l7, l8, l9, l10] (v.toList ++ S) H' Q) : W0 rm 119 [l0, l1, l2, l3, l4, l5, l6, l7, l8, l9, l10] (.ref i :: S) H Q := W.callV (c := 0) (S := S) (as := []) (rm' := rm') at_119 (List.mem_of_getElem? (i := 12) rfl) (List.mem_of_getElem? (i := 13) rfl) (List.mem_of_getElem? (i := 15) rfl) (Or.inl rfl) kt (List.mem_of_getElem? (i := 14) rfl) (List.mem_of_getElem? (i := 2) rfl) (List.mem_of_getElem? (i := 16) rfl) (by decide) rfl pd2 rfl rfl hH hM hr h
theorem s0_122 {rm : Room} {S : List Value} {H : AHeap} {Q : Option Value → AHeap → Prop} {l0 l1 l2 l3 l4 l5 l6 l8 l9 l10 : Slot} {x : Int32} (h : W0 rm 124 [l0, l1, l2, l3, l4, l5, l6, .val (.int x), l8, l9, l10] (.int x :: S) (H) Q) : W0 rm 122 [l0, l1, l2, l3, l4, l5, l6, .val (.int x), l8, l9, l10] (S) H Q := W.iload at_122 rfl h
theorem s0_124 {rm : Room} {S : List Value} {H : AHeap} {Q : Option Value → AHeap → Prop} {l0 l1 l2 l3 l4 l5 l6 l7 l8 l9 l10 : Slot} {x : Int32} (h1 : ¬ x = 0 → W0 rm 131 [l0, l1, l2, l3, l4, l5, l6, l7, l8, l9, l10] S H Q) (h2 : x = 0 → W0 rm 127 [l0, l1, l2, l3, l4, l5, l6, l7, l8, l9, l10] S H Q) : W0 rm 124 [l0, l1, l2, l3, l4, l5, l6, l7, l8, l9, l10] (.int x :: S) H Q := W.ifc at_124 (by decide) (by decide) h1 h2
theorem s0_127 {rm : Room} {S : List Value} {H : AHeap} {Q : Option Value → AHeap → Prop} {l0 l1 l2 l3 l4 l5 l6 l7 l8 l9 l10 : Slot}  (h : W0 rm 128 [l0, l1, l2, l3, l4, l5, l6, l7, l8, l9, l10] (.int 1 :: S) (H) Q) : W0 rm 127 [l0, l1, l2, l3, l4, l5, l6, l7, l8, l9, l10] (S) H Q := W.iconst' at_127 (by decide) h
theorem s0_128 {rm : Room} {S : List Value} {H : AHeap} {Q : Option Value → AHeap → Prop} {l0 l1 l2 l3 l4 l5 l6 l7 l8 l9 l10 : Slot}  (h : W0 rm 132 [l0, l1, l2, l3, l4, l5, l6, l7, l8, l9, l10] (S) (H) Q) : W0 rm 128 [l0, l1, l2, l3, l4, l5, l6, l7, l8, l9, l10] (S) H Q := W.goto at_128 (by decide) (by decide) h
theorem s0_131 {rm : Room} {S : List Value} {H : AHeap} {Q : Option Value → AHeap → Prop} {l0 l1 l2 l3 l4 l5 l6 l7 l8 l9 l10 : Slot}  (h : W0 rm 132 [l0, l1, l2, l3, l4, l5, l6, l7, l8, l9, l10] (.int 0 :: S) (H) Q) : W0 rm 131 [l0, l1, l2, l3, l4, l5, l6, l7, l8, l9, l10] (S) H Q := W.iconst' at_131 (by decide) h
theorem s0_132 {rm : Room} {S : List Value} {H : AHeap} {Q : Option Value → AHeap → Prop} {l0 l1 l2 l3 l4 l5 l6 l7 l8 l9 l10 : Slot} {x y : Int32} (h1 : ¬ x = y → W0 rm 139 [l0, l1, l2, l3, l4, l5, l6, l7, l8, l9, l10] S H Q) (h2 : x = y → W0 rm 135 [l0, l1, l2, l3, l4, l5, l6, l7, l8, l9, l10] S H Q) : W0 rm 132 [l0, l1, l2, l3, l4, l5, l6, l7, l8, l9, l10] (.int y :: .int x :: S) H Q := W.icmp at_132 (by decide) (by decide) h1 h2
theorem s0_135 {rm : Room} {S : List Value} {H : AHeap} {Q : Option Value → AHeap → Prop} {l0 l1 l2 l3 l4 l5 l6 l7 l8 l9 l10 : Slot}  (h : W0 rm 136 [l0, l1, l2, l3, l4, l5, l6, l7, l8, l9, l10] (.int 1 :: S) (H) Q) : W0 rm 135 [l0, l1, l2, l3, l4, l5, l6, l7, l8, l9, l10] (S) H Q := W.iconst' at_135 (by decide) h
theorem s0_136 {rm : Room} {S : List Value} {H : AHeap} {Q : Option Value → AHeap → Prop} {l0 l1 l2 l3 l4 l5 l6 l7 l8 l9 l10 : Slot}  (h : W0 rm 140 [l0, l1, l2, l3, l4, l5, l6, l7, l8, l9, l10] (S) (H) Q) : W0 rm 136 [l0, l1, l2, l3, l4, l5, l6, l7, l8, l9, l10] (S) H Q := W.goto at_136 (by decide) (by decide) h
theorem s0_139 {rm : Room} {S : List Value} {H : AHeap} {Q : Option Value → AHeap → Prop} {l0 l1 l2 l3 l4 l5 l6 l7 l8 l9 l10 : Slot}  (h : W0 rm 140 [l0, l1, l2, l3, l4, l5, l6, l7, l8, l9, l10] (.int 0 :: S) (H) Q) : W0 rm 139 [l0, l1, l2, l3, l4, l5, l6, l7, l8, l9, l10] (S) H Q := W.iconst' at_139 (by decide) h
theorem s0_140 {rm : Room} {S : List Value} {H : AHeap} {Q : Option Value → AHeap → Prop} {l0 l1 l2 l3 l4 l5 l6 l7 l8 l9 l10 : Slot} {x : Int32} (ho : one l6 = true) (h : W0 rm 142 [l0, l1, l2, l3, l4, l5, .val (.int x), l7, l8, l9, l10] (S) (H) Q) : W0 rm 140 [l0, l1, l2, l3, l4, l5, l6, l7, l8, l9, l10] (.int x :: S) H Q := W.istore at_140 rfl ho h
theorem s0_140w {rm : Room} {S : List Value} {H : AHeap} {Q : Option Value → AHeap → Prop} {l0 l1 l2 l3 l4 l5 l7 l8 l9 l10 : Slot} {w : Value} {x : Int32} (ho : w.category = 2) (h : W0 rm 142 [l0, l1, l2, l3, l4, l5, .val (.int x), .unset, l8, l9, l10] (S) (H) Q) : W0 rm 140 [l0, l1, l2, l3, l4, l5, .val w, l7, l8, l9, l10] (.int x :: S) H Q := W.istoreW at_140 rfl ho (Nat.le_of_ble_eq_true rfl) h
theorem s0_140s {rm : Room} {S : List Value} {H : AHeap} {Q : Option Value → AHeap → Prop} {l0 l1 l2 l3 l4 l5 l7 l8 l9 l10 : Slot} {x : Int32} (h : W0 rm 142 [l0, l1, l2, l3, l4, .unset, .val (.int x), l7, l8, l9, l10] (S) (H) Q) : W0 rm 140 [l0, l1, l2, l3, l4, l5, .second, l7, l8, l9, l10] (.int x :: S) H Q := W.istoreS at_140 rfl (by decide) h
theorem s0_142 {rm : Room} {S : List Value} {H : AHeap} {Q : Option Value → AHeap → Prop} {l0 l1 l2 l3 l4 l5 l6 l7 l9 l10 : Slot} {x : Int32} (h : W0 rm 144 [l0, l1, l2, l3, l4, l5, l6, l7, .val (.int x), l9, l10] (.int x :: S) (H) Q) : W0 rm 142 [l0, l1, l2, l3, l4, l5, l6, l7, .val (.int x), l9, l10] (S) H Q := W.iload at_142 rfl h
theorem s0_144 {rm : Room} {S : List Value} {H : AHeap} {Q : Option Value → AHeap → Prop} {l0 l1 l2 l3 l4 l5 l6 l7 l8 l9 l10 : Slot}  (h : W0 rm 145 [l0, l1, l2, l3, l4, l5, l6, l7, l8, l9, l10] (.int 1 :: S) (H) Q) : W0 rm 144 [l0, l1, l2, l3, l4, l5, l6, l7, l8, l9, l10] (S) H Q := W.iconst' at_144 (by decide) h
theorem s0_145 {rm : Room} {S : List Value} {H : AHeap} {Q : Option Value → AHeap → Prop} {l0 l1 l2 l3 l4 l5 l6 l7 l8 l9 l10 : Slot} {x y : Int32} (h1 : x < y → W0 rm 154 [l0, l1, l2, l3, l4, l5, l6, l7, l8, l9, l10] S H Q) (h2 : ¬ x < y → W0 rm 148 [l0, l1, l2, l3, l4, l5, l6, l7, l8, l9, l10] S H Q) : W0 rm 145 [l0, l1, l2, l3, l4, l5, l6, l7, l8, l9, l10] (.int y :: .int x :: S) H Q := W.icmp at_145 (by decide) (by decide) h1 h2
theorem s0_148 {rm : Room} {S : List Value} {H : AHeap} {Q : Option Value → AHeap → Prop} {l0 l1 l2 l3 l4 l6 l7 l8 l9 l10 : Slot} {i : Nat} (h : W0 rm 150 [l0, l1, l2, l3, l4, .val (.ref i), l6, l7, l8, l9, l10] (.ref i :: S) (H) Q) : W0 rm 148 [l0, l1, l2, l3, l4, .val (.ref i), l6, l7, l8, l9, l10] (S) H Q := W.aload at_148 rfl rfl h
theorem s0_148n {rm : Room} {S : List Value} {H : AHeap} {Q : Option Value → AHeap → Prop} {l0 l1 l2 l3 l4 l6 l7 l8 l9 l10 : Slot}  (h : W0 rm 150 [l0, l1, l2, l3, l4, .val .null, l6, l7, l8, l9, l10] (.null :: S) (H) Q) : W0 rm 148 [l0, l1, l2, l3, l4, .val .null, l6, l7, l8, l9, l10] (S) H Q := W.aload at_148 rfl rfl h
theorem s0_150 {rm : Room} {S : List Value} {H : AHeap} {Q : Option Value → AHeap → Prop} {l0 l1 l2 l3 l4 l5 l6 l7 l8 l9 l10 : Slot} {rm' : Room} {H' : AHeap} {i : Nat} {vs : List Value}  {r : Int32} (hH : H[i]? = some (.inl (0, vs))) (hM : M5 rm' [.ref i] H (Is (some (.int r)) H')) (hr : rok rm rm' 6 S = true) (h : W0 (less rm rm') 153 [l0, l1, l2, l3, l4, l5, l6, l7, l8, l9, l10] (.int r :: S) H' Q) : W0 rm 150 [l0, l1, l2, l3, l4, l5, l6, l7, l8, l9, l10] (.ref i :: S) H Q := W.callV (c := 0) (S := S) (as := []) (rm' := rm') at_150 (List.mem_of_getElem? (i := 29) rfl) (List.mem_of_getElem? (i := 30) rfl) (List.mem_of_getElem? (i := 32) rfl) (Or.inl rfl) kt (List.mem_of_getElem? (i := 31) rfl) (List.mem_of_getElem? (i := 2) rfl) (List.mem_of_getElem? (i := 33) rfl) (by decide) rfl pd5 rfl rfl hH hM hr (fun _ _ q => by obtain ⟨rfl, rfl⟩ := q; exact h)
theorem s0_150q {rm : Room} {S : List Value} {H : AHeap} {Q : Option Value → AHeap → Prop} {l0 l1 l2 l3 l4 l5 l6 l7 l8 l9 l10 : Slot} {rm' : Room} {Q' : Option Value → AHeap → Prop} {i : Nat} {vs : List Value}  (hH : H[i]? = some (.inl (0, vs))) (hM : M5 rm' [.ref i] H Q') (hr : rok rm rm' 6 S = true) (h : ∀ v H', Q' v H' → W0 (less rm rm') 153 [l0, l1, l2, l3, l4, l5, l6, l7, l8, l9, l10] (v.toList ++ S) H' Q) : W0 rm 150 [l0, l1, l2, l3, l4, l5, l6, l7, l8, l9, l10] (.ref i :: S) H Q := W.callV (c := 0) (S := S) (as := []) (rm' := rm') at_150 (List.mem_of_getElem? (i := 29) rfl) (List.mem_of_getElem? (i := 30) rfl) (List.mem_of_getElem? (i := 32) rfl) (Or.inl rfl) kt (List.mem_of_getElem? (i := 31) rfl) (List.mem_of_getElem? (i := 2) rfl) (List.mem_of_getElem? (i := 33) rfl) (by decide) rfl pd5 rfl rfl hH hM hr h
theorem s0_153 {rm : Room} {S : List Value} {H : AHeap} {Q : Option Value → AHeap → Prop} {l0 l1 l2 l3 l4 l5 l6 l7 l8 l9 l10 : Slot} {v : Value} (hc : v.category = 1) (h : W0 rm 154 [l0, l1, l2, l3, l4, l5, l6, l7, l8, l9, l10] (S) (H) Q) : W0 rm 153 [l0, l1, l2, l3, l4, l5, l6, l7, l8, l9, l10] (v :: S) H Q := Own.W.pop at_153 hc h
theorem s0_154 {rm : Room} {S : List Value} {H : AHeap} {Q : Option Value → AHeap → Prop} {l0 l1 l2 l3 l4 l5 l6 l7 l9 l10 : Slot} {x : Int32} (h : W0 rm 156 [l0, l1, l2, l3, l4, l5, l6, l7, .val (.int x), l9, l10] (.int x :: S) (H) Q) : W0 rm 154 [l0, l1, l2, l3, l4, l5, l6, l7, .val (.int x), l9, l10] (S) H Q := W.iload at_154 rfl h
theorem s0_156 {rm : Room} {S : List Value} {H : AHeap} {Q : Option Value → AHeap → Prop} {l0 l1 l2 l3 l4 l5 l6 l7 l8 l9 l10 : Slot}  (h : W0 rm 157 [l0, l1, l2, l3, l4, l5, l6, l7, l8, l9, l10] (.int 2 :: S) (H) Q) : W0 rm 156 [l0, l1, l2, l3, l4, l5, l6, l7, l8, l9, l10] (S) H Q := W.iconst' at_156 (by decide) h
theorem s0_157 {rm : Room} {S : List Value} {H : AHeap} {Q : Option Value → AHeap → Prop} {l0 l1 l2 l3 l4 l5 l6 l7 l8 l9 l10 : Slot} {x y : Int32} (h1 : x < y → W0 rm 166 [l0, l1, l2, l3, l4, l5, l6, l7, l8, l9, l10] S H Q) (h2 : ¬ x < y → W0 rm 160 [l0, l1, l2, l3, l4, l5, l6, l7, l8, l9, l10] S H Q) : W0 rm 157 [l0, l1, l2, l3, l4, l5, l6, l7, l8, l9, l10] (.int y :: .int x :: S) H Q := W.icmp at_157 (by decide) (by decide) h1 h2
theorem s0_160 {rm : Room} {S : List Value} {H : AHeap} {Q : Option Value → AHeap → Prop} {l0 l1 l2 l3 l4 l6 l7 l8 l9 l10 : Slot} {i : Nat} (h : W0 rm 162 [l0, l1, l2, l3, l4, .val (.ref i), l6, l7, l8, l9, l10] (.ref i :: S) (H) Q) : W0 rm 160 [l0, l1, l2, l3, l4, .val (.ref i), l6, l7, l8, l9, l10] (S) H Q := W.aload at_160 rfl rfl h
theorem s0_160n {rm : Room} {S : List Value} {H : AHeap} {Q : Option Value → AHeap → Prop} {l0 l1 l2 l3 l4 l6 l7 l8 l9 l10 : Slot}  (h : W0 rm 162 [l0, l1, l2, l3, l4, .val .null, l6, l7, l8, l9, l10] (.null :: S) (H) Q) : W0 rm 160 [l0, l1, l2, l3, l4, .val .null, l6, l7, l8, l9, l10] (S) H Q := W.aload at_160 rfl rfl h
theorem s0_162 {rm : Room} {S : List Value} {H : AHeap} {Q : Option Value → AHeap → Prop} {l0 l1 l2 l3 l4 l5 l6 l7 l8 l9 l10 : Slot} {rm' : Room} {H' : AHeap} {i : Nat} {vs : List Value}  {r : Int32} (hH : H[i]? = some (.inl (0, vs))) (hM : M5 rm' [.ref i] H (Is (some (.int r)) H')) (hr : rok rm rm' 6 S = true) (h : W0 (less rm rm') 165 [l0, l1, l2, l3, l4, l5, l6, l7, l8, l9, l10] (.int r :: S) H' Q) : W0 rm 162 [l0, l1, l2, l3, l4, l5, l6, l7, l8, l9, l10] (.ref i :: S) H Q := W.callV (c := 0) (S := S) (as := []) (rm' := rm') at_162 (List.mem_of_getElem? (i := 29) rfl) (List.mem_of_getElem? (i := 30) rfl) (List.mem_of_getElem? (i := 32) rfl) (Or.inl rfl) kt (List.mem_of_getElem? (i := 31) rfl) (List.mem_of_getElem? (i := 2) rfl) (List.mem_of_getElem? (i := 33) rfl) (by decide) rfl pd5 rfl rfl hH hM hr (fun _ _ q => by obtain ⟨rfl, rfl⟩ := q; exact h)
theorem s0_162q {rm : Room} {S : List Value} {H : AHeap} {Q : Option Value → AHeap → Prop} {l0 l1 l2 l3 l4 l5 l6 l7 l8 l9 l10 : Slot} {rm' : Room} {Q' : Option Value → AHeap → Prop} {i : Nat} {vs : List Value}  (hH : H[i]? = some (.inl (0, vs))) (hM : M5 rm' [.ref i] H Q') (hr : rok rm rm' 6 S = true) (h : ∀ v H', Q' v H' → W0 (less rm rm') 165 [l0, l1, l2, l3, l4, l5, l6, l7, l8, l9, l10] (v.toList ++ S) H' Q) : W0 rm 162 [l0, l1, l2, l3, l4, l5, l6, l7, l8, l9, l10] (.ref i :: S) H Q := W.callV (c := 0) (S := S) (as := []) (rm' := rm') at_162 (List.mem_of_getElem? (i := 29) rfl) (List.mem_of_getElem? (i := 30) rfl) (List.mem_of_getElem? (i := 32) rfl) (Or.inl rfl) kt (List.mem_of_getElem? (i := 31) rfl) (List.mem_of_getElem? (i := 2) rfl) (List.mem_of_getElem? (i := 33) rfl) (by decide) rfl pd5 rfl rfl hH hM hr h
theorem s0_165 {rm : Room} {S : List Value} {H : AHeap} {Q : Option Value → AHeap → Prop} {l0 l1 l2 l3 l4 l5 l6 l7 l8 l9 l10 : Slot} {v : Value} (hc : v.category = 1) (h : W0 rm 166 [l0, l1, l2, l3, l4, l5, l6, l7, l8, l9, l10] (S) (H) Q) : W0 rm 165 [l0, l1, l2, l3, l4, l5, l6, l7, l8, l9, l10] (v :: S) H Q := Own.W.pop at_165 hc h
theorem s0_166 {rm : Room} {S : List Value} {H : AHeap} {Q : Option Value → AHeap → Prop} {l0 l1 l2 l3 l4 l5 l6 l7 l9 l10 : Slot} {x : Int32} (h : W0 rm 168 [l0, l1, l2, l3, l4, l5, l6, l7, .val (.int x), l9, l10] (.int x :: S) (H) Q) : W0 rm 166 [l0, l1, l2, l3, l4, l5, l6, l7, .val (.int x), l9, l10] (S) H Q := W.iload at_166 rfl h
theorem s0_168 {rm : Room} {S : List Value} {H : AHeap} {Q : Option Value → AHeap → Prop} {l0 l1 l2 l3 l4 l5 l6 l7 l8 l9 l10 : Slot}  (h : W0 rm 169 [l0, l1, l2, l3, l4, l5, l6, l7, l8, l9, l10] (.int 3 :: S) (H) Q) : W0 rm 168 [l0, l1, l2, l3, l4, l5, l6, l7, l8, l9, l10] (S) H Q := W.iconst' at_168 (by decide) h
theorem s0_169 {rm : Room} {S : List Value} {H : AHeap} {Q : Option Value → AHeap → Prop} {l0 l1 l2 l3 l4 l5 l6 l7 l8 l9 l10 : Slot} {x y : Int32} (h1 : x < y → W0 rm 178 [l0, l1, l2, l3, l4, l5, l6, l7, l8, l9, l10] S H Q) (h2 : ¬ x < y → W0 rm 172 [l0, l1, l2, l3, l4, l5, l6, l7, l8, l9, l10] S H Q) : W0 rm 169 [l0, l1, l2, l3, l4, l5, l6, l7, l8, l9, l10] (.int y :: .int x :: S) H Q := W.icmp at_169 (by decide) (by decide) h1 h2
theorem s0_172 {rm : Room} {S : List Value} {H : AHeap} {Q : Option Value → AHeap → Prop} {l0 l1 l2 l3 l4 l6 l7 l8 l9 l10 : Slot} {i : Nat} (h : W0 rm 174 [l0, l1, l2, l3, l4, .val (.ref i), l6, l7, l8, l9, l10] (.ref i :: S) (H) Q) : W0 rm 172 [l0, l1, l2, l3, l4, .val (.ref i), l6, l7, l8, l9, l10] (S) H Q := W.aload at_172 rfl rfl h
theorem s0_172n {rm : Room} {S : List Value} {H : AHeap} {Q : Option Value → AHeap → Prop} {l0 l1 l2 l3 l4 l6 l7 l8 l9 l10 : Slot}  (h : W0 rm 174 [l0, l1, l2, l3, l4, .val .null, l6, l7, l8, l9, l10] (.null :: S) (H) Q) : W0 rm 172 [l0, l1, l2, l3, l4, .val .null, l6, l7, l8, l9, l10] (S) H Q := W.aload at_172 rfl rfl h
theorem s0_174 {rm : Room} {S : List Value} {H : AHeap} {Q : Option Value → AHeap → Prop} {l0 l1 l2 l3 l4 l5 l6 l7 l8 l9 l10 : Slot} {rm' : Room} {H' : AHeap} {i : Nat} {vs : List Value}  {r : Int32} (hH : H[i]? = some (.inl (0, vs))) (hM : M5 rm' [.ref i] H (Is (some (.int r)) H')) (hr : rok rm rm' 6 S = true) (h : W0 (less rm rm') 177 [l0, l1, l2, l3, l4, l5, l6, l7, l8, l9, l10] (.int r :: S) H' Q) : W0 rm 174 [l0, l1, l2, l3, l4, l5, l6, l7, l8, l9, l10] (.ref i :: S) H Q := W.callV (c := 0) (S := S) (as := []) (rm' := rm') at_174 (List.mem_of_getElem? (i := 29) rfl) (List.mem_of_getElem? (i := 30) rfl) (List.mem_of_getElem? (i := 32) rfl) (Or.inl rfl) kt (List.mem_of_getElem? (i := 31) rfl) (List.mem_of_getElem? (i := 2) rfl) (List.mem_of_getElem? (i := 33) rfl) (by decide) rfl pd5 rfl rfl hH hM hr (fun _ _ q => by obtain ⟨rfl, rfl⟩ := q; exact h)
theorem s0_174q {rm : Room} {S : List Value} {H : AHeap} {Q : Option Value → AHeap → Prop} {l0 l1 l2 l3 l4 l5 l6 l7 l8 l9 l10 : Slot} {rm' : Room} {Q' : Option Value → AHeap → Prop} {i : Nat} {vs : List Value}  (hH : H[i]? = some (.inl (0, vs))) (hM : M5 rm' [.ref i] H Q') (hr : rok rm rm' 6 S = true) (h : ∀ v H', Q' v H' → W0 (less rm rm') 177 [l0, l1, l2, l3, l4, l5, l6, l7, l8, l9, l10] (v.toList ++ S) H' Q) : W0 rm 174 [l0, l1, l2, l3, l4, l5, l6, l7, l8, l9, l10] (.ref i :: S) H Q := W.callV (c := 0) (S := S) (as := []) (rm' := rm') at_174 (List.mem_of_getElem? (i := 29) rfl) (List.mem_of_getElem? (i := 30) rfl) (List.mem_of_getElem? (i := 32) rfl) (Or.inl rfl) kt (List.mem_of_getElem? (i := 31) rfl) (List.mem_of_getElem? (i := 2) rfl) (List.mem_of_getElem? (i := 33) rfl) (by decide) rfl pd5 rfl rfl hH hM hr h
theorem s0_177 {rm : Room} {S : List Value} {H : AHeap} {Q : Option Value → AHeap → Prop} {l0 l1 l2 l3 l4 l5 l6 l7 l8 l9 l10 : Slot} {v : Value} (hc : v.category = 1) (h : W0 rm 178 [l0, l1, l2, l3, l4, l5, l6, l7, l8, l9, l10] (S) (H) Q) : W0 rm 177 [l0, l1, l2, l3, l4, l5, l6, l7, l8, l9, l10] (v :: S) H Q := Own.W.pop at_177 hc h
theorem s0_178 {rm : Room} {S : List Value} {H : AHeap} {Q : Option Value → AHeap → Prop} {l0 l1 l2 l3 l4 l5 l7 l8 l9 l10 : Slot} {x : Int32} (h : W0 rm 180 [l0, l1, l2, l3, l4, l5, .val (.int x), l7, l8, l9, l10] (.int x :: S) (H) Q) : W0 rm 178 [l0, l1, l2, l3, l4, l5, .val (.int x), l7, l8, l9, l10] (S) H Q := W.iload at_178 rfl h
theorem s0_180 {rm : Room} {S : List Value} {H : AHeap} {Q : Option Value → AHeap → Prop} {l0 l1 l2 l3 l4 l5 l6 l7 l8 l9 l10 : Slot} {x : Int32} (h1 : x = 0 → W0 rm 208 [l0, l1, l2, l3, l4, l5, l6, l7, l8, l9, l10] S H Q) (h2 : ¬ x = 0 → W0 rm 183 [l0, l1, l2, l3, l4, l5, l6, l7, l8, l9, l10] S H Q) : W0 rm 180 [l0, l1, l2, l3, l4, l5, l6, l7, l8, l9, l10] (.int x :: S) H Q := W.ifc at_180 (by decide) (by decide) h1 h2
theorem s0_183 {rm : Room} {S : List Value} {H : AHeap} {Q : Option Value → AHeap → Prop} {l0 l1 l2 l3 l4 l6 l7 l8 l9 l10 : Slot} {i : Nat} (h : W0 rm 185 [l0, l1, l2, l3, l4, .val (.ref i), l6, l7, l8, l9, l10] (.ref i :: S) (H) Q) : W0 rm 183 [l0, l1, l2, l3, l4, .val (.ref i), l6, l7, l8, l9, l10] (S) H Q := W.aload at_183 rfl rfl h
theorem s0_183n {rm : Room} {S : List Value} {H : AHeap} {Q : Option Value → AHeap → Prop} {l0 l1 l2 l3 l4 l6 l7 l8 l9 l10 : Slot}  (h : W0 rm 185 [l0, l1, l2, l3, l4, .val .null, l6, l7, l8, l9, l10] (.null :: S) (H) Q) : W0 rm 183 [l0, l1, l2, l3, l4, .val .null, l6, l7, l8, l9, l10] (S) H Q := W.aload at_183 rfl rfl h
theorem s0_185 {rm : Room} {S : List Value} {H : AHeap} {Q : Option Value → AHeap → Prop} {l0 l1 l2 l3 l4 l5 l6 l7 l8 l9 l10 : Slot} {rm' : Room} {H' : AHeap} {i : Nat} {vs : List Value}  {r : Int32} (hH : H[i]? = some (.inl (0, vs))) (hM : M2 rm' [.ref i] H (Is (some (.int r)) H')) (hr : rok rm rm' 1 S = true) (h : W0 (less rm rm') 188 [l0, l1, l2, l3, l4, l5, l6, l7, l8, l9, l10] (.int r :: S) H' Q) : W0 rm 185 [l0, l1, l2, l3, l4, l5, l6, l7, l8, l9, l10] (.ref i :: S) H Q := W.callV (c := 0) (S := S) (as := []) (rm' := rm') at_185 (List.mem_of_getElem? (i := 12) rfl) (List.mem_of_getElem? (i := 13) rfl) (List.mem_of_getElem? (i := 15) rfl) (Or.inl rfl) kt (List.mem_of_getElem? (i := 14) rfl) (List.mem_of_getElem? (i := 2) rfl) (List.mem_of_getElem? (i := 16) rfl) (by decide) rfl pd2 rfl rfl hH hM hr (fun _ _ q => by obtain ⟨rfl, rfl⟩ := q; exact h)
theorem s0_185q {rm : Room} {S : List Value} {H : AHeap} {Q : Option Value → AHeap → Prop} {l0 l1 l2 l3 l4 l5 l6 l7 l8 l9 l10 : Slot} {rm' : Room} {Q' : Option Value → AHeap → Prop} {i : Nat} {vs : List Value}  (hH : H[i]? = some (.inl (0, vs))) (hM : M2 rm' [.ref i] H Q') (hr : rok rm rm' 1 S = true) (h : ∀ v H', Q' v H' → W0 (less rm rm') 188 [l0, l1, l2, l3, l4, l5, l6, l7, l8, l9, l10] (v.toList ++ S) H' Q) : W0 rm 185 [l0, l1, l2, l3, l4, l5, l6, l7, l8, l9, l10] (.ref i :: S) H Q := W.callV (c := 0) (S := S) (as := []) (rm' := rm') at_185 (List.mem_of_getElem? (i := 12) rfl) (List.mem_of_getElem? (i := 13) rfl) (List.mem_of_getElem? (i := 15) rfl) (Or.inl rfl) kt (List.mem_of_getElem? (i := 14) rfl) (List.mem_of_getElem? (i := 2) rfl) (List.mem_of_getElem? (i := 16) rfl) (by decide) rfl pd2 rfl rfl hH hM hr h
theorem s0_188 {rm : Room} {S : List Value} {H : AHeap} {Q : Option Value → AHeap → Prop} {l0 l1 l2 l3 l4 l5 l6 l8 l9 l10 : Slot} {x : Int32} (h : W0 rm 190 [l0, l1, l2, l3, l4, l5, l6, .val (.int x), l8, l9, l10] (.int x :: S) (H) Q) : W0 rm 188 [l0, l1, l2, l3, l4, l5, l6, .val (.int x), l8, l9, l10] (S) H Q := W.iload at_188 rfl h
theorem s0_190 {rm : Room} {S : List Value} {H : AHeap} {Q : Option Value → AHeap → Prop} {l0 l1 l2 l3 l4 l5 l6 l7 l9 l10 : Slot} {x : Int32} (h : W0 rm 192 [l0, l1, l2, l3, l4, l5, l6, l7, .val (.int x), l9, l10] (.int x :: S) (H) Q) : W0 rm 190 [l0, l1, l2, l3, l4, l5, l6, l7, .val (.int x), l9, l10] (S) H Q := W.iload at_190 rfl h
theorem s0_192 {rm : Room} {S : List Value} {H : AHeap} {Q : Option Value → AHeap → Prop} {l0 l1 l2 l3 l4 l5 l6 l7 l8 l9 l10 : Slot} {x y : Int32} (h : W0 rm 193 [l0, l1, l2, l3, l4, l5, l6, l7, l8, l9, l10] (.int (x - y) :: S) (H) Q) : W0 rm 192 [l0, l1, l2, l3, l4, l5, l6, l7, l8, l9, l10] (.int y :: .int x :: S) H Q := W.isub at_192 h
theorem s0_193 {rm : Room} {S : List Value} {H : AHeap} {Q : Option Value → AHeap → Prop} {l0 l1 l2 l3 l4 l5 l6 l7 l8 l9 l10 : Slot} {x : Int32} (h1 : ¬ x = 0 → W0 rm 200 [l0, l1, l2, l3, l4, l5, l6, l7, l8, l9, l10] S H Q) (h2 : x = 0 → W0 rm 196 [l0, l1, l2, l3, l4, l5, l6, l7, l8, l9, l10] S H Q) : W0 rm 193 [l0, l1, l2, l3, l4, l5, l6, l7, l8, l9, l10] (.int x :: S) H Q := W.ifc at_193 (by decide) (by decide) h1 h2
theorem s0_196 {rm : Room} {S : List Value} {H : AHeap} {Q : Option Value → AHeap → Prop} {l0 l1 l2 l3 l4 l5 l6 l7 l8 l9 l10 : Slot}  (h : W0 rm 197 [l0, l1, l2, l3, l4, l5, l6, l7, l8, l9, l10] (.int 1 :: S) (H) Q) : W0 rm 196 [l0, l1, l2, l3, l4, l5, l6, l7, l8, l9, l10] (S) H Q := W.iconst' at_196 (by decide) h
theorem s0_197 {rm : Room} {S : List Value} {H : AHeap} {Q : Option Value → AHeap → Prop} {l0 l1 l2 l3 l4 l5 l6 l7 l8 l9 l10 : Slot}  (h : W0 rm 201 [l0, l1, l2, l3, l4, l5, l6, l7, l8, l9, l10] (S) (H) Q) : W0 rm 197 [l0, l1, l2, l3, l4, l5, l6, l7, l8, l9, l10] (S) H Q := W.goto at_197 (by decide) (by decide) h
theorem s0_200 {rm : Room} {S : List Value} {H : AHeap} {Q : Option Value → AHeap → Prop} {l0 l1 l2 l3 l4 l5 l6 l7 l8 l9 l10 : Slot}  (h : W0 rm 201 [l0, l1, l2, l3, l4, l5, l6, l7, l8, l9, l10] (.int 0 :: S) (H) Q) : W0 rm 200 [l0, l1, l2, l3, l4, l5, l6, l7, l8, l9, l10] (S) H Q := W.iconst' at_200 (by decide) h
theorem s0_201 {rm : Room} {S : List Value} {H : AHeap} {Q : Option Value → AHeap → Prop} {l0 l1 l2 l3 l4 l5 l6 l7 l8 l9 l10 : Slot} {x y : Int32} (h1 : ¬ x = y → W0 rm 208 [l0, l1, l2, l3, l4, l5, l6, l7, l8, l9, l10] S H Q) (h2 : x = y → W0 rm 204 [l0, l1, l2, l3, l4, l5, l6, l7, l8, l9, l10] S H Q) : W0 rm 201 [l0, l1, l2, l3, l4, l5, l6, l7, l8, l9, l10] (.int y :: .int x :: S) H Q := W.icmp at_201 (by decide) (by decide) h1 h2
theorem s0_204 {rm : Room} {S : List Value} {H : AHeap} {Q : Option Value → AHeap → Prop} {l0 l1 l2 l3 l4 l5 l6 l7 l8 l9 l10 : Slot}  (h : W0 rm 205 [l0, l1, l2, l3, l4, l5, l6, l7, l8, l9, l10] (.int 1 :: S) (H) Q) : W0 rm 204 [l0, l1, l2, l3, l4, l5, l6, l7, l8, l9, l10] (S) H Q := W.iconst' at_204 (by decide) h
theorem s0_205 {rm : Room} {S : List Value} {H : AHeap} {Q : Option Value → AHeap → Prop} {l0 l1 l2 l3 l4 l5 l6 l7 l8 l9 l10 : Slot}  (h : W0 rm 209 [l0, l1, l2, l3, l4, l5, l6, l7, l8, l9, l10] (S) (H) Q) : W0 rm 205 [l0, l1, l2, l3, l4, l5, l6, l7, l8, l9, l10] (S) H Q := W.goto at_205 (by decide) (by decide) h
theorem s0_208 {rm : Room} {S : List Value} {H : AHeap} {Q : Option Value → AHeap → Prop} {l0 l1 l2 l3 l4 l5 l6 l7 l8 l9 l10 : Slot}  (h : W0 rm 209 [l0, l1, l2, l3, l4, l5, l6, l7, l8, l9, l10] (.int 0 :: S) (H) Q) : W0 rm 208 [l0, l1, l2, l3, l4, l5, l6, l7, l8, l9, l10] (S) H Q := W.iconst' at_208 (by decide) h
theorem s0_209 {rm : Room} {S : List Value} {H : AHeap} {Q : Option Value → AHeap → Prop} {l0 l1 l2 l3 l4 l5 l6 l7 l8 l9 l10 : Slot} {x : Int32} (ho : one l6 = true) (h : W0 rm 211 [l0, l1, l2, l3, l4, l5, .val (.int x), l7, l8, l9, l10] (S) (H) Q) : W0 rm 209 [l0, l1, l2, l3, l4, l5, l6, l7, l8, l9, l10] (.int x :: S) H Q := W.istore at_209 rfl ho h
theorem s0_209w {rm : Room} {S : List Value} {H : AHeap} {Q : Option Value → AHeap → Prop} {l0 l1 l2 l3 l4 l5 l7 l8 l9 l10 : Slot} {w : Value} {x : Int32} (ho : w.category = 2) (h : W0 rm 211 [l0, l1, l2, l3, l4, l5, .val (.int x), .unset, l8, l9, l10] (S) (H) Q) : W0 rm 209 [l0, l1, l2, l3, l4, l5, .val w, l7, l8, l9, l10] (.int x :: S) H Q := W.istoreW at_209 rfl ho (Nat.le_of_ble_eq_true rfl) h
theorem s0_209s {rm : Room} {S : List Value} {H : AHeap} {Q : Option Value → AHeap → Prop} {l0 l1 l2 l3 l4 l5 l7 l8 l9 l10 : Slot} {x : Int32} (h : W0 rm 211 [l0, l1, l2, l3, l4, .unset, .val (.int x), l7, l8, l9, l10] (S) (H) Q) : W0 rm 209 [l0, l1, l2, l3, l4, l5, .second, l7, l8, l9, l10] (.int x :: S) H Q := W.istoreS at_209 rfl (by decide) h
theorem s0_211 {rm : Room} {S : List Value} {H : AHeap} {Q : Option Value → AHeap → Prop} {l0 l1 l2 l3 l4 l5 l6 l7 l8 l10 : Slot} {x : Int32} (h : W0 rm 213 [l0, l1, l2, l3, l4, l5, l6, l7, l8, .val (.int x), l10] (.int x :: S) (H) Q) : W0 rm 211 [l0, l1, l2, l3, l4, l5, l6, l7, l8, .val (.int x), l10] (S) H Q := W.iload at_211 rfl h
theorem s0_213 {rm : Room} {S : List Value} {H : AHeap} {Q : Option Value → AHeap → Prop} {l0 l1 l2 l3 l4 l5 l6 l7 l8 l9 l10 : Slot} {x : Int32} (h1 : x = 0 → W0 rm 241 [l0, l1, l2, l3, l4, l5, l6, l7, l8, l9, l10] S H Q) (h2 : ¬ x = 0 → W0 rm 216 [l0, l1, l2, l3, l4, l5, l6, l7, l8, l9, l10] S H Q) : W0 rm 213 [l0, l1, l2, l3, l4, l5, l6, l7, l8, l9, l10] (.int x :: S) H Q := W.ifc at_213 (by decide) (by decide) h1 h2
theorem s0_216 {rm : Room} {S : List Value} {H : AHeap} {Q : Option Value → AHeap → Prop} {l0 l1 l2 l3 l4 l6 l7 l8 l9 l10 : Slot} {i : Nat} (h : W0 rm 218 [l0, l1, l2, l3, l4, .val (.ref i), l6, l7, l8, l9, l10] (.ref i :: S) (H) Q) : W0 rm 216 [l0, l1, l2, l3, l4, .val (.ref i), l6, l7, l8, l9, l10] (S) H Q := W.aload at_216 rfl rfl h
theorem s0_216n {rm : Room} {S : List Value} {H : AHeap} {Q : Option Value → AHeap → Prop} {l0 l1 l2 l3 l4 l6 l7 l8 l9 l10 : Slot}  (h : W0 rm 218 [l0, l1, l2, l3, l4, .val .null, l6, l7, l8, l9, l10] (.null :: S) (H) Q) : W0 rm 216 [l0, l1, l2, l3, l4, .val .null, l6, l7, l8, l9, l10] (S) H Q := W.aload at_216 rfl rfl h
theorem s0_218 {rm : Room} {S : List Value} {H : AHeap} {Q : Option Value → AHeap → Prop} {l0 l1 l2 l3 l4 l5 l6 l7 l8 l9 l10 : Slot} {rm' : Room} {H' : AHeap} {i : Nat} {vs : List Value}   (hH : H[i]? = some (.inl (0, vs))) (hM : M6 rm' [.ref i] H (Is none H')) (hr : rok rm rm' 1 S = true) (h : W0 (less rm rm') 221 [l0, l1, l2, l3, l4, l5, l6, l7, l8, l9, l10] (S) H' Q) : W0 rm 218 [l0, l1, l2, l3, l4, l5, l6, l7, l8, l9, l10] (.ref i :: S) H Q := W.callV (c := 0) (S := S) (as := []) (rm' := rm') at_218 (List.mem_of_getElem? (i := 34) rfl) (List.mem_of_getElem? (i := 35) rfl) (List.mem_of_getElem? (i := 37) rfl) (Or.inl rfl) kt (List.mem_of_getElem? (i := 36) rfl) (List.mem_of_getElem? (i := 2) rfl) (List.mem_of_getElem? (i := 38) rfl) (by decide) rfl pd1 rfl rfl hH hM hr (fun _ _ q => by obtain ⟨rfl, rfl⟩ := q; exact h)
theorem s0_218q {rm : Room} {S : List Value} {H : AHeap} {Q : Option Value → AHeap → Prop} {l0 l1 l2 l3 l4 l5 l6 l7 l8 l9 l10 : Slot} {rm' : Room} {Q' : Option Value → AHeap → Prop} {i : Nat} {vs : List Value}  (hH : H[i]? = some (.inl (0, vs))) (hM : M6 rm' [.ref i] H Q') (hr : rok rm rm' 1 S = true) (h : ∀ v H', Q' v H' → W0 (less rm rm') 221 [l0, l1, l2, l3, l4, l5, l6, l7, l8, l9, l10] (v.toList ++ S) H' Q) : W0 rm 218 [l0, l1, l2, l3, l4, l5, l6, l7, l8, l9, l10] (.ref i :: S) H Q := W.callV (c := 0) (S := S) (as := []) (rm' := rm') at_218 (List.mem_of_getElem? (i := 34) rfl) (List.mem_of_getElem? (i := 35) rfl) (List.mem_of_getElem? (i := 37) rfl) (Or.inl rfl) kt (List.mem_of_getElem? (i := 36) rfl) (List.mem_of_getElem? (i := 2) rfl) (List.mem_of_getElem? (i := 38) rfl) (by decide) rfl pd1 rfl rfl hH hM hr h
theorem s0_221 {rm : Room} {S : List Value} {H : AHeap} {Q : Option Value → AHeap → Prop} {l0 l1 l2 l3 l4 l5 l7 l8 l9 l10 : Slot} {x : Int32} (h : W0 rm 223 [l0, l1, l2, l3, l4, l5, .val (.int x), l7, l8, l9, l10] (.int x :: S) (H) Q) : W0 rm 221 [l0, l1, l2, l3, l4, l5, .val (.int x), l7, l8, l9, l10] (S) H Q := W.iload at_221 rfl h
theorem s0_223 {rm : Room} {S : List Value} {H : AHeap} {Q : Option Value → AHeap → Prop} {l0 l1 l2 l3 l4 l5 l6 l7 l8 l9 l10 : Slot} {x : Int32} (h1 : x = 0 → W0 rm 238 [l0, l1, l2, l3, l4, l5, l6, l7, l8, l9, l10] S H Q) (h2 : ¬ x = 0 → W0 rm 226 [l0, l1, l2, l3, l4, l5, l6, l7, l8, l9, l10] S H Q) : W0 rm 223 [l0, l1, l2, l3, l4, l5, l6, l7, l8, l9, l10] (.int x :: S) H Q := W.ifc at_223 (by decide) (by decide) h1 h2
theorem s0_226 {rm : Room} {S : List Value} {H : AHeap} {Q : Option Value → AHeap → Prop} {l0 l1 l2 l3 l4 l6 l7 l8 l9 l10 : Slot} {i : Nat} (h : W0 rm 228 [l0, l1, l2, l3, l4, .val (.ref i), l6, l7, l8, l9, l10] (.ref i :: S) (H) Q) : W0 rm 226 [l0, l1, l2, l3, l4, .val (.ref i), l6, l7, l8, l9, l10] (S) H Q := W.aload at_226 rfl rfl h
theorem s0_226n {rm : Room} {S : List Value} {H : AHeap} {Q : Option Value → AHeap → Prop} {l0 l1 l2 l3 l4 l6 l7 l8 l9 l10 : Slot}  (h : W0 rm 228 [l0, l1, l2, l3, l4, .val .null, l6, l7, l8, l9, l10] (.null :: S) (H) Q) : W0 rm 226 [l0, l1, l2, l3, l4, .val .null, l6, l7, l8, l9, l10] (S) H Q := W.aload at_226 rfl rfl h
theorem s0_228 {rm : Room} {S : List Value} {H : AHeap} {Q : Option Value → AHeap → Prop} {l0 l1 l2 l3 l4 l5 l6 l7 l8 l9 l10 : Slot} {rm' : Room} {H' : AHeap} {i : Nat} {vs : List Value}  {r : Int32} (hH : H[i]? = some (.inl (0, vs))) (hM : M2 rm' [.ref i] H (Is (some (.int r)) H')) (hr : rok rm rm' 1 S = true) (h : W0 (less rm rm') 231 [l0, l1, l2, l3, l4, l5, l6, l7, l8, l9, l10] (.int r :: S) H' Q) : W0 rm 228 [l0, l1, l2, l3, l4, l5, l6, l7, l8, l9, l10] (.ref i :: S) H Q := W.callV (c := 0) (S := S) (as := []) (rm' := rm') at_228 (List.mem_of_getElem? (i := 12) rfl) (List.mem_of_getElem? (i := 13) rfl) (List.mem_of_getElem? (i := 15) rfl) (Or.inl rfl) kt (List.mem_of_getElem? (i := 14) rfl) (List.mem_of_getElem? (i := 2) rfl) (List.mem_of_getElem? (i := 16) rfl) (by decide) rfl pd2 rfl rfl hH hM hr (fun _ _ q => by obtain ⟨rfl, rfl⟩ := q; exact h)
theorem s0_228q {rm : Room} {S : List Value} {H : AHeap} {Q : Option Value → AHeap → Prop} {l0 l1 l2 l3 l4 l5 l6 l7 l8 l9 l10 : Slot} {rm' : Room} {Q' : Option Value → AHeap → Prop} {i : Nat} {vs : List Value}  (hH : H[i]? = some (.inl (0, vs))) (hM : M2 rm' [.ref i] H Q') (hr : rok rm rm' 1 S = true) (h : ∀ v H', Q' v H' → W0 (less rm rm') 231 [l0, l1, l2, l3, l4, l5, l6, l7, l8, l9, l10] (v.toList ++ S) H' Q) : W0 rm 228 [l0, l1, l2, l3, l4, l5, l6, l7, l8, l9, l10] (.ref i :: S) H Q := W.callV (c := 0) (S := S) (as := []) (rm' := rm') at_228 (List.mem_of_getElem? (i := 12) rfl) (List.mem_of_getElem? (i := 13) rfl) (List.mem_of_getElem? (i := 15) rfl) (Or.inl rfl) kt (List.mem_of_getElem? (i := 14) rfl) (List.mem_of_getElem? (i := 2) rfl) (List.mem_of_getElem? (i := 16) rfl) (by decide) rfl pd2 rfl rfl hH hM hr h
theorem s0_231 {rm : Room} {S : List Value} {H : AHeap} {Q : Option Value → AHeap → Prop} {l0 l1 l2 l3 l4 l5 l6 l7 l8 l9 l10 : Slot} {x : Int32} (h1 : x = 0 → W0 rm 238 [l0, l1, l2, l3, l4, l5, l6, l7, l8, l9, l10] S H Q) (h2 : ¬ x = 0 → W0 rm 234 [l0, l1, l2, l3, l4, l5, l6, l7, l8, l9, l10] S H Q) : W0 rm 231 [l0, l1, l2, l3, l4, l5, l6, l7, l8, l9, l10] (.int x :: S) H Q := W.ifc at_231 (by decide) (by decide) h1 h2
theorem s0_234 {rm : Room} {S : List Value} {H : AHeap} {Q : Option Value → AHeap → Prop} {l0 l1 l2 l3 l4 l5 l6 l7 l8 l9 l10 : Slot}  (h : W0 rm 235 [l0, l1, l2, l3, l4, l5, l6, l7, l8, l9, l10] (.int 1 :: S) (H) Q) : W0 rm 234 [l0, l1, l2, l3, l4, l5, l6, l7, l8, l9, l10] (S) H Q := W.iconst' at_234 (by decide) h
theorem s0_235 {rm : Room} {S : List Value} {H : AHeap} {Q : Option Value → AHeap → Prop} {l0 l1 l2 l3 l4 l5 l6 l7 l8 l9 l10 : Slot}  (h : W0 rm 239 [l0, l1, l2, l3, l4, l5, l6, l7, l8, l9, l10] (S) (H) Q) : W0 rm 235 [l0, l1, l2, l3, l4, l5, l6, l7, l8, l9, l10] (S) H Q := W.goto at_235 (by decide) (by decide) h
theorem s0_238 {rm : Room} {S : List Value} {H : AHeap} {Q : Option Value → AHeap → Prop} {l0 l1 l2 l3 l4 l5 l6 l7 l8 l9 l10 : Slot}  (h : W0 rm 239 [l0, l1, l2, l3, l4, l5, l6, l7, l8, l9, l10] (.int 0 :: S) (H) Q) : W0 rm 238 [l0, l1, l2, l3, l4, l5, l6, l7, l8, l9, l10] (S) H Q := W.iconst' at_238 (by decide) h
theorem s0_239 {rm : Room} {S : List Value} {H : AHeap} {Q : Option Value → AHeap → Prop} {l0 l1 l2 l3 l4 l5 l6 l7 l8 l9 l10 : Slot} {x : Int32} (ho : one l6 = true) (h : W0 rm 241 [l0, l1, l2, l3, l4, l5, .val (.int x), l7, l8, l9, l10] (S) (H) Q) : W0 rm 239 [l0, l1, l2, l3, l4, l5, l6, l7, l8, l9, l10] (.int x :: S) H Q := W.istore at_239 rfl ho h
theorem s0_239w {rm : Room} {S : List Value} {H : AHeap} {Q : Option Value → AHeap → Prop} {l0 l1 l2 l3 l4 l5 l7 l8 l9 l10 : Slot} {w : Value} {x : Int32} (ho : w.category = 2) (h : W0 rm 241 [l0, l1, l2, l3, l4, l5, .val (.int x), .unset, l8, l9, l10] (S) (H) Q) : W0 rm 239 [l0, l1, l2, l3, l4, l5, .val w, l7, l8, l9, l10] (.int x :: S) H Q := W.istoreW at_239 rfl ho (Nat.le_of_ble_eq_true rfl) h
theorem s0_239s {rm : Room} {S : List Value} {H : AHeap} {Q : Option Value → AHeap → Prop} {l0 l1 l2 l3 l4 l5 l7 l8 l9 l10 : Slot} {x : Int32} (h : W0 rm 241 [l0, l1, l2, l3, l4, .unset, .val (.int x), l7, l8, l9, l10] (S) (H) Q) : W0 rm 239 [l0, l1, l2, l3, l4, l5, .second, l7, l8, l9, l10] (.int x :: S) H Q := W.istoreS at_239 rfl (by decide) h
theorem s0_241 {rm : Room} {S : List Value} {H : AHeap} {Q : Option Value → AHeap → Prop} {l0 l1 l2 l3 l4 l5 l7 l8 l9 l10 : Slot} {x : Int32} (h : W0 rm 243 [l0, l1, l2, l3, l4, l5, .val (.int x), l7, l8, l9, l10] (.int x :: S) (H) Q) : W0 rm 241 [l0, l1, l2, l3, l4, l5, .val (.int x), l7, l8, l9, l10] (S) H Q := W.iload at_241 rfl h
theorem s0_243 {rm : Room} {S : List Value} {H : AHeap} {Q : Option Value → AHeap → Prop} {l0 l1 l2 l3 l4 l5 l6 l7 l8 l9 l10 : Slot} {x : Int32} (hQ : Q (some (.int (x &&& 1))) H) : W0 rm 243 [l0, l1, l2, l3, l4, l5, l6, l7, l8, l9, l10] (.int x :: S) H Q := W.ireturnZ at_243 rfl hQ
theorem e1 {rm : Room} {H : AHeap} {Q : Option Value → AHeap → Prop} {a0 : Nat} (h : W1 rm 0 [.val (.ref a0)] [] H Q) : M1 rm [.ref a0] H Q := M.of pf1 rfl rfl h
theorem e1L {rm : Room} {H : AHeap} {Q : Option Value → AHeap → Prop} {L : List Slot} {as : List Value} (h : W1 rm 0 L [] H Q) (hl : ent as ++ List.replicate (1 - (ent as).length) .unset = L := by rfl) (hn : L.length = 1 := by rfl) : M1 rm as H Q := M.of pf1 hl hn h
theorem d1_0 : decode prog_35_method_1_code 0 = .ok (.aload_n 0, 1) := by decide +kernel
theorem s1_0 {rm : Room} {S : List Value} {H : AHeap} {Q : Option Value → AHeap → Prop} {i : Nat} (h : W1 rm 1 [.val (.ref i)] (.ref i :: S) (H) Q) : W1 rm 0 [.val (.ref i)] (S) H Q := W.aload_n d1_0 rfl rfl h
theorem s1_0n {rm : Room} {S : List Value} {H : AHeap} {Q : Option Value → AHeap → Prop}  (h : W1 rm 1 [.val .null] (.null :: S) (H) Q) : W1 rm 0 [.val .null] (S) H Q := W.aload_n d1_0 rfl rfl h
theorem d1_1 : decode prog_35_method_1_code 1 = .ok (.invokespecial 1, 3) := by decide +kernel
theorem s1_1 {rm : Room} {S : List Value} {H : AHeap} {Q : Option Value → AHeap → Prop} {l0 : Slot} {i : Nat} (hr : iok rm S = true) (h : W1 rm 4 [l0] (S) (H) Q) : W1 rm 1 [l0] (.ref i :: S) H Q := W.initO d1_1 (List.mem_of_getElem? (i := 6) rfl) (List.mem_of_getElem? (i := 7) rfl) (List.mem_of_getElem? (i := 8) rfl) hr h
theorem d1_4 : decode prog_35_method_1_code 4 = .ok (.aload_n 0, 1) := by decide +kernel
theorem s1_4 {rm : Room} {S : List Value} {H : AHeap} {Q : Option Value → AHeap → Prop} {i : Nat} (h : W1 rm 5 [.val (.ref i)] (.ref i :: S) (H) Q) : W1 rm 4 [.val (.ref i)] (S) H Q := W.aload_n d1_4 rfl rfl h
theorem s1_4n {rm : Room} {S : List Value} {H : AHeap} {Q : Option Value → AHeap → Prop}  (h : W1 rm 5 [.val .null] (.null :: S) (H) Q) : W1 rm 4 [.val .null] (S) H Q := W.aload_n d1_4 rfl rfl h
theorem d1_5 : decode prog_35_method_1_code 5 = .ok (.bipush 16, 2) := by decide +kernel
theorem s1_5 {rm : Room} {S : List Value} {H : AHeap} {Q : Option Value → AHeap → Prop} {l0 : Slot}  (h : W1 rm 7 [l0] (.int 16 :: S) (H) Q) : W1 rm 5 [l0] (S) H Q := W.bipush' d1_5 (by decide) h
theorem d1_7 : decode prog_35_method_1_code 7 = .ok (.newarray .long, 2) := by decide +kernel
theorem s1_7 {rm : Room} {S : List Value} {H : AHeap} {Q : Option Value → AHeap → Prop} {l0 : Slot} {n : Int32} (i N : Nat) (hn : ix n N) (hi : H.length = i) (hr : nok rm N = true) (h : W1 ⟨rm.frames, rm.cells - 1, rm.slots - N, rm.locals⟩ 9 [l0] (.ref i :: S) (H ++ [.inr (.long, List.replicate N (.long 0))]) Q) : W1 rm 7 [l0] (.int n :: S) H Q := W.newarray (ty := .long) (d := .long 0) d1_7 rfl (List.mem_of_getElem? (i := 9) rfl) rfl hn hi hr h
theorem d1_9 : decode prog_35_method_1_code 9 = .ok (.putfield 7, 3) := by decide +kernel
theorem s1_9 {rm : Room} {S : List Value} {H : AHeap} {Q : Option Value → AHeap → Prop} {l0 : Slot} {i : Nat} {f0 f1 : Value} {x : Nat} (hH : H[i]? = some (.inl (0, [f0, f1]))) (h : W1 rm 12 [l0] (S) (H.set i (.inl (0, [.ref x, f1]))) Q) : W1 rm 9 [l0] (.ref x :: .ref i :: S) H Q := W.putF (c := 0) (j := 0) kt d1_9 (host := "") (Or.inl (List.mem_of_getElem? (i := 10) rfl)) (Or.inl rfl) rfl rfl (Or.inl (List.mem_of_getElem? (i := 11) rfl)) rfl rfl hH h
theorem d1_12 : decode prog_35_method_1_code 12 = .ok (.return_, 1) := by decide +kernel
theorem s1_12 {rm : Room} {H : AHeap} {Q : Option Value → AHeap → Prop} {l0 : Slot} (hQ : Q none H) : W1 rm 12 [l0] [] H Q := W.ret_ d1_12 rfl hQ
theorem e2 {rm : Room} {H : AHeap} {Q : Option Value → AHeap → Prop} {a0 : Nat} (h : W2 rm 0 [.val (.ref a0)] [] H Q) : M2 rm [.ref a0] H Q := M.of pf2 rfl rfl h
theorem e2L {rm : Room} {H : AHeap} {Q : Option Value → AHeap → Prop} {L : List Slot} {as : List Value} (h : W2 rm 0 L [] H Q) (hl : ent as ++ List.replicate (1 - (ent as).length) .unset = L := by rfl) (hn : L.length = 1 := by rfl) : M2 rm as H Q := M.of pf2 hl hn h
theorem d2_0 : decode prog_35_method_3_code 0 = .ok (.aload_n 0, 1) := by decide +kernel
theorem s2_0 {rm : Room} {S : List Value} {H : AHeap} {Q : Option Value → AHeap → Prop} {i : Nat} (h : W2 rm 1 [.val (.ref i)] (.ref i :: S) (H) Q) : W2 rm 0 [.val (.ref i)] (S) H Q := W.aload_n d2_0 rfl rfl h
theorem s2_0n {rm : Room} {S : List Value} {H : AHeap} {Q : Option Value → AHeap → Prop}  (h : W2 rm 1 [.val .null] (.null :: S) (H) Q) : W2 rm 0 [.val .null] (S) H Q := W.aload_n d2_0 rfl rfl h
theorem d2_1 : decode prog_35_method_3_code 1 = .ok (.getfield 13, 3) := by decide +kernel
theorem s2_1 {rm : Room} {S : List Value} {H : AHeap} {Q : Option Value → AHeap → Prop} {l0 : Slot} {i : Nat} {f0 f1 : Value} (hH : H[i]? = some (.inl (0, [f0, f1]))) (h : W2 rm 4 [l0] (f1 :: S) (H) Q) : W2 rm 1 [l0] (.ref i :: S) H Q := W.getF (c := 0) (j := 1) d2_1 (host := "") (Or.inl (List.mem_of_getElem? (i := 17) rfl)) (Or.inl rfl) rfl rfl hH rfl h
theorem d2_4 : decode prog_35_method_3_code 4 = .ok (.ifCond .ne 7, 3) := by decide +kernel
theorem s2_4 {rm : Room} {S : List Value} {H : AHeap} {Q : Option Value → AHeap → Prop} {l0 : Slot} {x : Int32} (h1 : ¬ x = 0 → W2 rm 11 [l0] S H Q) (h2 : x = 0 → W2 rm 7 [l0] S H Q) : W2 rm 4 [l0] (.int x :: S) H Q := W.ifc d2_4 (by decide) (by decide) h1 h2
theorem d2_7 : decode prog_35_method_3_code 7 = .ok (.iconst 1, 1) := by decide +kernel
theorem s2_7 {rm : Room} {S : List Value} {H : AHeap} {Q : Option Value → AHeap → Prop} {l0 : Slot}  (h : W2 rm 8 [l0] (.int 1 :: S) (H) Q) : W2 rm 7 [l0] (S) H Q := W.iconst' d2_7 (by decide) h
theorem d2_8 : decode prog_35_method_3_code 8 = .ok (.goto 4, 3) := by decide +kernel
theorem s2_8 {rm : Room} {S : List Value} {H : AHeap} {Q : Option Value → AHeap → Prop} {l0 : Slot}  (h : W2 rm 12 [l0] (S) (H) Q) : W2 rm 8 [l0] (S) H Q := W.goto d2_8 (by decide) (by decide) h
theorem d2_11 : decode prog_35_method_3_code 11 = .ok (.iconst 0, 1) := by decide +kernel
theorem s2_11 {rm : Room} {S : List Value} {H : AHeap} {Q : Option Value → AHeap → Prop} {l0 : Slot}  (h : W2 rm 12 [l0] (.int 0 :: S) (H) Q) : W2 rm 11 [l0] (S) H Q := W.iconst' d2_11 (by decide) h
theorem d2_12 : decode prog_35_method_3_code 12 = .ok (.ireturn, 1) := by decide +kernel
theorem s2_12 {rm : Room} {S : List Value} {H : AHeap} {Q : Option Value → AHeap → Prop} {l0 : Slot} {x : Int32} (hQ : Q (some (.int (x &&& 1))) H) : W2 rm 12 [l0] (.int x :: S) H Q := W.ireturnZ d2_12 rfl hQ
theorem e3 {rm : Room} {H : AHeap} {Q : Option Value → AHeap → Prop} {a0 : Int32} {a1 : Int32} (h : W3 rm 0 [.val (.int a0), .val (.int a1)] [] H Q) : M3 rm [.int a0, .int a1] H Q := M.of pf3 rfl rfl h
theorem e3L {rm : Room} {H : AHeap} {Q : Option Value → AHeap → Prop} {L : List Slot} {as : List Value} (h : W3 rm 0 L [] H Q) (hl : ent as ++ List.replicate (2 - (ent as).length) .unset = L := by rfl) (hn : L.length = 2 := by rfl) : M3 rm as H Q := M.of pf3 hl hn h
theorem d3_0 : decode jdk_29_method_69_code 0 = .ok (.iload_n 0, 1) := by decide +kernel
theorem s3_0 {rm : Room} {S : List Value} {H : AHeap} {Q : Option Value → AHeap → Prop} {l1 : Slot} {x : Int32} (h : W3 rm 1 [.val (.int x), l1] (.int x :: S) (H) Q) : W3 rm 0 [.val (.int x), l1] (S) H Q := W.iload_n d3_0 rfl h
theorem d3_1 : decode jdk_29_method_69_code 1 = .ok (.iload_n 1, 1) := by decide +kernel
theorem s3_1 {rm : Room} {S : List Value} {H : AHeap} {Q : Option Value → AHeap → Prop} {l0 : Slot} {x : Int32} (h : W3 rm 2 [l0, .val (.int x)] (.int x :: S) (H) Q) : W3 rm 1 [l0, .val (.int x)] (S) H Q := W.iload_n d3_1 rfl h
theorem d3_2 : decode jdk_29_method_69_code 2 = .ok (.if_icmp .gt 7, 3) := by decide +kernel
theorem s3_2 {rm : Room} {S : List Value} {H : AHeap} {Q : Option Value → AHeap → Prop} {l0 l1 : Slot} {x y : Int32} (h1 : y < x → W3 rm 9 [l0, l1] S H Q) (h2 : ¬ y < x → W3 rm 5 [l0, l1] S H Q) : W3 rm 2 [l0, l1] (.int y :: .int x :: S) H Q := W.icmp d3_2 (by decide) (by decide) h1 h2
theorem d3_5 : decode jdk_29_method_69_code 5 = .ok (.iload_n 0, 1) := by decide +kernel
theorem s3_5 {rm : Room} {S : List Value} {H : AHeap} {Q : Option Value → AHeap → Prop} {l1 : Slot} {x : Int32} (h : W3 rm 6 [.val (.int x), l1] (.int x :: S) (H) Q) : W3 rm 5 [.val (.int x), l1] (S) H Q := W.iload_n d3_5 rfl h
theorem d3_6 : decode jdk_29_method_69_code 6 = .ok (.goto 4, 3) := by decide +kernel
theorem s3_6 {rm : Room} {S : List Value} {H : AHeap} {Q : Option Value → AHeap → Prop} {l0 l1 : Slot}  (h : W3 rm 10 [l0, l1] (S) (H) Q) : W3 rm 6 [l0, l1] (S) H Q := W.goto d3_6 (by decide) (by decide) h
theorem d3_9 : decode jdk_29_method_69_code 9 = .ok (.iload_n 1, 1) := by decide +kernel
theorem s3_9 {rm : Room} {S : List Value} {H : AHeap} {Q : Option Value → AHeap → Prop} {l0 : Slot} {x : Int32} (h : W3 rm 10 [l0, .val (.int x)] (.int x :: S) (H) Q) : W3 rm 9 [l0, .val (.int x)] (S) H Q := W.iload_n d3_9 rfl h
theorem d3_10 : decode jdk_29_method_69_code 10 = .ok (.ireturn, 1) := by decide +kernel
theorem s3_10 {rm : Room} {S : List Value} {H : AHeap} {Q : Option Value → AHeap → Prop} {l0 l1 : Slot} {x : Int32} (hQ : Q (some (.int x)) H) : W3 rm 10 [l0, l1] (.int x :: S) H Q := W.ireturn d3_10 rfl hQ
theorem e4 {rm : Room} {H : AHeap} {Q : Option Value → AHeap → Prop} {a0 : Nat} {a1 : Int32} {a2 : Int32} (h : W4 rm 0 [.val (.ref a0), .val (.int a1), .val (.int a2), .unset, .unset, .unset] [] H Q) : M4 rm [.ref a0, .int a1, .int a2] H Q := M.of pf4 rfl rfl h
theorem e4L {rm : Room} {H : AHeap} {Q : Option Value → AHeap → Prop} {L : List Slot} {as : List Value} (h : W4 rm 0 L [] H Q) (hl : ent as ++ List.replicate (6 - (ent as).length) .unset = L := by rfl) (hn : L.length = 6 := by rfl) : M4 rm as H Q := M.of pf4 hl hn h
theorem d4_0 : decode prog_35_method_2_code 0 = .ok (.aload_n 0, 1) := by decide +kernel
theorem s4_0 {rm : Room} {S : List Value} {H : AHeap} {Q : Option Value → AHeap → Prop} {l1 l2 l3 l4 l5 : Slot} {i : Nat} (h : W4 rm 1 [.val (.ref i), l1, l2, l3, l4, l5] (.ref i :: S) (H) Q) : W4 rm 0 [.val (.ref i), l1, l2, l3, l4, l5] (S) H Q := W.aload_n d4_0 rfl rfl h
theorem s4_0n {rm : Room} {S : List Value} {H : AHeap} {Q : Option Value → AHeap → Prop} {l1 l2 l3 l4 l5 : Slot}  (h : W4 rm 1 [.val .null, l1, l2, l3, l4, l5] (.null :: S) (H) Q) : W4 rm 0 [.val .null, l1, l2, l3, l4, l5] (S) H Q := W.aload_n d4_0 rfl rfl h
theorem d4_1 : decode prog_35_method_2_code 1 = .ok (.getfield 13, 3) := by decide +kernel
theorem s4_1 {rm : Room} {S : List Value} {H : AHeap} {Q : Option Value → AHeap → Prop} {l0 l1 l2 l3 l4 l5 : Slot} {i : Nat} {f0 f1 : Value} (hH : H[i]? = some (.inl (0, [f0, f1]))) (h : W4 rm 4 [l0, l1, l2, l3, l4, l5] (f1 :: S) (H) Q) : W4 rm 1 [l0, l1, l2, l3, l4, l5] (.ref i :: S) H Q := W.getF (c := 0) (j := 1) d4_1 (host := "") (Or.inl (List.mem_of_getElem? (i := 17) rfl)) (Or.inl rfl) rfl rfl hH rfl h
theorem d4_4 : decode prog_35_method_2_code 4 = .ok (.aload_n 0, 1) := by decide +kernel
theorem s4_4 {rm : Room} {S : List Value} {H : AHeap} {Q : Option Value → AHeap → Prop} {l1 l2 l3 l4 l5 : Slot} {i : Nat} (h : W4 rm 5 [.val (.ref i), l1, l2, l3, l4, l5] (.ref i :: S) (H) Q) : W4 rm 4 [.val (.ref i), l1, l2, l3, l4, l5] (S) H Q := W.aload_n d4_4 rfl rfl h
theorem s4_4n {rm : Room} {S : List Value} {H : AHeap} {Q : Option Value → AHeap → Prop} {l1 l2 l3 l4 l5 : Slot}  (h : W4 rm 5 [.val .null, l1, l2, l3, l4, l5] (.null :: S) (H) Q) : W4 rm 4 [.val .null, l1, l2, l3, l4, l5] (S) H Q := W.aload_n d4_4 rfl rfl h
theorem d4_5 : decode prog_35_method_2_code 5 = .ok (.getfield 7, 3) := by decide +kernel
theorem s4_5 {rm : Room} {S : List Value} {H : AHeap} {Q : Option Value → AHeap → Prop} {l0 l1 l2 l3 l4 l5 : Slot} {i : Nat} {f0 f1 : Value} (hH : H[i]? = some (.inl (0, [f0, f1]))) (h : W4 rm 8 [l0, l1, l2, l3, l4, l5] (f0 :: S) (H) Q) : W4 rm 5 [l0, l1, l2, l3, l4, l5] (.ref i :: S) H Q := W.getF (c := 0) (j := 0) d4_5 (host := "") (Or.inl (List.mem_of_getElem? (i := 10) rfl)) (Or.inl rfl) rfl rfl hH rfl h
theorem d4_8 : decode prog_35_method_2_code 8 = .ok (.arraylength, 1) := by decide +kernel
theorem s4_8 {rm : Room} {S : List Value} {H : AHeap} {Q : Option Value → AHeap → Prop} {l0 l1 l2 l3 l4 l5 : Slot} {i : Nat} {ty : FieldType} {vs : List Value} (hH : H[i]? = some (.inr (ty, vs))) (h : W4 rm 9 [l0, l1, l2, l3, l4, l5] (.int (Int32.ofNat vs.length) :: S) (H) Q) : W4 rm 8 [l0, l1, l2, l3, l4, l5] (.ref i :: S) H Q := W.arraylength d4_8 hH h
theorem s4_8k {rm : Room} {S : List Value} {H : AHeap} {Q : Option Value → AHeap → Prop} {l0 l1 l2 l3 l4 l5 : Slot} {i : Nat} {ty : FieldType} {vs : List Value} (n : Int32) (hH : H[i]? = some (.inr (ty, vs))) (hn : Int32.ofNat vs.length = n) (h : W4 rm 9 [l0, l1, l2, l3, l4, l5] (.int n :: S) (H) Q) : W4 rm 8 [l0, l1, l2, l3, l4, l5] (.ref i :: S) H Q := W.arraylength d4_8 hH (by rw [hn]; exact h)
theorem d4_9 : decode prog_35_method_2_code 9 = .ok (.if_icmp .ne 20, 3) := by decide +kernel
theorem s4_9 {rm : Room} {S : List Value} {H : AHeap} {Q : Option Value → AHeap → Prop} {l0 l1 l2 l3 l4 l5 : Slot} {x y : Int32} (h1 : ¬ x = y → W4 rm 29 [l0, l1, l2, l3, l4, l5] S H Q) (h2 : x = y → W4 rm 12 [l0, l1, l2, l3, l4, l5] S H Q) : W4 rm 9 [l0, l1, l2, l3, l4, l5] (.int y :: .int x :: S) H Q := W.icmp d4_9 (by decide) (by decide) h1 h2
theorem d4_12 : decode prog_35_method_2_code 12 = .ok (.aload_n 0, 1) := by decide +kernel
theorem s4_12 {rm : Room} {S : List Value} {H : AHeap} {Q : Option Value → AHeap → Prop} {l1 l2 l3 l4 l5 : Slot} {i : Nat} (h : W4 rm 13 [.val (.ref i), l1, l2, l3, l4, l5] (.ref i :: S) (H) Q) : W4 rm 12 [.val (.ref i), l1, l2, l3, l4, l5] (S) H Q := W.aload_n d4_12 rfl rfl h
theorem s4_12n {rm : Room} {S : List Value} {H : AHeap} {Q : Option Value → AHeap → Prop} {l1 l2 l3 l4 l5 : Slot}  (h : W4 rm 13 [.val .null, l1, l2, l3, l4, l5] (.null :: S) (H) Q) : W4 rm 12 [.val .null, l1, l2, l3, l4, l5] (S) H Q := W.aload_n d4_12 rfl rfl h
theorem d4_13 : decode prog_35_method_2_code 13 = .ok (.aload_n 0, 1) := by decide +kernel
theorem s4_13 {rm : Room} {S : List Value} {H : AHeap} {Q : Option Value → AHeap → Prop} {l1 l2 l3 l4 l5 : Slot} {i : Nat} (h : W4 rm 14 [.val (.ref i), l1, l2, l3, l4, l5] (.ref i :: S) (H) Q) : W4 rm 13 [.val (.ref i), l1, l2, l3, l4, l5] (S) H Q := W.aload_n d4_13 rfl rfl h
theorem s4_13n {rm : Room} {S : List Value} {H : AHeap} {Q : Option Value → AHeap → Prop} {l1 l2 l3 l4 l5 : Slot}  (h : W4 rm 14 [.val .null, l1, l2, l3, l4, l5] (.null :: S) (H) Q) : W4 rm 13 [.val .null, l1, l2, l3, l4, l5] (S) H Q := W.aload_n d4_13 rfl rfl h
theorem d4_14 : decode prog_35_method_2_code 14 = .ok (.getfield 7, 3) := by decide +kernel
theorem s4_14 {rm : Room} {S : List Value} {H : AHeap} {Q : Option Value → AHeap → Prop} {l0 l1 l2 l3 l4 l5 : Slot} {i : Nat} {f0 f1 : Value} (hH : H[i]? = some (.inl (0, [f0, f1]))) (h : W4 rm 17 [l0, l1, l2, l3, l4, l5] (f0 :: S) (H) Q) : W4 rm 14 [l0, l1, l2, l3, l4, l5] (.ref i :: S) H Q := W.getF (c := 0) (j := 0) d4_14 (host := "") (Or.inl (List.mem_of_getElem? (i := 10) rfl)) (Or.inl rfl) rfl rfl hH rfl h
theorem d4_17 : decode prog_35_method_2_code 17 = .ok (.aload_n 0, 1) := by decide +kernel
theorem s4_17 {rm : Room} {S : List Value} {H : AHeap} {Q : Option Value → AHeap → Prop} {l1 l2 l3 l4 l5 : Slot} {i : Nat} (h : W4 rm 18 [.val (.ref i), l1, l2, l3, l4, l5] (.ref i :: S) (H) Q) : W4 rm 17 [.val (.ref i), l1, l2, l3, l4, l5] (S) H Q := W.aload_n d4_17 rfl rfl h
theorem s4_17n {rm : Room} {S : List Value} {H : AHeap} {Q : Option Value → AHeap → Prop} {l1 l2 l3 l4 l5 : Slot}  (h : W4 rm 18 [.val .null, l1, l2, l3, l4, l5] (.null :: S) (H) Q) : W4 rm 17 [.val .null, l1, l2, l3, l4, l5] (S) H Q := W.aload_n d4_17 rfl rfl h
theorem d4_18 : decode prog_35_method_2_code 18 = .ok (.getfield 13, 3) := by decide +kernel
theorem s4_18 {rm : Room} {S : List Value} {H : AHeap} {Q : Option Value → AHeap → Prop} {l0 l1 l2 l3 l4 l5 : Slot} {i : Nat} {f0 f1 : Value} (hH : H[i]? = some (.inl (0, [f0, f1]))) (h : W4 rm 21 [l0, l1, l2, l3, l4, l5] (f1 :: S) (H) Q) : W4 rm 18 [l0, l1, l2, l3, l4, l5] (.ref i :: S) H Q := W.getF (c := 0) (j := 1) d4_18 (host := "") (Or.inl (List.mem_of_getElem? (i := 17) rfl)) (Or.inl rfl) rfl rfl hH rfl h
theorem d4_21 : decode prog_35_method_2_code 21 = .ok (.iconst 2, 1) := by decide +kernel
theorem s4_21 {rm : Room} {S : List Value} {H : AHeap} {Q : Option Value → AHeap → Prop} {l0 l1 l2 l3 l4 l5 : Slot}  (h : W4 rm 22 [l0, l1, l2, l3, l4, l5] (.int 2 :: S) (H) Q) : W4 rm 21 [l0, l1, l2, l3, l4, l5] (S) H Q := W.iconst' d4_21 (by decide) h
theorem d4_22 : decode prog_35_method_2_code 22 = .ok (.imul, 1) := by decide +kernel
theorem s4_22 {rm : Room} {S : List Value} {H : AHeap} {Q : Option Value → AHeap → Prop} {l0 l1 l2 l3 l4 l5 : Slot} {x y : Int32} (h : W4 rm 23 [l0, l1, l2, l3, l4, l5] (.int (x * y) :: S) (H) Q) : W4 rm 22 [l0, l1, l2, l3, l4, l5] (.int y :: .int x :: S) H Q := W.imul d4_22 h
theorem d4_23 : decode prog_35_method_2_code 23 = .ok (.invokestatic 17, 3) := by decide +kernel
theorem d4_26 : decode prog_35_method_2_code 26 = .ok (.putfield 7, 3) := by decide +kernel
theorem s4_26 {rm : Room} {S : List Value} {H : AHeap} {Q : Option Value → AHeap → Prop} {l0 l1 l2 l3 l4 l5 : Slot} {i : Nat} {f0 f1 : Value} {x : Nat} (hH : H[i]? = some (.inl (0, [f0, f1]))) (h : W4 rm 29 [l0, l1, l2, l3, l4, l5] (S) (H.set i (.inl (0, [.ref x, f1]))) Q) : W4 rm 26 [l0, l1, l2, l3, l4, l5] (.ref x :: .ref i :: S) H Q := W.putF (c := 0) (j := 0) kt d4_26 (host := "") (Or.inl (List.mem_of_getElem? (i := 10) rfl)) (Or.inl rfl) rfl rfl (Or.inl (List.mem_of_getElem? (i := 11) rfl)) rfl rfl hH h
theorem d4_29 : decode prog_35_method_2_code 29 = .ok (.iload_n 1, 1) := by decide +kernel
theorem s4_29 {rm : Room} {S : List Value} {H : AHeap} {Q : Option Value → AHeap → Prop} {l0 l2 l3 l4 l5 : Slot} {x : Int32} (h : W4 rm 30 [l0, .val (.int x), l2, l3, l4, l5] (.int x :: S) (H) Q) : W4 rm 29 [l0, .val (.int x), l2, l3, l4, l5] (S) H Q := W.iload_n d4_29 rfl h
theorem d4_30 : decode prog_35_method_2_code 30 = .ok (.i2l, 1) := by decide +kernel
theorem s4_30 {rm : Room} {S : List Value} {H : AHeap} {Q : Option Value → AHeap → Prop} {l0 l1 l2 l3 l4 l5 : Slot} {x : Int32} (h : W4 rm 31 [l0, l1, l2, l3, l4, l5] (.long x.toInt64 :: S) (H) Q) : W4 rm 30 [l0, l1, l2, l3, l4, l5] (.int x :: S) H Q := W.i2l d4_30 h
theorem d4_31 : decode prog_35_method_2_code 31 = .ok (.bipush 32, 2) := by decide +kernel
theorem s4_31 {rm : Room} {S : List Value} {H : AHeap} {Q : Option Value → AHeap → Prop} {l0 l1 l2 l3 l4 l5 : Slot}  (h : W4 rm 33 [l0, l1, l2, l3, l4, l5] (.int 32 :: S) (H) Q) : W4 rm 31 [l0, l1, l2, l3, l4, l5] (S) H Q := W.bipush' d4_31 (by decide) h
theorem d4_33 : decode prog_35_method_2_code 33 = .ok (.lshl, 1) := by decide +kernel
theorem s4_33 {rm : Room} {S : List Value} {H : AHeap} {Q : Option Value → AHeap → Prop} {l0 l1 l2 l3 l4 l5 : Slot} {x : Int64} {y : Int32} (h : W4 rm 34 [l0, l1, l2, l3, l4, l5] (.long (x <<< (y.toInt64 &&& 63)) :: S) (H) Q) : W4 rm 33 [l0, l1, l2, l3, l4, l5] (.int y :: .long x :: S) H Q := W.lshl d4_33 h
theorem d4_34 : decode prog_35_method_2_code 34 = .ok (.iload_n 2, 1) := by decide +kernel
theorem s4_34 {rm : Room} {S : List Value} {H : AHeap} {Q : Option Value → AHeap → Prop} {l0 l1 l3 l4 l5 : Slot} {x : Int32} (h : W4 rm 35 [l0, l1, .val (.int x), l3, l4, l5] (.int x :: S) (H) Q) : W4 rm 34 [l0, l1, .val (.int x), l3, l4, l5] (S) H Q := W.iload_n d4_34 rfl h
theorem d4_35 : decode prog_35_method_2_code 35 = .ok (.i2l, 1) := by decide +kernel
theorem s4_35 {rm : Room} {S : List Value} {H : AHeap} {Q : Option Value → AHeap → Prop} {l0 l1 l2 l3 l4 l5 : Slot} {x : Int32} (h : W4 rm 36 [l0, l1, l2, l3, l4, l5] (.long x.toInt64 :: S) (H) Q) : W4 rm 35 [l0, l1, l2, l3, l4, l5] (.int x :: S) H Q := W.i2l d4_35 h
theorem d4_36 : decode prog_35_method_2_code 36 = .ok (.lor, 1) := by decide +kernel
theorem s4_36 {rm : Room} {S : List Value} {H : AHeap} {Q : Option Value → AHeap → Prop} {l0 l1 l2 l3 l4 l5 : Slot} {x y : Int64} (h : W4 rm 37 [l0, l1, l2, l3, l4, l5] (.long (x ||| y) :: S) (H) Q) : W4 rm 36 [l0, l1, l2, l3, l4, l5] (.long y :: .long x :: S) H Q := W.lor d4_36 h
theorem d4_37 : decode prog_35_method_2_code 37 = .ok (.lstore_n 3, 1) := by decide +kernel
theorem s4_37 {rm : Room} {S : List Value} {H : AHeap} {Q : Option Value → AHeap → Prop} {l0 l1 l2 l3 l4 l5 : Slot} {x : Int64} (ho : two l3 l4 = true) (h : W4 rm 38 [l0, l1, l2, .val (.long x), .second, l5] (S) (H) Q) : W4 rm 37 [l0, l1, l2, l3, l4, l5] (.long x :: S) H Q := W.lstore_n d4_37 rfl rfl ho h
theorem d4_38 : decode prog_35_method_2_code 38 = .ok (.aload_n 0, 1) := by decide +kernel
theorem s4_38 {rm : Room} {S : List Value} {H : AHeap} {Q : Option Value → AHeap → Prop} {l1 l2 l3 l4 l5 : Slot} {i : Nat} (h : W4 rm 39 [.val (.ref i), l1, l2, l3, l4, l5] (.ref i :: S) (H) Q) : W4 rm 38 [.val (.ref i), l1, l2, l3, l4, l5] (S) H Q := W.aload_n d4_38 rfl rfl h
theorem s4_38n {rm : Room} {S : List Value} {H : AHeap} {Q : Option Value → AHeap → Prop} {l1 l2 l3 l4 l5 : Slot}  (h : W4 rm 39 [.val .null, l1, l2, l3, l4, l5] (.null :: S) (H) Q) : W4 rm 38 [.val .null, l1, l2, l3, l4, l5] (S) H Q := W.aload_n d4_38 rfl rfl h
theorem d4_39 : decode prog_35_method_2_code 39 = .ok (.dup, 1) := by decide +kernel
theorem s4_39 {rm : Room} {S : List Value} {H : AHeap} {Q : Option Value → AHeap → Prop} {l0 l1 l2 l3 l4 l5 : Slot} {v : Value} (hc : v.category = 1) (h : W4 rm 40 [l0, l1, l2, l3, l4, l5] (v :: v :: S) (H) Q) : W4 rm 39 [l0, l1, l2, l3, l4, l5] (v :: S) H Q := W.dup d4_39 hc h
theorem d4_40 : decode prog_35_method_2_code 40 = .ok (.getfield 13, 3) := by decide +kernel
theorem s4_40 {rm : Room} {S : List Value} {H : AHeap} {Q : Option Value → AHeap → Prop} {l0 l1 l2 l3 l4 l5 : Slot} {i : Nat} {f0 f1 : Value} (hH : H[i]? = some (.inl (0, [f0, f1]))) (h : W4 rm 43 [l0, l1, l2, l3, l4, l5] (f1 :: S) (H) Q) : W4 rm 40 [l0, l1, l2, l3, l4, l5] (.ref i :: S) H Q := W.getF (c := 0) (j := 1) d4_40 (host := "") (Or.inl (List.mem_of_getElem? (i := 17) rfl)) (Or.inl rfl) rfl rfl hH rfl h
theorem d4_43 : decode prog_35_method_2_code 43 = .ok (.dup_x1, 1) := by decide +kernel
theorem s4_43 {rm : Room} {S : List Value} {H : AHeap} {Q : Option Value → AHeap → Prop} {l0 l1 l2 l3 l4 l5 : Slot} {v w : Value} (hc : v.category = 1) (hc' : w.category = 1) (h : W4 rm 44 [l0, l1, l2, l3, l4, l5] (v :: w :: v :: S) (H) Q) : W4 rm 43 [l0, l1, l2, l3, l4, l5] (v :: w :: S) H Q := W.dup_x1 d4_43 hc hc' h
theorem d4_44 : decode prog_35_method_2_code 44 = .ok (.iconst 1, 1) := by decide +kernel
theorem s4_44 {rm : Room} {S : List Value} {H : AHeap} {Q : Option Value → AHeap → Prop} {l0 l1 l2 l3 l4 l5 : Slot}  (h : W4 rm 45 [l0, l1, l2, l3, l4, l5] (.int 1 :: S) (H) Q) : W4 rm 44 [l0, l1, l2, l3, l4, l5] (S) H Q := W.iconst' d4_44 (by decide) h
theorem d4_45 : decode prog_35_method_2_code 45 = .ok (.iadd, 1) := by decide +kernel
theorem s4_45 {rm : Room} {S : List Value} {H : AHeap} {Q : Option Value → AHeap → Prop} {l0 l1 l2 l3 l4 l5 : Slot} {x y : Int32} (h : W4 rm 46 [l0, l1, l2, l3, l4, l5] (.int (x + y) :: S) (H) Q) : W4 rm 45 [l0, l1, l2, l3, l4, l5] (.int y :: .int x :: S) H Q := W.iadd d4_45 h
theorem d4_46 : decode prog_35_method_2_code 46 = .ok (.putfield 13, 3) := by decide +kernel
theorem s4_46 {rm : Room} {S : List Value} {H : AHeap} {Q : Option Value → AHeap → Prop} {l0 l1 l2 l3 l4 l5 : Slot} {i : Nat} {f0 f1 : Value} {x : Int32} (hH : H[i]? = some (.inl (0, [f0, f1]))) (h : W4 rm 49 [l0, l1, l2, l3, l4, l5] (S) (H.set i (.inl (0, [f0, .int x]))) Q) : W4 rm 46 [l0, l1, l2, l3, l4, l5] (.int x :: .ref i :: S) H Q := W.putF (c := 0) (j := 1) kt d4_46 (host := "") (Or.inl (List.mem_of_getElem? (i := 17) rfl)) (Or.inl rfl) rfl rfl (Or.inl (List.mem_of_getElem? (i := 18) rfl)) rfl rfl hH h
theorem d4_49 : decode prog_35_method_2_code 49 = .ok (.istore 5, 2) := by decide +kernel
theorem s4_49 {rm : Room} {S : List Value} {H : AHeap} {Q : Option Value → AHeap → Prop} {l0 l1 l2 l3 l4 l5 : Slot} {x : Int32} (ho : one l5 = true) (h : W4 rm 51 [l0, l1, l2, l3, l4, .val (.int x)] (S) (H) Q) : W4 rm 49 [l0, l1, l2, l3, l4, l5] (.int x :: S) H Q := W.istore d4_49 rfl ho h
theorem s4_49s {rm : Room} {S : List Value} {H : AHeap} {Q : Option Value → AHeap → Prop} {l0 l1 l2 l3 l4 : Slot} {x : Int32} (h : W4 rm 51 [l0, l1, l2, l3, .unset, .val (.int x)] (S) (H) Q) : W4 rm 49 [l0, l1, l2, l3, l4, .second] (.int x :: S) H Q := W.istoreS d4_49 rfl (by decide) h
theorem d4_51 : decode prog_35_method_2_code 51 = .ok (.iload 5, 2) := by decide +kernel
theorem s4_51 {rm : Room} {S : List Value} {H : AHeap} {Q : Option Value → AHeap → Prop} {l0 l1 l2 l3 l4 : Slot} {x : Int32} (h : W4 rm 53 [l0, l1, l2, l3, l4, .val (.int x)] (.int x :: S) (H) Q) : W4 rm 51 [l0, l1, l2, l3, l4, .val (.int x)] (S) H Q := W.iload d4_51 rfl h
theorem d4_53 : decode prog_35_method_2_code 53 = .ok (.ifCond .le 48, 3) := by decide +kernel
theorem s4_53 {rm : Room} {S : List Value} {H : AHeap} {Q : Option Value → AHeap → Prop} {l0 l1 l2 l3 l4 l5 : Slot} {x : Int32} (h1 : ¬ 0 < x → W4 rm 101 [l0, l1, l2, l3, l4, l5] S H Q) (h2 : 0 < x → W4 rm 56 [l0, l1, l2, l3, l4, l5] S H Q) : W4 rm 53 [l0, l1, l2, l3, l4, l5] (.int x :: S) H Q := W.ifc d4_53 (by decide) (by decide) h1 h2
theorem d4_56 : decode prog_35_method_2_code 56 = .ok (.aload_n 0, 1) := by decide +kernel
theorem s4_56 {rm : Room} {S : List Value} {H : AHeap} {Q : Option Value → AHeap → Prop} {l1 l2 l3 l4 l5 : Slot} {i : Nat} (h : W4 rm 57 [.val (.ref i), l1, l2, l3, l4, l5] (.ref i :: S) (H) Q) : W4 rm 56 [.val (.ref i), l1, l2, l3, l4, l5] (S) H Q := W.aload_n d4_56 rfl rfl h
theorem s4_56n {rm : Room} {S : List Value} {H : AHeap} {Q : Option Value → AHeap → Prop} {l1 l2 l3 l4 l5 : Slot}  (h : W4 rm 57 [.val .null, l1, l2, l3, l4, l5] (.null :: S) (H) Q) : W4 rm 56 [.val .null, l1, l2, l3, l4, l5] (S) H Q := W.aload_n d4_56 rfl rfl h
theorem d4_57 : decode prog_35_method_2_code 57 = .ok (.getfield 7, 3) := by decide +kernel
theorem s4_57 {rm : Room} {S : List Value} {H : AHeap} {Q : Option Value → AHeap → Prop} {l0 l1 l2 l3 l4 l5 : Slot} {i : Nat} {f0 f1 : Value} (hH : H[i]? = some (.inl (0, [f0, f1]))) (h : W4 rm 60 [l0, l1, l2, l3, l4, l5] (f0 :: S) (H) Q) : W4 rm 57 [l0, l1, l2, l3, l4, l5] (.ref i :: S) H Q := W.getF (c := 0) (j := 0) d4_57 (host := "") (Or.inl (List.mem_of_getElem? (i := 10) rfl)) (Or.inl rfl) rfl rfl hH rfl h
theorem d4_60 : decode prog_35_method_2_code 60 = .ok (.iload 5, 2) := by decide +kernel
theorem s4_60 {rm : Room} {S : List Value} {H : AHeap} {Q : Option Value → AHeap → Prop} {l0 l1 l2 l3 l4 : Slot} {x : Int32} (h : W4 rm 62 [l0, l1, l2, l3, l4, .val (.int x)] (.int x :: S) (H) Q) : W4 rm 60 [l0, l1, l2, l3, l4, .val (.int x)] (S) H Q := W.iload d4_60 rfl h
theorem d4_62 : decode prog_35_method_2_code 62 = .ok (.iconst 1, 1) := by decide +kernel
theorem s4_62 {rm : Room} {S : List Value} {H : AHeap} {Q : Option Value → AHeap → Prop} {l0 l1 l2 l3 l4 l5 : Slot}  (h : W4 rm 63 [l0, l1, l2, l3, l4, l5] (.int 1 :: S) (H) Q) : W4 rm 62 [l0, l1, l2, l3, l4, l5] (S) H Q := W.iconst' d4_62 (by decide) h
theorem d4_63 : decode prog_35_method_2_code 63 = .ok (.isub, 1) := by decide +kernel
theorem s4_63 {rm : Room} {S : List Value} {H : AHeap} {Q : Option Value → AHeap → Prop} {l0 l1 l2 l3 l4 l5 : Slot} {x y : Int32} (h : W4 rm 64 [l0, l1, l2, l3, l4, l5] (.int (x - y) :: S) (H) Q) : W4 rm 63 [l0, l1, l2, l3, l4, l5] (.int y :: .int x :: S) H Q := W.isub d4_63 h
theorem d4_64 : decode prog_35_method_2_code 64 = .ok (.iconst 2, 1) := by decide +kernel
theorem s4_64 {rm : Room} {S : List Value} {H : AHeap} {Q : Option Value → AHeap → Prop} {l0 l1 l2 l3 l4 l5 : Slot}  (h : W4 rm 65 [l0, l1, l2, l3, l4, l5] (.int 2 :: S) (H) Q) : W4 rm 64 [l0, l1, l2, l3, l4, l5] (S) H Q := W.iconst' d4_64 (by decide) h
theorem d4_65 : decode prog_35_method_2_code 65 = .ok (.idiv, 1) := by decide +kernel
theorem s4_65 {rm : Room} {S : List Value} {H : AHeap} {Q : Option Value → AHeap → Prop} {l0 l1 l2 l3 l4 l5 : Slot} {x y : Int32} (hy : y ≠ 0) (h : W4 rm 66 [l0, l1, l2, l3, l4, l5] (.int (x / y) :: S) (H) Q) : W4 rm 65 [l0, l1, l2, l3, l4, l5] (.int y :: .int x :: S) H Q := W.idiv d4_65 hy h
theorem d4_66 : decode prog_35_method_2_code 66 = .ok (.laload, 1) := by decide +kernel
theorem s4_66 {rm : Room} {S : List Value} {H : AHeap} {Q : Option Value → AHeap → Prop} {l0 l1 l2 l3 l4 l5 : Slot} {i : Nat} {j : Int32} {vs : List Value} {v : Value} (N : Nat) (hH : H[i]? = some (.inr (.long, vs))) (hj : ix j N) (hv : vs[N]? = some v) (h : W4 rm 67 [l0, l1, l2, l3, l4, l5] (v :: S) (H) Q) : W4 rm 66 [l0, l1, l2, l3, l4, l5] (.int j :: .ref i :: S) H Q := W.xaload (Or.inr (Or.inl ⟨rfl, rfl⟩)) d4_66 hH hj hv h
theorem d4_67 : decode prog_35_method_2_code 67 = .ok (.lload_n 3, 1) := by decide +kernel
theorem s4_67 {rm : Room} {S : List Value} {H : AHeap} {Q : Option Value → AHeap → Prop} {l0 l1 l2 l4 l5 : Slot} {x : Int64} (h : W4 rm 68 [l0, l1, l2, .val (.long x), l4, l5] (.long x :: S) (H) Q) : W4 rm 67 [l0, l1, l2, .val (.long x), l4, l5] (S) H Q := W.lload_n d4_67 rfl h
theorem d4_68 : decode prog_35_method_2_code 68 = .ok (.lcmp, 1) := by decide +kernel
theorem d4_69 : decode prog_35_method_2_code 69 = .ok (.ifCond .le 32, 3) := by decide +kernel
theorem s4_69 {rm : Room} {S : List Value} {H : AHeap} {Q : Option Value → AHeap → Prop} {l0 l1 l2 l3 l4 l5 : Slot} {x : Int32} (h1 : ¬ 0 < x → W4 rm 101 [l0, l1, l2, l3, l4, l5] S H Q) (h2 : 0 < x → W4 rm 72 [l0, l1, l2, l3, l4, l5] S H Q) : W4 rm 69 [l0, l1, l2, l3, l4, l5] (.int x :: S) H Q := W.ifc d4_69 (by decide) (by decide) h1 h2
theorem s4_68c {rm : Room} {S : List Value} {H : AHeap} {Q : Option Value → AHeap → Prop} {l0 l1 l2 l3 l4 l5 : Slot} {x y : Int64} (h1 : ¬ y < x → W4 rm 101 [l0, l1, l2, l3, l4, l5] S H Q) (h2 : y < x → W4 rm 72 [l0, l1, l2, l3, l4, l5] S H Q) : W4 rm 68 [l0, l1, l2, l3, l4, l5] (.long y :: .long x :: S) H Q := W.lcif d4_68 rfl d4_69 (by decide) (by decide) h1 h2
theorem d4_72 : decode prog_35_method_2_code 72 = .ok (.aload_n 0, 1) := by decide +kernel
theorem s4_72 {rm : Room} {S : List Value} {H : AHeap} {Q : Option Value → AHeap → Prop} {l1 l2 l3 l4 l5 : Slot} {i : Nat} (h : W4 rm 73 [.val (.ref i), l1, l2, l3, l4, l5] (.ref i :: S) (H) Q) : W4 rm 72 [.val (.ref i), l1, l2, l3, l4, l5] (S) H Q := W.aload_n d4_72 rfl rfl h
theorem s4_72n {rm : Room} {S : List Value} {H : AHeap} {Q : Option Value → AHeap → Prop} {l1 l2 l3 l4 l5 : Slot}  (h : W4 rm 73 [.val .null, l1, l2, l3, l4, l5] (.null :: S) (H) Q) : W4 rm 72 [.val .null, l1, l2, l3, l4, l5] (S) H Q := W.aload_n d4_72 rfl rfl h
theorem d4_73 : decode prog_35_method_2_code 73 = .ok (.getfield 7, 3) := by decide +kernel
theorem s4_73 {rm : Room} {S : List Value} {H : AHeap} {Q : Option Value → AHeap → Prop} {l0 l1 l2 l3 l4 l5 : Slot} {i : Nat} {f0 f1 : Value} (hH : H[i]? = some (.inl (0, [f0, f1]))) (h : W4 rm 76 [l0, l1, l2, l3, l4, l5] (f0 :: S) (H) Q) : W4 rm 73 [l0, l1, l2, l3, l4, l5] (.ref i :: S) H Q := W.getF (c := 0) (j := 0) d4_73 (host := "") (Or.inl (List.mem_of_getElem? (i := 10) rfl)) (Or.inl rfl) rfl rfl hH rfl h
theorem d4_76 : decode prog_35_method_2_code 76 = .ok (.iload 5, 2) := by decide +kernel
theorem s4_76 {rm : Room} {S : List Value} {H : AHeap} {Q : Option Value → AHeap → Prop} {l0 l1 l2 l3 l4 : Slot} {x : Int32} (h : W4 rm 78 [l0, l1, l2, l3, l4, .val (.int x)] (.int x :: S) (H) Q) : W4 rm 76 [l0, l1, l2, l3, l4, .val (.int x)] (S) H Q := W.iload d4_76 rfl h
theorem d4_78 : decode prog_35_method_2_code 78 = .ok (.aload_n 0, 1) := by decide +kernel
theorem s4_78 {rm : Room} {S : List Value} {H : AHeap} {Q : Option Value → AHeap → Prop} {l1 l2 l3 l4 l5 : Slot} {i : Nat} (h : W4 rm 79 [.val (.ref i), l1, l2, l3, l4, l5] (.ref i :: S) (H) Q) : W4 rm 78 [.val (.ref i), l1, l2, l3, l4, l5] (S) H Q := W.aload_n d4_78 rfl rfl h
theorem s4_78n {rm : Room} {S : List Value} {H : AHeap} {Q : Option Value → AHeap → Prop} {l1 l2 l3 l4 l5 : Slot}  (h : W4 rm 79 [.val .null, l1, l2, l3, l4, l5] (.null :: S) (H) Q) : W4 rm 78 [.val .null, l1, l2, l3, l4, l5] (S) H Q := W.aload_n d4_78 rfl rfl h
theorem d4_79 : decode prog_35_method_2_code 79 = .ok (.getfield 7, 3) := by decide +kernel
theorem s4_79 {rm : Room} {S : List Value} {H : AHeap} {Q : Option Value → AHeap → Prop} {l0 l1 l2 l3 l4 l5 : Slot} {i : Nat} {f0 f1 : Value} (hH : H[i]? = some (.inl (0, [f0, f1]))) (h : W4 rm 82 [l0, l1, l2, l3, l4, l5] (f0 :: S) (H) Q) : W4 rm 79 [l0, l1, l2, l3, l4, l5] (.ref i :: S) H Q := W.getF (c := 0) (j := 0) d4_79 (host := "") (Or.inl (List.mem_of_getElem? (i := 10) rfl)) (Or.inl rfl) rfl rfl hH rfl h
theorem d4_82 : decode prog_35_method_2_code 82 = .ok (.iload 5, 2) := by decide +kernel
theorem s4_82 {rm : Room} {S : List Value} {H : AHeap} {Q : Option Value → AHeap → Prop} {l0 l1 l2 l3 l4 : Slot} {x : Int32} (h : W4 rm 84 [l0, l1, l2, l3, l4, .val (.int x)] (.int x :: S) (H) Q) : W4 rm 82 [l0, l1, l2, l3, l4, .val (.int x)] (S) H Q := W.iload d4_82 rfl h
theorem d4_84 : decode prog_35_method_2_code 84 = .ok (.iconst 1, 1) := by decide +kernel
theorem s4_84 {rm : Room} {S : List Value} {H : AHeap} {Q : Option Value → AHeap → Prop} {l0 l1 l2 l3 l4 l5 : Slot}  (h : W4 rm 85 [l0, l1, l2, l3, l4, l5] (.int 1 :: S) (H) Q) : W4 rm 84 [l0, l1, l2, l3, l4, l5] (S) H Q := W.iconst' d4_84 (by decide) h
theorem d4_85 : decode prog_35_method_2_code 85 = .ok (.isub, 1) := by decide +kernel
theorem s4_85 {rm : Room} {S : List Value} {H : AHeap} {Q : Option Value → AHeap → Prop} {l0 l1 l2 l3 l4 l5 : Slot} {x y : Int32} (h : W4 rm 86 [l0, l1, l2, l3, l4, l5] (.int (x - y) :: S) (H) Q) : W4 rm 85 [l0, l1, l2, l3, l4, l5] (.int y :: .int x :: S) H Q := W.isub d4_85 h
theorem d4_86 : decode prog_35_method_2_code 86 = .ok (.iconst 2, 1) := by decide +kernel
theorem s4_86 {rm : Room} {S : List Value} {H : AHeap} {Q : Option Value → AHeap → Prop} {l0 l1 l2 l3 l4 l5 : Slot}  (h : W4 rm 87 [l0, l1, l2, l3, l4, l5] (.int 2 :: S) (H) Q) : W4 rm 86 [l0, l1, l2, l3, l4, l5] (S) H Q := W.iconst' d4_86 (by decide) h
theorem d4_87 : decode prog_35_method_2_code 87 = .ok (.idiv, 1) := by decide +kernel
theorem s4_87 {rm : Room} {S : List Value} {H : AHeap} {Q : Option Value → AHeap → Prop} {l0 l1 l2 l3 l4 l5 : Slot} {x y : Int32} (hy : y ≠ 0) (h : W4 rm 88 [l0, l1, l2, l3, l4, l5] (.int (x / y) :: S) (H) Q) : W4 rm 87 [l0, l1, l2, l3, l4, l5] (.int y :: .int x :: S) H Q := W.idiv d4_87 hy h
theorem d4_88 : decode prog_35_method_2_code 88 = .ok (.laload, 1) := by decide +kernel
theorem s4_88 {rm : Room} {S : List Value} {H : AHeap} {Q : Option Value → AHeap → Prop} {l0 l1 l2 l3 l4 l5 : Slot} {i : Nat} {j : Int32} {vs : List Value} {v : Value} (N : Nat) (hH : H[i]? = some (.inr (.long, vs))) (hj : ix j N) (hv : vs[N]? = some v) (h : W4 rm 89 [l0, l1, l2, l3, l4, l5] (v :: S) (H) Q) : W4 rm 88 [l0, l1, l2, l3, l4, l5] (.int j :: .ref i :: S) H Q := W.xaload (Or.inr (Or.inl ⟨rfl, rfl⟩)) d4_88 hH hj hv h
theorem d4_89 : decode prog_35_method_2_code 89 = .ok (.lastore, 1) := by decide +kernel
theorem s4_89 {rm : Room} {S : List Value} {H : AHeap} {Q : Option Value → AHeap → Prop} {l0 l1 l2 l3 l4 l5 : Slot} {i : Nat} {j : Int32} {x : Int64} {vs : List Value} (N : Nat) (hH : H[i]? = some (.inr (.long, vs))) (hj : ix j N) (hl : Nat.blt N vs.length = true) (h : W4 rm 90 [l0, l1, l2, l3, l4, l5] (S) (H.set i (.inr (.long, vs.set N (.long x)))) Q) : W4 rm 89 [l0, l1, l2, l3, l4, l5] (.long x :: .int j :: .ref i :: S) H Q := W.lastore d4_89 hH hj hl h
theorem d4_90 : decode prog_35_method_2_code 90 = .ok (.iload 5, 2) := by decide +kernel
theorem s4_90 {rm : Room} {S : List Value} {H : AHeap} {Q : Option Value → AHeap → Prop} {l0 l1 l2 l3 l4 : Slot} {x : Int32} (h : W4 rm 92 [l0, l1, l2, l3, l4, .val (.int x)] (.int x :: S) (H) Q) : W4 rm 90 [l0, l1, l2, l3, l4, .val (.int x)] (S) H Q := W.iload d4_90 rfl h
theorem d4_92 : decode prog_35_method_2_code 92 = .ok (.iconst 1, 1) := by decide +kernel
theorem s4_92 {rm : Room} {S : List Value} {H : AHeap} {Q : Option Value → AHeap → Prop} {l0 l1 l2 l3 l4 l5 : Slot}  (h : W4 rm 93 [l0, l1, l2, l3, l4, l5] (.int 1 :: S) (H) Q) : W4 rm 92 [l0, l1, l2, l3, l4, l5] (S) H Q := W.iconst' d4_92 (by decide) h
theorem d4_93 : decode prog_35_method_2_code 93 = .ok (.isub, 1) := by decide +kernel
theorem s4_93 {rm : Room} {S : List Value} {H : AHeap} {Q : Option Value → AHeap → Prop} {l0 l1 l2 l3 l4 l5 : Slot} {x y : Int32} (h : W4 rm 94 [l0, l1, l2, l3, l4, l5] (.int (x - y) :: S) (H) Q) : W4 rm 93 [l0, l1, l2, l3, l4, l5] (.int y :: .int x :: S) H Q := W.isub d4_93 h
theorem d4_94 : decode prog_35_method_2_code 94 = .ok (.iconst 2, 1) := by decide +kernel
theorem s4_94 {rm : Room} {S : List Value} {H : AHeap} {Q : Option Value → AHeap → Prop} {l0 l1 l2 l3 l4 l5 : Slot}  (h : W4 rm 95 [l0, l1, l2, l3, l4, l5] (.int 2 :: S) (H) Q) : W4 rm 94 [l0, l1, l2, l3, l4, l5] (S) H Q := W.iconst' d4_94 (by decide) h
theorem d4_95 : decode prog_35_method_2_code 95 = .ok (.idiv, 1) := by decide +kernel
theorem s4_95 {rm : Room} {S : List Value} {H : AHeap} {Q : Option Value → AHeap → Prop} {l0 l1 l2 l3 l4 l5 : Slot} {x y : Int32} (hy : y ≠ 0) (h : W4 rm 96 [l0, l1, l2, l3, l4, l5] (.int (x / y) :: S) (H) Q) : W4 rm 95 [l0, l1, l2, l3, l4, l5] (.int y :: .int x :: S) H Q := W.idiv d4_95 hy h
theorem d4_96 : decode prog_35_method_2_code 96 = .ok (.istore 5, 2) := by decide +kernel
theorem s4_96 {rm : Room} {S : List Value} {H : AHeap} {Q : Option Value → AHeap → Prop} {l0 l1 l2 l3 l4 l5 : Slot} {x : Int32} (ho : one l5 = true) (h : W4 rm 98 [l0, l1, l2, l3, l4, .val (.int x)] (S) (H) Q) : W4 rm 96 [l0, l1, l2, l3, l4, l5] (.int x :: S) H Q := W.istore d4_96 rfl ho h
theorem s4_96s {rm : Room} {S : List Value} {H : AHeap} {Q : Option Value → AHeap → Prop} {l0 l1 l2 l3 l4 : Slot} {x : Int32} (h : W4 rm 98 [l0, l1, l2, l3, .unset, .val (.int x)] (S) (H) Q) : W4 rm 96 [l0, l1, l2, l3, l4, .second] (.int x :: S) H Q := W.istoreS d4_96 rfl (by decide) h
theorem d4_98 : decode prog_35_method_2_code 98 = .ok (.goto (-47), 3) := by decide +kernel
theorem s4_98 {rm : Room} {S : List Value} {H : AHeap} {Q : Option Value → AHeap → Prop} {l0 l1 l2 l3 l4 l5 : Slot}  (h : W4 rm 51 [l0, l1, l2, l3, l4, l5] (S) (H) Q) : W4 rm 98 [l0, l1, l2, l3, l4, l5] (S) H Q := W.goto d4_98 (by decide) (by decide) h
theorem d4_101 : decode prog_35_method_2_code 101 = .ok (.aload_n 0, 1) := by decide +kernel
theorem s4_101 {rm : Room} {S : List Value} {H : AHeap} {Q : Option Value → AHeap → Prop} {l1 l2 l3 l4 l5 : Slot} {i : Nat} (h : W4 rm 102 [.val (.ref i), l1, l2, l3, l4, l5] (.ref i :: S) (H) Q) : W4 rm 101 [.val (.ref i), l1, l2, l3, l4, l5] (S) H Q := W.aload_n d4_101 rfl rfl h
theorem s4_101n {rm : Room} {S : List Value} {H : AHeap} {Q : Option Value → AHeap → Prop} {l1 l2 l3 l4 l5 : Slot}  (h : W4 rm 102 [.val .null, l1, l2, l3, l4, l5] (.null :: S) (H) Q) : W4 rm 101 [.val .null, l1, l2, l3, l4, l5] (S) H Q := W.aload_n d4_101 rfl rfl h
theorem d4_102 : decode prog_35_method_2_code 102 = .ok (.getfield 7, 3) := by decide +kernel
theorem s4_102 {rm : Room} {S : List Value} {H : AHeap} {Q : Option Value → AHeap → Prop} {l0 l1 l2 l3 l4 l5 : Slot} {i : Nat} {f0 f1 : Value} (hH : H[i]? = some (.inl (0, [f0, f1]))) (h : W4 rm 105 [l0, l1, l2, l3, l4, l5] (f0 :: S) (H) Q) : W4 rm 102 [l0, l1, l2, l3, l4, l5] (.ref i :: S) H Q := W.getF (c := 0) (j := 0) d4_102 (host := "") (Or.inl (List.mem_of_getElem? (i := 10) rfl)) (Or.inl rfl) rfl rfl hH rfl h
theorem d4_105 : decode prog_35_method_2_code 105 = .ok (.iload 5, 2) := by decide +kernel
theorem s4_105 {rm : Room} {S : List Value} {H : AHeap} {Q : Option Value → AHeap → Prop} {l0 l1 l2 l3 l4 : Slot} {x : Int32} (h : W4 rm 107 [l0, l1, l2, l3, l4, .val (.int x)] (.int x :: S) (H) Q) : W4 rm 105 [l0, l1, l2, l3, l4, .val (.int x)] (S) H Q := W.iload d4_105 rfl h
theorem d4_107 : decode prog_35_method_2_code 107 = .ok (.lload_n 3, 1) := by decide +kernel
theorem s4_107 {rm : Room} {S : List Value} {H : AHeap} {Q : Option Value → AHeap → Prop} {l0 l1 l2 l4 l5 : Slot} {x : Int64} (h : W4 rm 108 [l0, l1, l2, .val (.long x), l4, l5] (.long x :: S) (H) Q) : W4 rm 107 [l0, l1, l2, .val (.long x), l4, l5] (S) H Q := W.lload_n d4_107 rfl h
theorem d4_108 : decode prog_35_method_2_code 108 = .ok (.lastore, 1) := by decide +kernel
theorem s4_108 {rm : Room} {S : List Value} {H : AHeap} {Q : Option Value → AHeap → Prop} {l0 l1 l2 l3 l4 l5 : Slot} {i : Nat} {j : Int32} {x : Int64} {vs : List Value} (N : Nat) (hH : H[i]? = some (.inr (.long, vs))) (hj : ix j N) (hl : Nat.blt N vs.length = true) (h : W4 rm 109 [l0, l1, l2, l3, l4, l5] (S) (H.set i (.inr (.long, vs.set N (.long x)))) Q) : W4 rm 108 [l0, l1, l2, l3, l4, l5] (.long x :: .int j :: .ref i :: S) H Q := W.lastore d4_108 hH hj hl h
theorem d4_109 : decode prog_35_method_2_code 109 = .ok (.return_, 1) := by decide +kernel
theorem s4_109 {rm : Room} {H : AHeap} {Q : Option Value → AHeap → Prop} {l0 l1 l2 l3 l4 l5 : Slot} (hQ : Q none H) : W4 rm 109 [l0, l1, l2, l3, l4, l5] [] H Q := W.ret_ d4_109 rfl hQ
theorem e5 {rm : Room} {H : AHeap} {Q : Option Value → AHeap → Prop} {a0 : Nat} (h : W5 rm 0 [.val (.ref a0), .unset, .unset, .unset, .unset, .unset] [] H Q) : M5 rm [.ref a0] H Q := M.of pf5 rfl rfl h
theorem e5L {rm : Room} {H : AHeap} {Q : Option Value → AHeap → Prop} {L : List Slot} {as : List Value} (h : W5 rm 0 L [] H Q) (hl : ent as ++ List.replicate (6 - (ent as).length) .unset = L := by rfl) (hn : L.length = 6 := by rfl) : M5 rm as H Q := M.of pf5 hl hn h
theorem d5_0 : decode prog_35_method_5_code 0 = .ok (.aload_n 0, 1) := by decide +kernel
theorem s5_0 {rm : Room} {S : List Value} {H : AHeap} {Q : Option Value → AHeap → Prop} {l1 l2 l3 l4 l5 : Slot} {i : Nat} (h : W5 rm 1 [.val (.ref i), l1, l2, l3, l4, l5] (.ref i :: S) (H) Q) : W5 rm 0 [.val (.ref i), l1, l2, l3, l4, l5] (S) H Q := W.aload_n d5_0 rfl rfl h
theorem s5_0n {rm : Room} {S : List Value} {H : AHeap} {Q : Option Value → AHeap → Prop} {l1 l2 l3 l4 l5 : Slot}  (h : W5 rm 1 [.val .null, l1, l2, l3, l4, l5] (.null :: S) (H) Q) : W5 rm 0 [.val .null, l1, l2, l3, l4, l5] (S) H Q := W.aload_n d5_0 rfl rfl h
theorem d5_1 : decode prog_35_method_5_code 1 = .ok (.getfield 7, 3) := by decide +kernel
theorem s5_1 {rm : Room} {S : List Value} {H : AHeap} {Q : Option Value → AHeap → Prop} {l0 l1 l2 l3 l4 l5 : Slot} {i : Nat} {f0 f1 : Value} (hH : H[i]? = some (.inl (0, [f0, f1]))) (h : W5 rm 4 [l0, l1, l2, l3, l4, l5] (f0 :: S) (H) Q) : W5 rm 1 [l0, l1, l2, l3, l4, l5] (.ref i :: S) H Q := W.getF (c := 0) (j := 0) d5_1 (host := "") (Or.inl (List.mem_of_getElem? (i := 10) rfl)) (Or.inl rfl) rfl rfl hH rfl h
theorem d5_4 : decode prog_35_method_5_code 4 = .ok (.iconst 0, 1) := by decide +kernel
theorem s5_4 {rm : Room} {S : List Value} {H : AHeap} {Q : Option Value → AHeap → Prop} {l0 l1 l2 l3 l4 l5 : Slot}  (h : W5 rm 5 [l0, l1, l2, l3, l4, l5] (.int 0 :: S) (H) Q) : W5 rm 4 [l0, l1, l2, l3, l4, l5] (S) H Q := W.iconst' d5_4 (by decide) h
theorem d5_5 : decode prog_35_method_5_code 5 = .ok (.laload, 1) := by decide +kernel
theorem s5_5 {rm : Room} {S : List Value} {H : AHeap} {Q : Option Value → AHeap → Prop} {l0 l1 l2 l3 l4 l5 : Slot} {i : Nat} {j : Int32} {vs : List Value} {v : Value} (N : Nat) (hH : H[i]? = some (.inr (.long, vs))) (hj : ix j N) (hv : vs[N]? = some v) (h : W5 rm 6 [l0, l1, l2, l3, l4, l5] (v :: S) (H) Q) : W5 rm 5 [l0, l1, l2, l3, l4, l5] (.int j :: .ref i :: S) H Q := W.xaload (Or.inr (Or.inl ⟨rfl, rfl⟩)) d5_5 hH hj hv h
theorem d5_6 : decode prog_35_method_5_code 6 = .ok (.l2i, 1) := by decide +kernel
theorem s5_6 {rm : Room} {S : List Value} {H : AHeap} {Q : Option Value → AHeap → Prop} {l0 l1 l2 l3 l4 l5 : Slot} {x : Int64} (h : W5 rm 7 [l0, l1, l2, l3, l4, l5] (.int x.toInt32 :: S) (H) Q) : W5 rm 6 [l0, l1, l2, l3, l4, l5] (.long x :: S) H Q := W.l2i d5_6 h
theorem d5_7 : decode prog_35_method_5_code 7 = .ok (.istore_n 1, 1) := by decide +kernel
theorem s5_7 {rm : Room} {S : List Value} {H : AHeap} {Q : Option Value → AHeap → Prop} {l0 l1 l2 l3 l4 l5 : Slot} {x : Int32} (ho : one l1 = true) (h : W5 rm 8 [l0, .val (.int x), l2, l3, l4, l5] (S) (H) Q) : W5 rm 7 [l0, l1, l2, l3, l4, l5] (.int x :: S) H Q := W.istore_n d5_7 rfl ho h
theorem s5_7w {rm : Room} {S : List Value} {H : AHeap} {Q : Option Value → AHeap → Prop} {l0 l2 l3 l4 l5 : Slot} {w : Value} {x : Int32} (ho : w.category = 2) (h : W5 rm 8 [l0, .val (.int x), .unset, l3, l4, l5] (S) (H) Q) : W5 rm 7 [l0, .val w, l2, l3, l4, l5] (.int x :: S) H Q := W.istore_nW d5_7 rfl ho (Nat.le_of_ble_eq_true rfl) h
theorem s5_7s {rm : Room} {S : List Value} {H : AHeap} {Q : Option Value → AHeap → Prop} {l0 l2 l3 l4 l5 : Slot} {x : Int32} (h : W5 rm 8 [.unset, .val (.int x), l2, l3, l4, l5] (S) (H) Q) : W5 rm 7 [l0, .second, l2, l3, l4, l5] (.int x :: S) H Q := W.istore_nS d5_7 rfl (by decide) h
theorem d5_8 : decode prog_35_method_5_code 8 = .ok (.aload_n 0, 1) := by decide +kernel
theorem s5_8 {rm : Room} {S : List Value} {H : AHeap} {Q : Option Value → AHeap → Prop} {l1 l2 l3 l4 l5 : Slot} {i : Nat} (h : W5 rm 9 [.val (.ref i), l1, l2, l3, l4, l5] (.ref i :: S) (H) Q) : W5 rm 8 [.val (.ref i), l1, l2, l3, l4, l5] (S) H Q := W.aload_n d5_8 rfl rfl h
theorem s5_8n {rm : Room} {S : List Value} {H : AHeap} {Q : Option Value → AHeap → Prop} {l1 l2 l3 l4 l5 : Slot}  (h : W5 rm 9 [.val .null, l1, l2, l3, l4, l5] (.null :: S) (H) Q) : W5 rm 8 [.val .null, l1, l2, l3, l4, l5] (S) H Q := W.aload_n d5_8 rfl rfl h
theorem d5_9 : decode prog_35_method_5_code 9 = .ok (.getfield 7, 3) := by decide +kernel
theorem s5_9 {rm : Room} {S : List Value} {H : AHeap} {Q : Option Value → AHeap → Prop} {l0 l1 l2 l3 l4 l5 : Slot} {i : Nat} {f0 f1 : Value} (hH : H[i]? = some (.inl (0, [f0, f1]))) (h : W5 rm 12 [l0, l1, l2, l3, l4, l5] (f0 :: S) (H) Q) : W5 rm 9 [l0, l1, l2, l3, l4, l5] (.ref i :: S) H Q := W.getF (c := 0) (j := 0) d5_9 (host := "") (Or.inl (List.mem_of_getElem? (i := 10) rfl)) (Or.inl rfl) rfl rfl hH rfl h
theorem d5_12 : decode prog_35_method_5_code 12 = .ok (.aload_n 0, 1) := by decide +kernel
theorem s5_12 {rm : Room} {S : List Value} {H : AHeap} {Q : Option Value → AHeap → Prop} {l1 l2 l3 l4 l5 : Slot} {i : Nat} (h : W5 rm 13 [.val (.ref i), l1, l2, l3, l4, l5] (.ref i :: S) (H) Q) : W5 rm 12 [.val (.ref i), l1, l2, l3, l4, l5] (S) H Q := W.aload_n d5_12 rfl rfl h
theorem s5_12n {rm : Room} {S : List Value} {H : AHeap} {Q : Option Value → AHeap → Prop} {l1 l2 l3 l4 l5 : Slot}  (h : W5 rm 13 [.val .null, l1, l2, l3, l4, l5] (.null :: S) (H) Q) : W5 rm 12 [.val .null, l1, l2, l3, l4, l5] (S) H Q := W.aload_n d5_12 rfl rfl h
theorem d5_13 : decode prog_35_method_5_code 13 = .ok (.dup, 1) := by decide +kernel
theorem s5_13 {rm : Room} {S : List Value} {H : AHeap} {Q : Option Value → AHeap → Prop} {l0 l1 l2 l3 l4 l5 : Slot} {v : Value} (hc : v.category = 1) (h : W5 rm 14 [l0, l1, l2, l3, l4, l5] (v :: v :: S) (H) Q) : W5 rm 13 [l0, l1, l2, l3, l4, l5] (v :: S) H Q := W.dup d5_13 hc h
theorem d5_14 : decode prog_35_method_5_code 14 = .ok (.getfield 13, 3) := by decide +kernel
theorem s5_14 {rm : Room} {S : List Value} {H : AHeap} {Q : Option Value → AHeap → Prop} {l0 l1 l2 l3 l4 l5 : Slot} {i : Nat} {f0 f1 : Value} (hH : H[i]? = some (.inl (0, [f0, f1]))) (h : W5 rm 17 [l0, l1, l2, l3, l4, l5] (f1 :: S) (H) Q) : W5 rm 14 [l0, l1, l2, l3, l4, l5] (.ref i :: S) H Q := W.getF (c := 0) (j := 1) d5_14 (host := "") (Or.inl (List.mem_of_getElem? (i := 17) rfl)) (Or.inl rfl) rfl rfl hH rfl h
theorem d5_17 : decode prog_35_method_5_code 17 = .ok (.iconst 1, 1) := by decide +kernel
theorem s5_17 {rm : Room} {S : List Value} {H : AHeap} {Q : Option Value → AHeap → Prop} {l0 l1 l2 l3 l4 l5 : Slot}  (h : W5 rm 18 [l0, l1, l2, l3, l4, l5] (.int 1 :: S) (H) Q) : W5 rm 17 [l0, l1, l2, l3, l4, l5] (S) H Q := W.iconst' d5_17 (by decide) h
theorem d5_18 : decode prog_35_method_5_code 18 = .ok (.isub, 1) := by decide +kernel
theorem s5_18 {rm : Room} {S : List Value} {H : AHeap} {Q : Option Value → AHeap → Prop} {l0 l1 l2 l3 l4 l5 : Slot} {x y : Int32} (h : W5 rm 19 [l0, l1, l2, l3, l4, l5] (.int (x - y) :: S) (H) Q) : W5 rm 18 [l0, l1, l2, l3, l4, l5] (.int y :: .int x :: S) H Q := W.isub d5_18 h
theorem d5_19 : decode prog_35_method_5_code 19 = .ok (.dup_x1, 1) := by decide +kernel
theorem s5_19 {rm : Room} {S : List Value} {H : AHeap} {Q : Option Value → AHeap → Prop} {l0 l1 l2 l3 l4 l5 : Slot} {v w : Value} (hc : v.category = 1) (hc' : w.category = 1) (h : W5 rm 20 [l0, l1, l2, l3, l4, l5] (v :: w :: v :: S) (H) Q) : W5 rm 19 [l0, l1, l2, l3, l4, l5] (v :: w :: S) H Q := W.dup_x1 d5_19 hc hc' h
theorem d5_20 : decode prog_35_method_5_code 20 = .ok (.putfield 13, 3) := by decide +kernel
theorem s5_20 {rm : Room} {S : List Value} {H : AHeap} {Q : Option Value → AHeap → Prop} {l0 l1 l2 l3 l4 l5 : Slot} {i : Nat} {f0 f1 : Value} {x : Int32} (hH : H[i]? = some (.inl (0, [f0, f1]))) (h : W5 rm 23 [l0, l1, l2, l3, l4, l5] (S) (H.set i (.inl (0, [f0, .int x]))) Q) : W5 rm 20 [l0, l1, l2, l3, l4, l5] (.int x :: .ref i :: S) H Q := W.putF (c := 0) (j := 1) kt d5_20 (host := "") (Or.inl (List.mem_of_getElem? (i := 17) rfl)) (Or.inl rfl) rfl rfl (Or.inl (List.mem_of_getElem? (i := 18) rfl)) rfl rfl hH h
theorem d5_23 : decode prog_35_method_5_code 23 = .ok (.laload, 1) := by decide +kernel
theorem s5_23 {rm : Room} {S : List Value} {H : AHeap} {Q : Option Value → AHeap → Prop} {l0 l1 l2 l3 l4 l5 : Slot} {i : Nat} {j : Int32} {vs : List Value} {v : Value} (N : Nat) (hH : H[i]? = some (.inr (.long, vs))) (hj : ix j N) (hv : vs[N]? = some v) (h : W5 rm 24 [l0, l1, l2, l3, l4, l5] (v :: S) (H) Q) : W5 rm 23 [l0, l1, l2, l3, l4, l5] (.int j :: .ref i :: S) H Q := W.xaload (Or.inr (Or.inl ⟨rfl, rfl⟩)) d5_23 hH hj hv h
theorem d5_24 : decode prog_35_method_5_code 24 = .ok (.lstore_n 2, 1) := by decide +kernel
theorem s5_24 {rm : Room} {S : List Value} {H : AHeap} {Q : Option Value → AHeap → Prop} {l0 l1 l2 l3 l4 l5 : Slot} {x : Int64} (ho : two l2 l3 = true) (h : W5 rm 25 [l0, l1, .val (.long x), .second, l4, l5] (S) (H) Q) : W5 rm 24 [l0, l1, l2, l3, l4, l5] (.long x :: S) H Q := W.lstore_n d5_24 rfl rfl ho h
theorem d5_25 : decode prog_35_method_5_code 25 = .ok (.iconst 0, 1) := by decide +kernel
theorem s5_25 {rm : Room} {S : List Value} {H : AHeap} {Q : Option Value → AHeap → Prop} {l0 l1 l2 l3 l4 l5 : Slot}  (h : W5 rm 26 [l0, l1, l2, l3, l4, l5] (.int 0 :: S) (H) Q) : W5 rm 25 [l0, l1, l2, l3, l4, l5] (S) H Q := W.iconst' d5_25 (by decide) h
theorem d5_26 : decode prog_35_method_5_code 26 = .ok (.istore 4, 2) := by decide +kernel
theorem s5_26 {rm : Room} {S : List Value} {H : AHeap} {Q : Option Value → AHeap → Prop} {l0 l1 l2 l3 l4 l5 : Slot} {x : Int32} (ho : one l4 = true) (h : W5 rm 28 [l0, l1, l2, l3, .val (.int x), l5] (S) (H) Q) : W5 rm 26 [l0, l1, l2, l3, l4, l5] (.int x :: S) H Q := W.istore d5_26 rfl ho h
theorem s5_26w {rm : Room} {S : List Value} {H : AHeap} {Q : Option Value → AHeap → Prop} {l0 l1 l2 l3 l5 : Slot} {w : Value} {x : Int32} (ho : w.category = 2) (h : W5 rm 28 [l0, l1, l2, l3, .val (.int x), .unset] (S) (H) Q) : W5 rm 26 [l0, l1, l2, l3, .val w, l5] (.int x :: S) H Q := W.istoreW d5_26 rfl ho (Nat.le_of_ble_eq_true rfl) h
theorem s5_26s {rm : Room} {S : List Value} {H : AHeap} {Q : Option Value → AHeap → Prop} {l0 l1 l2 l3 l5 : Slot} {x : Int32} (h : W5 rm 28 [l0, l1, l2, .unset, .val (.int x), l5] (S) (H) Q) : W5 rm 26 [l0, l1, l2, l3, .second, l5] (.int x :: S) H Q := W.istoreS d5_26 rfl (by decide) h
theorem d5_28 : decode prog_35_method_5_code 28 = .ok (.iconst 2, 1) := by decide +kernel
theorem s5_28 {rm : Room} {S : List Value} {H : AHeap} {Q : Option Value → AHeap → Prop} {l0 l1 l2 l3 l4 l5 : Slot}  (h : W5 rm 29 [l0, l1, l2, l3, l4, l5] (.int 2 :: S) (H) Q) : W5 rm 28 [l0, l1, l2, l3, l4, l5] (S) H Q := W.iconst' d5_28 (by decide) h
theorem d5_29 : decode prog_35_method_5_code 29 = .ok (.iload 4, 2) := by decide +kernel
theorem s5_29 {rm : Room} {S : List Value} {H : AHeap} {Q : Option Value → AHeap → Prop} {l0 l1 l2 l3 l5 : Slot} {x : Int32} (h : W5 rm 31 [l0, l1, l2, l3, .val (.int x), l5] (.int x :: S) (H) Q) : W5 rm 29 [l0, l1, l2, l3, .val (.int x), l5] (S) H Q := W.iload d5_29 rfl h
theorem d5_31 : decode prog_35_method_5_code 31 = .ok (.imul, 1) := by decide +kernel
theorem s5_31 {rm : Room} {S : List Value} {H : AHeap} {Q : Option Value → AHeap → Prop} {l0 l1 l2 l3 l4 l5 : Slot} {x y : Int32} (h : W5 rm 32 [l0, l1, l2, l3, l4, l5] (.int (x * y) :: S) (H) Q) : W5 rm 31 [l0, l1, l2, l3, l4, l5] (.int y :: .int x :: S) H Q := W.imul d5_31 h
theorem d5_32 : decode prog_35_method_5_code 32 = .ok (.iconst 1, 1) := by decide +kernel
theorem s5_32 {rm : Room} {S : List Value} {H : AHeap} {Q : Option Value → AHeap → Prop} {l0 l1 l2 l3 l4 l5 : Slot}  (h : W5 rm 33 [l0, l1, l2, l3, l4, l5] (.int 1 :: S) (H) Q) : W5 rm 32 [l0, l1, l2, l3, l4, l5] (S) H Q := W.iconst' d5_32 (by decide) h
theorem d5_33 : decode prog_35_method_5_code 33 = .ok (.iadd, 1) := by decide +kernel
theorem s5_33 {rm : Room} {S : List Value} {H : AHeap} {Q : Option Value → AHeap → Prop} {l0 l1 l2 l3 l4 l5 : Slot} {x y : Int32} (h : W5 rm 34 [l0, l1, l2, l3, l4, l5] (.int (x + y) :: S) (H) Q) : W5 rm 33 [l0, l1, l2, l3, l4, l5] (.int y :: .int x :: S) H Q := W.iadd d5_33 h
theorem d5_34 : decode prog_35_method_5_code 34 = .ok (.aload_n 0, 1) := by decide +kernel
theorem s5_34 {rm : Room} {S : List Value} {H : AHeap} {Q : Option Value → AHeap → Prop} {l1 l2 l3 l4 l5 : Slot} {i : Nat} (h : W5 rm 35 [.val (.ref i), l1, l2, l3, l4, l5] (.ref i :: S) (H) Q) : W5 rm 34 [.val (.ref i), l1, l2, l3, l4, l5] (S) H Q := W.aload_n d5_34 rfl rfl h
theorem s5_34n {rm : Room} {S : List Value} {H : AHeap} {Q : Option Value → AHeap → Prop} {l1 l2 l3 l4 l5 : Slot}  (h : W5 rm 35 [.val .null, l1, l2, l3, l4, l5] (.null :: S) (H) Q) : W5 rm 34 [.val .null, l1, l2, l3, l4, l5] (S) H Q := W.aload_n d5_34 rfl rfl h
theorem d5_35 : decode prog_35_method_5_code 35 = .ok (.getfield 13, 3) := by decide +kernel
theorem s5_35 {rm : Room} {S : List Value} {H : AHeap} {Q : Option Value → AHeap → Prop} {l0 l1 l2 l3 l4 l5 : Slot} {i : Nat} {f0 f1 : Value} (hH : H[i]? = some (.inl (0, [f0, f1]))) (h : W5 rm 38 [l0, l1, l2, l3, l4, l5] (f1 :: S) (H) Q) : W5 rm 35 [l0, l1, l2, l3, l4, l5] (.ref i :: S) H Q := W.getF (c := 0) (j := 1) d5_35 (host := "") (Or.inl (List.mem_of_getElem? (i := 17) rfl)) (Or.inl rfl) rfl rfl hH rfl h
theorem d5_38 : decode prog_35_method_5_code 38 = .ok (.if_icmp .ge 81, 3) := by decide +kernel
theorem s5_38 {rm : Room} {S : List Value} {H : AHeap} {Q : Option Value → AHeap → Prop} {l0 l1 l2 l3 l4 l5 : Slot} {x y : Int32} (h1 : ¬ x < y → W5 rm 119 [l0, l1, l2, l3, l4, l5] S H Q) (h2 : x < y → W5 rm 41 [l0, l1, l2, l3, l4, l5] S H Q) : W5 rm 38 [l0, l1, l2, l3, l4, l5] (.int y :: .int x :: S) H Q := W.icmp d5_38 (by decide) (by decide) h1 h2
theorem d5_41 : decode prog_35_method_5_code 41 = .ok (.iconst 2, 1) := by decide +kernel
theorem s5_41 {rm : Room} {S : List Value} {H : AHeap} {Q : Option Value → AHeap → Prop} {l0 l1 l2 l3 l4 l5 : Slot}  (h : W5 rm 42 [l0, l1, l2, l3, l4, l5] (.int 2 :: S) (H) Q) : W5 rm 41 [l0, l1, l2, l3, l4, l5] (S) H Q := W.iconst' d5_41 (by decide) h
theorem d5_42 : decode prog_35_method_5_code 42 = .ok (.iload 4, 2) := by decide +kernel
theorem s5_42 {rm : Room} {S : List Value} {H : AHeap} {Q : Option Value → AHeap → Prop} {l0 l1 l2 l3 l5 : Slot} {x : Int32} (h : W5 rm 44 [l0, l1, l2, l3, .val (.int x), l5] (.int x :: S) (H) Q) : W5 rm 42 [l0, l1, l2, l3, .val (.int x), l5] (S) H Q := W.iload d5_42 rfl h
theorem d5_44 : decode prog_35_method_5_code 44 = .ok (.imul, 1) := by decide +kernel
theorem s5_44 {rm : Room} {S : List Value} {H : AHeap} {Q : Option Value → AHeap → Prop} {l0 l1 l2 l3 l4 l5 : Slot} {x y : Int32} (h : W5 rm 45 [l0, l1, l2, l3, l4, l5] (.int (x * y) :: S) (H) Q) : W5 rm 44 [l0, l1, l2, l3, l4, l5] (.int y :: .int x :: S) H Q := W.imul d5_44 h
theorem d5_45 : decode prog_35_method_5_code 45 = .ok (.iconst 1, 1) := by decide +kernel
theorem s5_45 {rm : Room} {S : List Value} {H : AHeap} {Q : Option Value → AHeap → Prop} {l0 l1 l2 l3 l4 l5 : Slot}  (h : W5 rm 46 [l0, l1, l2, l3, l4, l5] (.int 1 :: S) (H) Q) : W5 rm 45 [l0, l1, l2, l3, l4, l5] (S) H Q := W.iconst' d5_45 (by decide) h
theorem d5_46 : decode prog_35_method_5_code 46 = .ok (.iadd, 1) := by decide +kernel
theorem s5_46 {rm : Room} {S : List Value} {H : AHeap} {Q : Option Value → AHeap → Prop} {l0 l1 l2 l3 l4 l5 : Slot} {x y : Int32} (h : W5 rm 47 [l0, l1, l2, l3, l4, l5] (.int (x + y) :: S) (H) Q) : W5 rm 46 [l0, l1, l2, l3, l4, l5] (.int y :: .int x :: S) H Q := W.iadd d5_46 h
theorem d5_47 : decode prog_35_method_5_code 47 = .ok (.istore 5, 2) := by decide +kernel
theorem s5_47 {rm : Room} {S : List Value} {H : AHeap} {Q : Option Value → AHeap → Prop} {l0 l1 l2 l3 l4 l5 : Slot} {x : Int32} (ho : one l5 = true) (h : W5 rm 49 [l0, l1, l2, l3, l4, .val (.int x)] (S) (H) Q) : W5 rm 47 [l0, l1, l2, l3, l4, l5] (.int x :: S) H Q := W.istore d5_47 rfl ho h
theorem s5_47s {rm : Room} {S : List Value} {H : AHeap} {Q : Option Value → AHeap → Prop} {l0 l1 l2 l3 l4 : Slot} {x : Int32} (h : W5 rm 49 [l0, l1, l2, l3, .unset, .val (.int x)] (S) (H) Q) : W5 rm 47 [l0, l1, l2, l3, l4, .second] (.int x :: S) H Q := W.istoreS d5_47 rfl (by decide) h
theorem d5_49 : decode prog_35_method_5_code 49 = .ok (.iload 5, 2) := by decide +kernel
theorem s5_49 {rm : Room} {S : List Value} {H : AHeap} {Q : Option Value → AHeap → Prop} {l0 l1 l2 l3 l4 : Slot} {x : Int32} (h : W5 rm 51 [l0, l1, l2, l3, l4, .val (.int x)] (.int x :: S) (H) Q) : W5 rm 49 [l0, l1, l2, l3, l4, .val (.int x)] (S) H Q := W.iload d5_49 rfl h
theorem d5_51 : decode prog_35_method_5_code 51 = .ok (.iconst 1, 1) := by decide +kernel
theorem s5_51 {rm : Room} {S : List Value} {H : AHeap} {Q : Option Value → AHeap → Prop} {l0 l1 l2 l3 l4 l5 : Slot}  (h : W5 rm 52 [l0, l1, l2, l3, l4, l5] (.int 1 :: S) (H) Q) : W5 rm 51 [l0, l1, l2, l3, l4, l5] (S) H Q := W.iconst' d5_51 (by decide) h
theorem d5_52 : decode prog_35_method_5_code 52 = .ok (.iadd, 1) := by decide +kernel
theorem s5_52 {rm : Room} {S : List Value} {H : AHeap} {Q : Option Value → AHeap → Prop} {l0 l1 l2 l3 l4 l5 : Slot} {x y : Int32} (h : W5 rm 53 [l0, l1, l2, l3, l4, l5] (.int (x + y) :: S) (H) Q) : W5 rm 52 [l0, l1, l2, l3, l4, l5] (.int y :: .int x :: S) H Q := W.iadd d5_52 h
theorem d5_53 : decode prog_35_method_5_code 53 = .ok (.aload_n 0, 1) := by decide +kernel
theorem s5_53 {rm : Room} {S : List Value} {H : AHeap} {Q : Option Value → AHeap → Prop} {l1 l2 l3 l4 l5 : Slot} {i : Nat} (h : W5 rm 54 [.val (.ref i), l1, l2, l3, l4, l5] (.ref i :: S) (H) Q) : W5 rm 53 [.val (.ref i), l1, l2, l3, l4, l5] (S) H Q := W.aload_n d5_53 rfl rfl h
theorem s5_53n {rm : Room} {S : List Value} {H : AHeap} {Q : Option Value → AHeap → Prop} {l1 l2 l3 l4 l5 : Slot}  (h : W5 rm 54 [.val .null, l1, l2, l3, l4, l5] (.null :: S) (H) Q) : W5 rm 53 [.val .null, l1, l2, l3, l4, l5] (S) H Q := W.aload_n d5_53 rfl rfl h
theorem d5_54 : decode prog_35_method_5_code 54 = .ok (.getfield 13, 3) := by decide +kernel
theorem s5_54 {rm : Room} {S : List Value} {H : AHeap} {Q : Option Value → AHeap → Prop} {l0 l1 l2 l3 l4 l5 : Slot} {i : Nat} {f0 f1 : Value} (hH : H[i]? = some (.inl (0, [f0, f1]))) (h : W5 rm 57 [l0, l1, l2, l3, l4, l5] (f1 :: S) (H) Q) : W5 rm 54 [l0, l1, l2, l3, l4, l5] (.ref i :: S) H Q := W.getF (c := 0) (j := 1) d5_54 (host := "") (Or.inl (List.mem_of_getElem? (i := 17) rfl)) (Or.inl rfl) rfl rfl hH rfl h
theorem d5_57 : decode prog_35_method_5_code 57 = .ok (.if_icmp .ge 26, 3) := by decide +kernel
theorem s5_57 {rm : Room} {S : List Value} {H : AHeap} {Q : Option Value → AHeap → Prop} {l0 l1 l2 l3 l4 l5 : Slot} {x y : Int32} (h1 : ¬ x < y → W5 rm 83 [l0, l1, l2, l3, l4, l5] S H Q) (h2 : x < y → W5 rm 60 [l0, l1, l2, l3, l4, l5] S H Q) : W5 rm 57 [l0, l1, l2, l3, l4, l5] (.int y :: .int x :: S) H Q := W.icmp d5_57 (by decide) (by decide) h1 h2
theorem d5_60 : decode prog_35_method_5_code 60 = .ok (.aload_n 0, 1) := by decide +kernel
theorem s5_60 {rm : Room} {S : List Value} {H : AHeap} {Q : Option Value → AHeap → Prop} {l1 l2 l3 l4 l5 : Slot} {i : Nat} (h : W5 rm 61 [.val (.ref i), l1, l2, l3, l4, l5] (.ref i :: S) (H) Q) : W5 rm 60 [.val (.ref i), l1, l2, l3, l4, l5] (S) H Q := W.aload_n d5_60 rfl rfl h
theorem s5_60n {rm : Room} {S : List Value} {H : AHeap} {Q : Option Value → AHeap → Prop} {l1 l2 l3 l4 l5 : Slot}  (h : W5 rm 61 [.val .null, l1, l2, l3, l4, l5] (.null :: S) (H) Q) : W5 rm 60 [.val .null, l1, l2, l3, l4, l5] (S) H Q := W.aload_n d5_60 rfl rfl h
theorem d5_61 : decode prog_35_method_5_code 61 = .ok (.getfield 7, 3) := by decide +kernel
theorem s5_61 {rm : Room} {S : List Value} {H : AHeap} {Q : Option Value → AHeap → Prop} {l0 l1 l2 l3 l4 l5 : Slot} {i : Nat} {f0 f1 : Value} (hH : H[i]? = some (.inl (0, [f0, f1]))) (h : W5 rm 64 [l0, l1, l2, l3, l4, l5] (f0 :: S) (H) Q) : W5 rm 61 [l0, l1, l2, l3, l4, l5] (.ref i :: S) H Q := W.getF (c := 0) (j := 0) d5_61 (host := "") (Or.inl (List.mem_of_getElem? (i := 10) rfl)) (Or.inl rfl) rfl rfl hH rfl h
theorem d5_64 : decode prog_35_method_5_code 64 = .ok (.iload 5, 2) := by decide +kernel
theorem s5_64 {rm : Room} {S : List Value} {H : AHeap} {Q : Option Value → AHeap → Prop} {l0 l1 l2 l3 l4 : Slot} {x : Int32} (h : W5 rm 66 [l0, l1, l2, l3, l4, .val (.int x)] (.int x :: S) (H) Q) : W5 rm 64 [l0, l1, l2, l3, l4, .val (.int x)] (S) H Q := W.iload d5_64 rfl h
theorem d5_66 : decode prog_35_method_5_code 66 = .ok (.iconst 1, 1) := by decide +kernel
theorem s5_66 {rm : Room} {S : List Value} {H : AHeap} {Q : Option Value → AHeap → Prop} {l0 l1 l2 l3 l4 l5 : Slot}  (h : W5 rm 67 [l0, l1, l2, l3, l4, l5] (.int 1 :: S) (H) Q) : W5 rm 66 [l0, l1, l2, l3, l4, l5] (S) H Q := W.iconst' d5_66 (by decide) h
theorem d5_67 : decode prog_35_method_5_code 67 = .ok (.iadd, 1) := by decide +kernel
theorem s5_67 {rm : Room} {S : List Value} {H : AHeap} {Q : Option Value → AHeap → Prop} {l0 l1 l2 l3 l4 l5 : Slot} {x y : Int32} (h : W5 rm 68 [l0, l1, l2, l3, l4, l5] (.int (x + y) :: S) (H) Q) : W5 rm 67 [l0, l1, l2, l3, l4, l5] (.int y :: .int x :: S) H Q := W.iadd d5_67 h
theorem d5_68 : decode prog_35_method_5_code 68 = .ok (.laload, 1) := by decide +kernel
theorem s5_68 {rm : Room} {S : List Value} {H : AHeap} {Q : Option Value → AHeap → Prop} {l0 l1 l2 l3 l4 l5 : Slot} {i : Nat} {j : Int32} {vs : List Value} {v : Value} (N : Nat) (hH : H[i]? = some (.inr (.long, vs))) (hj : ix j N) (hv : vs[N]? = some v) (h : W5 rm 69 [l0, l1, l2, l3, l4, l5] (v :: S) (H) Q) : W5 rm 68 [l0, l1, l2, l3, l4, l5] (.int j :: .ref i :: S) H Q := W.xaload (Or.inr (Or.inl ⟨rfl, rfl⟩)) d5_68 hH hj hv h
theorem d5_69 : decode prog_35_method_5_code 69 = .ok (.aload_n 0, 1) := by decide +kernel
theorem s5_69 {rm : Room} {S : List Value} {H : AHeap} {Q : Option Value → AHeap → Prop} {l1 l2 l3 l4 l5 : Slot} {i : Nat} (h : W5 rm 70 [.val (.ref i), l1, l2, l3, l4, l5] (.ref i :: S) (H) Q) : W5 rm 69 [.val (.ref i), l1, l2, l3, l4, l5] (S) H Q := W.aload_n d5_69 rfl rfl h
theorem s5_69n {rm : Room} {S : List Value} {H : AHeap} {Q : Option Value → AHeap → Prop} {l1 l2 l3 l4 l5 : Slot}  (h : W5 rm 70 [.val .null, l1, l2, l3, l4, l5] (.null :: S) (H) Q) : W5 rm 69 [.val .null, l1, l2, l3, l4, l5] (S) H Q := W.aload_n d5_69 rfl rfl h
theorem d5_70 : decode prog_35_method_5_code 70 = .ok (.getfield 7, 3) := by decide +kernel
theorem s5_70 {rm : Room} {S : List Value} {H : AHeap} {Q : Option Value → AHeap → Prop} {l0 l1 l2 l3 l4 l5 : Slot} {i : Nat} {f0 f1 : Value} (hH : H[i]? = some (.inl (0, [f0, f1]))) (h : W5 rm 73 [l0, l1, l2, l3, l4, l5] (f0 :: S) (H) Q) : W5 rm 70 [l0, l1, l2, l3, l4, l5] (.ref i :: S) H Q := W.getF (c := 0) (j := 0) d5_70 (host := "") (Or.inl (List.mem_of_getElem? (i := 10) rfl)) (Or.inl rfl) rfl rfl hH rfl h
theorem d5_73 : decode prog_35_method_5_code 73 = .ok (.iload 5, 2) := by decide +kernel
theorem s5_73 {rm : Room} {S : List Value} {H : AHeap} {Q : Option Value → AHeap → Prop} {l0 l1 l2 l3 l4 : Slot} {x : Int32} (h : W5 rm 75 [l0, l1, l2, l3, l4, .val (.int x)] (.int x :: S) (H) Q) : W5 rm 73 [l0, l1, l2, l3, l4, .val (.int x)] (S) H Q := W.iload d5_73 rfl h
theorem d5_75 : decode prog_35_method_5_code 75 = .ok (.laload, 1) := by decide +kernel
theorem s5_75 {rm : Room} {S : List Value} {H : AHeap} {Q : Option Value → AHeap → Prop} {l0 l1 l2 l3 l4 l5 : Slot} {i : Nat} {j : Int32} {vs : List Value} {v : Value} (N : Nat) (hH : H[i]? = some (.inr (.long, vs))) (hj : ix j N) (hv : vs[N]? = some v) (h : W5 rm 76 [l0, l1, l2, l3, l4, l5] (v :: S) (H) Q) : W5 rm 75 [l0, l1, l2, l3, l4, l5] (.int j :: .ref i :: S) H Q := W.xaload (Or.inr (Or.inl ⟨rfl, rfl⟩)) d5_75 hH hj hv h
theorem d5_76 : decode prog_35_method_5_code 76 = .ok (.lcmp, 1) := by decide +kernel
theorem d5_77 : decode prog_35_method_5_code 77 = .ok (.ifCond .ge 6, 3) := by decide +kernel
theorem s5_77 {rm : Room} {S : List Value} {H : AHeap} {Q : Option Value → AHeap → Prop} {l0 l1 l2 l3 l4 l5 : Slot} {x : Int32} (h1 : ¬ x < 0 → W5 rm 83 [l0, l1, l2, l3, l4, l5] S H Q) (h2 : x < 0 → W5 rm 80 [l0, l1, l2, l3, l4, l5] S H Q) : W5 rm 77 [l0, l1, l2, l3, l4, l5] (.int x :: S) H Q := W.ifc d5_77 (by decide) (by decide) h1 h2
theorem s5_76c {rm : Room} {S : List Value} {H : AHeap} {Q : Option Value → AHeap → Prop} {l0 l1 l2 l3 l4 l5 : Slot} {x y : Int64} (h1 : ¬ x < y → W5 rm 83 [l0, l1, l2, l3, l4, l5] S H Q) (h2 : x < y → W5 rm 80 [l0, l1, l2, l3, l4, l5] S H Q) : W5 rm 76 [l0, l1, l2, l3, l4, l5] (.long y :: .long x :: S) H Q := W.lcif d5_76 rfl d5_77 (by decide) (by decide) h1 h2
theorem d5_80 : decode prog_35_method_5_code 80 = .ok (.iinc 5 1, 3) := by decide +kernel
theorem s5_80 {rm : Room} {S : List Value} {H : AHeap} {Q : Option Value → AHeap → Prop} {l0 l1 l2 l3 l4 : Slot} {x : Int32} (h : W5 rm 83 [l0, l1, l2, l3, l4, .val (.int (x + 1))] (S) (H) Q) : W5 rm 80 [l0, l1, l2, l3, l4, .val (.int x)] (S) H Q := W.iinc d5_80 (by decide) rfl h
theorem d5_83 : decode prog_35_method_5_code 83 = .ok (.aload_n 0, 1) := by decide +kernel
theorem s5_83 {rm : Room} {S : List Value} {H : AHeap} {Q : Option Value → AHeap → Prop} {l1 l2 l3 l4 l5 : Slot} {i : Nat} (h : W5 rm 84 [.val (.ref i), l1, l2, l3, l4, l5] (.ref i :: S) (H) Q) : W5 rm 83 [.val (.ref i), l1, l2, l3, l4, l5] (S) H Q := W.aload_n d5_83 rfl rfl h
theorem s5_83n {rm : Room} {S : List Value} {H : AHeap} {Q : Option Value → AHeap → Prop} {l1 l2 l3 l4 l5 : Slot}  (h : W5 rm 84 [.val .null, l1, l2, l3, l4, l5] (.null :: S) (H) Q) : W5 rm 83 [.val .null, l1, l2, l3, l4, l5] (S) H Q := W.aload_n d5_83 rfl rfl h
theorem d5_84 : decode prog_35_method_5_code 84 = .ok (.getfield 7, 3) := by decide +kernel
theorem s5_84 {rm : Room} {S : List Value} {H : AHeap} {Q : Option Value → AHeap → Prop} {l0 l1 l2 l3 l4 l5 : Slot} {i : Nat} {f0 f1 : Value} (hH : H[i]? = some (.inl (0, [f0, f1]))) (h : W5 rm 87 [l0, l1, l2, l3, l4, l5] (f0 :: S) (H) Q) : W5 rm 84 [l0, l1, l2, l3, l4, l5] (.ref i :: S) H Q := W.getF (c := 0) (j := 0) d5_84 (host := "") (Or.inl (List.mem_of_getElem? (i := 10) rfl)) (Or.inl rfl) rfl rfl hH rfl h
theorem d5_87 : decode prog_35_method_5_code 87 = .ok (.iload 5, 2) := by decide +kernel
theorem s5_87 {rm : Room} {S : List Value} {H : AHeap} {Q : Option Value → AHeap → Prop} {l0 l1 l2 l3 l4 : Slot} {x : Int32} (h : W5 rm 89 [l0, l1, l2, l3, l4, .val (.int x)] (.int x :: S) (H) Q) : W5 rm 87 [l0, l1, l2, l3, l4, .val (.int x)] (S) H Q := W.iload d5_87 rfl h
theorem d5_89 : decode prog_35_method_5_code 89 = .ok (.laload, 1) := by decide +kernel
theorem s5_89 {rm : Room} {S : List Value} {H : AHeap} {Q : Option Value → AHeap → Prop} {l0 l1 l2 l3 l4 l5 : Slot} {i : Nat} {j : Int32} {vs : List Value} {v : Value} (N : Nat) (hH : H[i]? = some (.inr (.long, vs))) (hj : ix j N) (hv : vs[N]? = some v) (h : W5 rm 90 [l0, l1, l2, l3, l4, l5] (v :: S) (H) Q) : W5 rm 89 [l0, l1, l2, l3, l4, l5] (.int j :: .ref i :: S) H Q := W.xaload (Or.inr (Or.inl ⟨rfl, rfl⟩)) d5_89 hH hj hv h
theorem d5_90 : decode prog_35_method_5_code 90 = .ok (.lload_n 2, 1) := by decide +kernel
theorem s5_90 {rm : Room} {S : List Value} {H : AHeap} {Q : Option Value → AHeap → Prop} {l0 l1 l3 l4 l5 : Slot} {x : Int64} (h : W5 rm 91 [l0, l1, .val (.long x), l3, l4, l5] (.long x :: S) (H) Q) : W5 rm 90 [l0, l1, .val (.long x), l3, l4, l5] (S) H Q := W.lload_n d5_90 rfl h
theorem d5_91 : decode prog_35_method_5_code 91 = .ok (.lcmp, 1) := by decide +kernel
theorem d5_92 : decode prog_35_method_5_code 92 = .ok (.ifCond .lt 6, 3) := by decide +kernel
theorem s5_92 {rm : Room} {S : List Value} {H : AHeap} {Q : Option Value → AHeap → Prop} {l0 l1 l2 l3 l4 l5 : Slot} {x : Int32} (h1 : x < 0 → W5 rm 98 [l0, l1, l2, l3, l4, l5] S H Q) (h2 : ¬ x < 0 → W5 rm 95 [l0, l1, l2, l3, l4, l5] S H Q) : W5 rm 92 [l0, l1, l2, l3, l4, l5] (.int x :: S) H Q := W.ifc d5_92 (by decide) (by decide) h1 h2
theorem s5_91c {rm : Room} {S : List Value} {H : AHeap} {Q : Option Value → AHeap → Prop} {l0 l1 l2 l3 l4 l5 : Slot} {x y : Int64} (h1 : x < y → W5 rm 98 [l0, l1, l2, l3, l4, l5] S H Q) (h2 : ¬ x < y → W5 rm 95 [l0, l1, l2, l3, l4, l5] S H Q) : W5 rm 91 [l0, l1, l2, l3, l4, l5] (.long y :: .long x :: S) H Q := W.lcif d5_91 rfl d5_92 (by decide) (by decide) h1 h2
theorem d5_95 : decode prog_35_method_5_code 95 = .ok (.goto 24, 3) := by decide +kernel
theorem s5_95 {rm : Room} {S : List Value} {H : AHeap} {Q : Option Value → AHeap → Prop} {l0 l1 l2 l3 l4 l5 : Slot}  (h : W5 rm 119 [l0, l1, l2, l3, l4, l5] (S) (H) Q) : W5 rm 95 [l0, l1, l2, l3, l4, l5] (S) H Q := W.goto d5_95 (by decide) (by decide) h
theorem d5_98 : decode prog_35_method_5_code 98 = .ok (.aload_n 0, 1) := by decide +kernel
theorem s5_98 {rm : Room} {S : List Value} {H : AHeap} {Q : Option Value → AHeap → Prop} {l1 l2 l3 l4 l5 : Slot} {i : Nat} (h : W5 rm 99 [.val (.ref i), l1, l2, l3, l4, l5] (.ref i :: S) (H) Q) : W5 rm 98 [.val (.ref i), l1, l2, l3, l4, l5] (S) H Q := W.aload_n d5_98 rfl rfl h
theorem s5_98n {rm : Room} {S : List Value} {H : AHeap} {Q : Option Value → AHeap → Prop} {l1 l2 l3 l4 l5 : Slot}  (h : W5 rm 99 [.val .null, l1, l2, l3, l4, l5] (.null :: S) (H) Q) : W5 rm 98 [.val .null, l1, l2, l3, l4, l5] (S) H Q := W.aload_n d5_98 rfl rfl h
theorem d5_99 : decode prog_35_method_5_code 99 = .ok (.getfield 7, 3) := by decide +kernel
theorem s5_99 {rm : Room} {S : List Value} {H : AHeap} {Q : Option Value → AHeap → Prop} {l0 l1 l2 l3 l4 l5 : Slot} {i : Nat} {f0 f1 : Value} (hH : H[i]? = some (.inl (0, [f0, f1]))) (h : W5 rm 102 [l0, l1, l2, l3, l4, l5] (f0 :: S) (H) Q) : W5 rm 99 [l0, l1, l2, l3, l4, l5] (.ref i :: S) H Q := W.getF (c := 0) (j := 0) d5_99 (host := "") (Or.inl (List.mem_of_getElem? (i := 10) rfl)) (Or.inl rfl) rfl rfl hH rfl h
theorem d5_102 : decode prog_35_method_5_code 102 = .ok (.iload 4, 2) := by decide +kernel
theorem s5_102 {rm : Room} {S : List Value} {H : AHeap} {Q : Option Value → AHeap → Prop} {l0 l1 l2 l3 l5 : Slot} {x : Int32} (h : W5 rm 104 [l0, l1, l2, l3, .val (.int x), l5] (.int x :: S) (H) Q) : W5 rm 102 [l0, l1, l2, l3, .val (.int x), l5] (S) H Q := W.iload d5_102 rfl h
theorem d5_104 : decode prog_35_method_5_code 104 = .ok (.aload_n 0, 1) := by decide +kernel
theorem s5_104 {rm : Room} {S : List Value} {H : AHeap} {Q : Option Value → AHeap → Prop} {l1 l2 l3 l4 l5 : Slot} {i : Nat} (h : W5 rm 105 [.val (.ref i), l1, l2, l3, l4, l5] (.ref i :: S) (H) Q) : W5 rm 104 [.val (.ref i), l1, l2, l3, l4, l5] (S) H Q := W.aload_n d5_104 rfl rfl h
theorem s5_104n {rm : Room} {S : List Value} {H : AHeap} {Q : Option Value → AHeap → Prop} {l1 l2 l3 l4 l5 : Slot}  (h : W5 rm 105 [.val .null, l1, l2, l3, l4, l5] (.null :: S) (H) Q) : W5 rm 104 [.val .null, l1, l2, l3, l4, l5] (S) H Q := W.aload_n d5_104 rfl rfl h
theorem d5_105 : decode prog_35_method_5_code 105 = .ok (.getfield 7, 3) := by decide +kernel
theorem s5_105 {rm : Room} {S : List Value} {H : AHeap} {Q : Option Value → AHeap → Prop} {l0 l1 l2 l3 l4 l5 : Slot} {i : Nat} {f0 f1 : Value} (hH : H[i]? = some (.inl (0, [f0, f1]))) (h : W5 rm 108 [l0, l1, l2, l3, l4, l5] (f0 :: S) (H) Q) : W5 rm 105 [l0, l1, l2, l3, l4, l5] (.ref i :: S) H Q := W.getF (c := 0) (j := 0) d5_105 (host := "") (Or.inl (List.mem_of_getElem? (i := 10) rfl)) (Or.inl rfl) rfl rfl hH rfl h
theorem d5_108 : decode prog_35_method_5_code 108 = .ok (.iload 5, 2) := by decide +kernel
theorem s5_108 {rm : Room} {S : List Value} {H : AHeap} {Q : Option Value → AHeap → Prop} {l0 l1 l2 l3 l4 : Slot} {x : Int32} (h : W5 rm 110 [l0, l1, l2, l3, l4, .val (.int x)] (.int x :: S) (H) Q) : W5 rm 108 [l0, l1, l2, l3, l4, .val (.int x)] (S) H Q := W.iload d5_108 rfl h
theorem d5_110 : decode prog_35_method_5_code 110 = .ok (.laload, 1) := by decide +kernel
theorem s5_110 {rm : Room} {S : List Value} {H : AHeap} {Q : Option Value → AHeap → Prop} {l0 l1 l2 l3 l4 l5 : Slot} {i : Nat} {j : Int32} {vs : List Value} {v : Value} (N : Nat) (hH : H[i]? = some (.inr (.long, vs))) (hj : ix j N) (hv : vs[N]? = some v) (h : W5 rm 111 [l0, l1, l2, l3, l4, l5] (v :: S) (H) Q) : W5 rm 110 [l0, l1, l2, l3, l4, l5] (.int j :: .ref i :: S) H Q := W.xaload (Or.inr (Or.inl ⟨rfl, rfl⟩)) d5_110 hH hj hv h
theorem d5_111 : decode prog_35_method_5_code 111 = .ok (.lastore, 1) := by decide +kernel
theorem s5_111 {rm : Room} {S : List Value} {H : AHeap} {Q : Option Value → AHeap → Prop} {l0 l1 l2 l3 l4 l5 : Slot} {i : Nat} {j : Int32} {x : Int64} {vs : List Value} (N : Nat) (hH : H[i]? = some (.inr (.long, vs))) (hj : ix j N) (hl : Nat.blt N vs.length = true) (h : W5 rm 112 [l0, l1, l2, l3, l4, l5] (S) (H.set i (.inr (.long, vs.set N (.long x)))) Q) : W5 rm 111 [l0, l1, l2, l3, l4, l5] (.long x :: .int j :: .ref i :: S) H Q := W.lastore d5_111 hH hj hl h
theorem d5_112 : decode prog_35_method_5_code 112 = .ok (.iload 5, 2) := by decide +kernel
theorem s5_112 {rm : Room} {S : List Value} {H : AHeap} {Q : Option Value → AHeap → Prop} {l0 l1 l2 l3 l4 : Slot} {x : Int32} (h : W5 rm 114 [l0, l1, l2, l3, l4, .val (.int x)] (.int x :: S) (H) Q) : W5 rm 112 [l0, l1, l2, l3, l4, .val (.int x)] (S) H Q := W.iload d5_112 rfl h
theorem d5_114 : decode prog_35_method_5_code 114 = .ok (.istore 4, 2) := by decide +kernel
theorem s5_114 {rm : Room} {S : List Value} {H : AHeap} {Q : Option Value → AHeap → Prop} {l0 l1 l2 l3 l4 l5 : Slot} {x : Int32} (ho : one l4 = true) (h : W5 rm 116 [l0, l1, l2, l3, .val (.int x), l5] (S) (H) Q) : W5 rm 114 [l0, l1, l2, l3, l4, l5] (.int x :: S) H Q := W.istore d5_114 rfl ho h
theorem s5_114w {rm : Room} {S : List Value} {H : AHeap} {Q : Option Value → AHeap → Prop} {l0 l1 l2 l3 l5 : Slot} {w : Value} {x : Int32} (ho : w.category = 2) (h : W5 rm 116 [l0, l1, l2, l3, .val (.int x), .unset] (S) (H) Q) : W5 rm 114 [l0, l1, l2, l3, .val w, l5] (.int x :: S) H Q := W.istoreW d5_114 rfl ho (Nat.le_of_ble_eq_true rfl) h
theorem s5_114s {rm : Room} {S : List Value} {H : AHeap} {Q : Option Value → AHeap → Prop} {l0 l1 l2 l3 l5 : Slot} {x : Int32} (h : W5 rm 116 [l0, l1, l2, .unset, .val (.int x), l5] (S) (H) Q) : W5 rm 114 [l0, l1, l2, l3, .second, l5] (.int x :: S) H Q := W.istoreS d5_114 rfl (by decide) h
theorem d5_116 : decode prog_35_method_5_code 116 = .ok (.goto (-88), 3) := by decide +kernel
theorem s5_116 {rm : Room} {S : List Value} {H : AHeap} {Q : Option Value → AHeap → Prop} {l0 l1 l2 l3 l4 l5 : Slot}  (h : W5 rm 28 [l0, l1, l2, l3, l4, l5] (S) (H) Q) : W5 rm 116 [l0, l1, l2, l3, l4, l5] (S) H Q := W.goto d5_116 (by decide) (by decide) h
theorem d5_119 : decode prog_35_method_5_code 119 = .ok (.aload_n 0, 1) := by decide +kernel
theorem s5_119 {rm : Room} {S : List Value} {H : AHeap} {Q : Option Value → AHeap → Prop} {l1 l2 l3 l4 l5 : Slot} {i : Nat} (h : W5 rm 120 [.val (.ref i), l1, l2, l3, l4, l5] (.ref i :: S) (H) Q) : W5 rm 119 [.val (.ref i), l1, l2, l3, l4, l5] (S) H Q := W.aload_n d5_119 rfl rfl h
theorem s5_119n {rm : Room} {S : List Value} {H : AHeap} {Q : Option Value → AHeap → Prop} {l1 l2 l3 l4 l5 : Slot}  (h : W5 rm 120 [.val .null, l1, l2, l3, l4, l5] (.null :: S) (H) Q) : W5 rm 119 [.val .null, l1, l2, l3, l4, l5] (S) H Q := W.aload_n d5_119 rfl rfl h
theorem d5_120 : decode prog_35_method_5_code 120 = .ok (.getfield 7, 3) := by decide +kernel
theorem s5_120 {rm : Room} {S : List Value} {H : AHeap} {Q : Option Value → AHeap → Prop} {l0 l1 l2 l3 l4 l5 : Slot} {i : Nat} {f0 f1 : Value} (hH : H[i]? = some (.inl (0, [f0, f1]))) (h : W5 rm 123 [l0, l1, l2, l3, l4, l5] (f0 :: S) (H) Q) : W5 rm 120 [l0, l1, l2, l3, l4, l5] (.ref i :: S) H Q := W.getF (c := 0) (j := 0) d5_120 (host := "") (Or.inl (List.mem_of_getElem? (i := 10) rfl)) (Or.inl rfl) rfl rfl hH rfl h
theorem d5_123 : decode prog_35_method_5_code 123 = .ok (.iload 4, 2) := by decide +kernel
theorem s5_123 {rm : Room} {S : List Value} {H : AHeap} {Q : Option Value → AHeap → Prop} {l0 l1 l2 l3 l5 : Slot} {x : Int32} (h : W5 rm 125 [l0, l1, l2, l3, .val (.int x), l5] (.int x :: S) (H) Q) : W5 rm 123 [l0, l1, l2, l3, .val (.int x), l5] (S) H Q := W.iload d5_123 rfl h
theorem d5_125 : decode prog_35_method_5_code 125 = .ok (.lload_n 2, 1) := by decide +kernel
theorem s5_125 {rm : Room} {S : List Value} {H : AHeap} {Q : Option Value → AHeap → Prop} {l0 l1 l3 l4 l5 : Slot} {x : Int64} (h : W5 rm 126 [l0, l1, .val (.long x), l3, l4, l5] (.long x :: S) (H) Q) : W5 rm 125 [l0, l1, .val (.long x), l3, l4, l5] (S) H Q := W.lload_n d5_125 rfl h
theorem d5_126 : decode prog_35_method_5_code 126 = .ok (.lastore, 1) := by decide +kernel
theorem s5_126 {rm : Room} {S : List Value} {H : AHeap} {Q : Option Value → AHeap → Prop} {l0 l1 l2 l3 l4 l5 : Slot} {i : Nat} {j : Int32} {x : Int64} {vs : List Value} (N : Nat) (hH : H[i]? = some (.inr (.long, vs))) (hj : ix j N) (hl : Nat.blt N vs.length = true) (h : W5 rm 127 [l0, l1, l2, l3, l4, l5] (S) (H.set i (.inr (.long, vs.set N (.long x)))) Q) : W5 rm 126 [l0, l1, l2, l3, l4, l5] (.long x :: .int j :: .ref i :: S) H Q := W.lastore d5_126 hH hj hl h
theorem d5_127 : decode prog_35_method_5_code 127 = .ok (.iload_n 1, 1) := by decide +kernel
theorem s5_127 {rm : Room} {S : List Value} {H : AHeap} {Q : Option Value → AHeap → Prop} {l0 l2 l3 l4 l5 : Slot} {x : Int32} (h : W5 rm 128 [l0, .val (.int x), l2, l3, l4, l5] (.int x :: S) (H) Q) : W5 rm 127 [l0, .val (.int x), l2, l3, l4, l5] (S) H Q := W.iload_n d5_127 rfl h
theorem d5_128 : decode prog_35_method_5_code 128 = .ok (.ireturn, 1) := by decide +kernel
theorem s5_128 {rm : Room} {S : List Value} {H : AHeap} {Q : Option Value → AHeap → Prop} {l0 l1 l2 l3 l4 l5 : Slot} {x : Int32} (hQ : Q (some (.int x)) H) : W5 rm 128 [l0, l1, l2, l3, l4, l5] (.int x :: S) H Q := W.ireturn d5_128 rfl hQ
theorem e6 {rm : Room} {H : AHeap} {Q : Option Value → AHeap → Prop} {a0 : Nat} (h : W6 rm 0 [.val (.ref a0)] [] H Q) : M6 rm [.ref a0] H Q := M.of pf6 rfl rfl h
theorem e6L {rm : Room} {H : AHeap} {Q : Option Value → AHeap → Prop} {L : List Slot} {as : List Value} (h : W6 rm 0 L [] H Q) (hl : ent as ++ List.replicate (1 - (ent as).length) .unset = L := by rfl) (hn : L.length = 1 := by rfl) : M6 rm as H Q := M.of pf6 hl hn h
theorem d6_0 : decode prog_35_method_6_code 0 = .ok (.aload_n 0, 1) := by decide +kernel
theorem s6_0 {rm : Room} {S : List Value} {H : AHeap} {Q : Option Value → AHeap → Prop} {i : Nat} (h : W6 rm 1 [.val (.ref i)] (.ref i :: S) (H) Q) : W6 rm 0 [.val (.ref i)] (S) H Q := W.aload_n d6_0 rfl rfl h
theorem s6_0n {rm : Room} {S : List Value} {H : AHeap} {Q : Option Value → AHeap → Prop}  (h : W6 rm 1 [.val .null] (.null :: S) (H) Q) : W6 rm 0 [.val .null] (S) H Q := W.aload_n d6_0 rfl rfl h
theorem d6_1 : decode prog_35_method_6_code 1 = .ok (.iconst 0, 1) := by decide +kernel
theorem s6_1 {rm : Room} {S : List Value} {H : AHeap} {Q : Option Value → AHeap → Prop} {l0 : Slot}  (h : W6 rm 2 [l0] (.int 0 :: S) (H) Q) : W6 rm 1 [l0] (S) H Q := W.iconst' d6_1 (by decide) h
theorem d6_2 : decode prog_35_method_6_code 2 = .ok (.putfield 13, 3) := by decide +kernel
theorem s6_2 {rm : Room} {S : List Value} {H : AHeap} {Q : Option Value → AHeap → Prop} {l0 : Slot} {i : Nat} {f0 f1 : Value} {x : Int32} (hH : H[i]? = some (.inl (0, [f0, f1]))) (h : W6 rm 5 [l0] (S) (H.set i (.inl (0, [f0, .int x]))) Q) : W6 rm 2 [l0] (.int x :: .ref i :: S) H Q := W.putF (c := 0) (j := 1) kt d6_2 (host := "") (Or.inl (List.mem_of_getElem? (i := 17) rfl)) (Or.inl rfl) rfl rfl (Or.inl (List.mem_of_getElem? (i := 18) rfl)) rfl rfl hH h
theorem d6_5 : decode prog_35_method_6_code 5 = .ok (.return_, 1) := by decide +kernel
theorem s6_5 {rm : Room} {H : AHeap} {Q : Option Value → AHeap → Prop} {l0 : Slot} (hQ : Q none H) : W6 rm 5 [l0] [] H Q := W.ret_ d6_5 rfl hQ
theorem b0_41 {rm : Room} {S : List Value} {H : AHeap} {Q : Option Value → AHeap → Prop} {l0 l1 l2 l3 l4 l5 l6 l7 l8 l9 l10 : Slot} {x : Int32} (h : ∀ t : Int32, ((¬ x = 0) ∧ t = 1) ∨ ((x = 0) ∧ t = 0) → W0 rm 49 [l0, l1, l2, l3, l4, l5, l6, l7, l8, l9, l10] (.int t :: S) H Q) : W0 rm 41 [l0, l1, l2, l3, l4, l5, l6, l7, l8, l9, l10] (.int x :: S) H Q := s0_41 (fun q => s0_48 (h 0 (Or.inr ⟨q, rfl⟩))) (fun q => s0_44 (s0_45 (h 1 (Or.inl ⟨q, rfl⟩))))
theorem b0_124 {rm : Room} {S : List Value} {H : AHeap} {Q : Option Value → AHeap → Prop} {l0 l1 l2 l3 l4 l5 l6 l7 l8 l9 l10 : Slot} {x : Int32} (h : ∀ t : Int32, ((x = 0) ∧ t = 1) ∨ ((¬ x = 0) ∧ t = 0) → W0 rm 132 [l0, l1, l2, l3, l4, l5, l6, l7, l8, l9, l10] (.int t :: S) H Q) : W0 rm 124 [l0, l1, l2, l3, l4, l5, l6, l7, l8, l9, l10] (.int x :: S) H Q := s0_124 (fun q => s0_131 (h 0 (Or.inr ⟨q, rfl⟩))) (fun q => s0_127 (s0_128 (h 1 (Or.inl ⟨q, rfl⟩))))
theorem b0_132 {rm : Room} {S : List Value} {H : AHeap} {Q : Option Value → AHeap → Prop} {l0 l1 l2 l3 l4 l5 l6 l7 l8 l9 l10 : Slot} {x y : Int32} (h : ∀ t : Int32, ((x = y) ∧ t = 1) ∨ ((¬ x = y) ∧ t = 0) → W0 rm 140 [l0, l1, l2, l3, l4, l5, l6, l7, l8, l9, l10] (.int t :: S) H Q) : W0 rm 132 [l0, l1, l2, l3, l4, l5, l6, l7, l8, l9, l10] (.int y :: .int x :: S) H Q := s0_132 (fun q => s0_139 (h 0 (Or.inr ⟨q, rfl⟩))) (fun q => s0_135 (s0_136 (h 1 (Or.inl ⟨q, rfl⟩))))
theorem b0_193 {rm : Room} {S : List Value} {H : AHeap} {Q : Option Value → AHeap → Prop} {l0 l1 l2 l3 l4 l5 l6 l7 l8 l9 l10 : Slot} {x : Int32} (h : ∀ t : Int32, ((x = 0) ∧ t = 1) ∨ ((¬ x = 0) ∧ t = 0) → W0 rm 201 [l0, l1, l2, l3, l4, l5, l6, l7, l8, l9, l10] (.int t :: S) H Q) : W0 rm 193 [l0, l1, l2, l3, l4, l5, l6, l7, l8, l9, l10] (.int x :: S) H Q := s0_193 (fun q => s0_200 (h 0 (Or.inr ⟨q, rfl⟩))) (fun q => s0_196 (s0_197 (h 1 (Or.inl ⟨q, rfl⟩))))
theorem b0_201 {rm : Room} {S : List Value} {H : AHeap} {Q : Option Value → AHeap → Prop} {l0 l1 l2 l3 l4 l5 l6 l7 l8 l9 l10 : Slot} {x y : Int32} (h : ∀ t : Int32, ((x = y) ∧ t = 1) ∨ ((¬ x = y) ∧ t = 0) → W0 rm 209 [l0, l1, l2, l3, l4, l5, l6, l7, l8, l9, l10] (.int t :: S) H Q) : W0 rm 201 [l0, l1, l2, l3, l4, l5, l6, l7, l8, l9, l10] (.int y :: .int x :: S) H Q := s0_201 (fun q => s0_208 (h 0 (Or.inr ⟨q, rfl⟩))) (fun q => s0_204 (s0_205 (h 1 (Or.inl ⟨q, rfl⟩))))
theorem b0_231 {rm : Room} {S : List Value} {H : AHeap} {Q : Option Value → AHeap → Prop} {l0 l1 l2 l3 l4 l5 l6 l7 l8 l9 l10 : Slot} {x : Int32} (h : ∀ t : Int32, ((¬ x = 0) ∧ t = 1) ∨ ((x = 0) ∧ t = 0) → W0 rm 239 [l0, l1, l2, l3, l4, l5, l6, l7, l8, l9, l10] (.int t :: S) H Q) : W0 rm 231 [l0, l1, l2, l3, l4, l5, l6, l7, l8, l9, l10] (.int x :: S) H Q := s0_231 (fun q => s0_238 (h 0 (Or.inr ⟨q, rfl⟩))) (fun q => s0_234 (s0_235 (h 1 (Or.inl ⟨q, rfl⟩))))
theorem b2_4 {rm : Room} {S : List Value} {H : AHeap} {Q : Option Value → AHeap → Prop} {l0 : Slot} {x : Int32} (h : ∀ t : Int32, ((x = 0) ∧ t = 1) ∨ ((¬ x = 0) ∧ t = 0) → W2 rm 12 [l0] (.int t :: S) H Q) : W2 rm 4 [l0] (.int x :: S) H Q := s2_4 (fun q => s2_11 (h 0 (Or.inr ⟨q, rfl⟩))) (fun q => s2_7 (s2_8 (h 1 (Or.inl ⟨q, rfl⟩))))
abbrev own_v (x0 x1 x2 x3 x4 : Int64) : List Value := [.long x0, .long x1, .long x2, .long x3, .long x4, .long 0, .long 0, .long 0, .long 0, .long 0, .long 0, .long 0, .long 0, .long 0, .long 0, .long 0]
abbrev own_q (n : Int32) (x0 x1 x2 x3 x4 : Int64) : AHeap := [(.inl (0, [.ref 1, .int n]) : ACell), .inr (.long, own_v x0 x1 x2 x3 x4)]
/-- the first n of them are a heap -/
def own_Hp (n : Nat) (x0 x1 x2 x3 x4 : Int64) : Prop := (1 < n → x0 ≤ x1) ∧ (2 < n → x0 ≤ x2) ∧ (3 < n → x1 ≤ x3) ∧ (4 < n → x1 ≤ x4)
/-- the first n of them -/
def own_L (n : Nat) (x0 x1 x2 x3 x4 : Int64) : List Int64 := [x0, x1, x2, x3, x4].take n
def own_e (st sv : Int32) : Int64 := st.toInt64 <<< ((32 : Int32).toInt64 &&& 63) ||| sv.toInt64
set_option maxHeartbeats 4000000 in
theorem own_add0 (st sv : Int32) (x0 x1 x2 x3 x4 : Int64) (hp : own_Hp 0 x0 x1 x2 x3 x4) : M4 ⟨0, 0, 0, 0⟩ [.ref 0, .int st, .int sv] (own_q 0 x0 x1 x2 x3 x4) (fun v H' => v = none ∧ ∃ y0 y1 y2 y3 y4, H' = own_q 1 y0 y1 y2 y3 y4 ∧ own_Hp 1 y0 y1 y2 y3 y4 ∧ (own_L 1 y0 y1 y2 y3 y4).Perm (own_e st sv :: own_L 0 x0 x1 x2 x3 x4)) := by
  refine e4 ?_
  refine s4_0 ?_
  refine s4_1 rfl ?_
  refine s4_4 ?_
  refine s4_5 rfl ?_
  refine s4_8k 16 rfl rfl ?_
  refine s4_9 (fun _ => ?_) (fun h => absurd h (by decide))
  refine s4_29 ?_
  refine s4_30 ?_
  refine s4_31 ?_
  refine s4_33 ?_
  refine s4_34 ?_
  refine s4_35 ?_
  refine s4_36 ?_
  show W4 _ _ _ [.long (own_e st sv)] _ _
  generalize own_e st sv = e
  refine s4_37 rfl ?_
  refine s4_38 ?_
  refine s4_39 rfl ?_
  refine s4_40 rfl ?_
  refine s4_43 rfl rfl ?_
  refine s4_44 ?_
  refine s4_45 ?_
  refine s4_46 rfl ?_
  refine s4_49 rfl ?_
  refine s4_51 ?_
  refine s4_53 (fun _ => ?_) (fun h => absurd h (by decide))
  refine s4_101 ?_
  refine s4_102 rfl ?_
  refine s4_105 ?_
  refine s4_107 ?_
  refine s4_108 0 rfl (by decide) rfl ?_
  exact s4_109 ⟨rfl, _, _, _, _, _, rfl, (by simp only [own_Hp] at *; simp only [Int64.le_iff_toInt_le, Int64.lt_iff_toInt_lt] at * <;> omega), (by simp only [own_L, List.take, List.perm_iff_count]; intro z; simp only [List.count_cons, List.count_nil] <;> omega)⟩
set_option maxHeartbeats 4000000 in
theorem own_add1 (st sv : Int32) (x0 x1 x2 x3 x4 : Int64) (hp : own_Hp 1 x0 x1 x2 x3 x4) : M4 ⟨0, 0, 0, 0⟩ [.ref 0, .int st, .int sv] (own_q 1 x0 x1 x2 x3 x4) (fun v H' => v = none ∧ ∃ y0 y1 y2 y3 y4, H' = own_q 2 y0 y1 y2 y3 y4 ∧ own_Hp 2 y0 y1 y2 y3 y4 ∧ (own_L 2 y0 y1 y2 y3 y4).Perm (own_e st sv :: own_L 1 x0 x1 x2 x3 x4)) := by
  refine e4 ?_
  refine s4_0 ?_
  refine s4_1 rfl ?_
  refine s4_4 ?_
  refine s4_5 rfl ?_
  refine s4_8k 16 rfl rfl ?_
  refine s4_9 (fun _ => ?_) (fun h => absurd h (by decide))
  refine s4_29 ?_
  refine s4_30 ?_
  refine s4_31 ?_
  refine s4_33 ?_
  refine s4_34 ?_
  refine s4_35 ?_
  refine s4_36 ?_
  show W4 _ _ _ [.long (own_e st sv)] _ _
  generalize own_e st sv = e
  refine s4_37 rfl ?_
  refine s4_38 ?_
  refine s4_39 rfl ?_
  refine s4_40 rfl ?_
  refine s4_43 rfl rfl ?_
  refine s4_44 ?_
  refine s4_45 ?_
  refine s4_46 rfl ?_
  refine s4_49 rfl ?_
  refine s4_51 ?_
  refine s4_53 (fun h => absurd h (by decide)) (fun _ => ?_)
  refine s4_56 ?_
  refine s4_57 rfl ?_
  refine s4_60 ?_
  refine s4_62 ?_
  refine s4_63 ?_
  refine s4_64 ?_
  refine s4_65 (by decide) ?_
  refine s4_66 0 rfl (by decide) rfl ?_
  refine s4_67 ?_
  refine s4_68c (fun h0 => ?_) (fun h0 => ?_)
  · refine s4_101 ?_
    refine s4_102 rfl ?_
    refine s4_105 ?_
    refine s4_107 ?_
    refine s4_108 1 rfl (by decide) rfl ?_
    exact s4_109 ⟨rfl, _, _, _, _, _, rfl, (by simp only [own_Hp] at *; simp only [Int64.le_iff_toInt_le, Int64.lt_iff_toInt_lt] at * <;> omega), (by simp only [own_L, List.take, List.perm_iff_count]; intro z; simp only [List.count_cons, List.count_nil] <;> omega)⟩
  · refine s4_72 ?_
    refine s4_73 rfl ?_
    refine s4_76 ?_
    refine s4_78 ?_
    refine s4_79 rfl ?_
    refine s4_82 ?_
    refine s4_84 ?_
    refine s4_85 ?_
    refine s4_86 ?_
    refine s4_87 (by decide) ?_
    refine s4_88 0 rfl (by decide) rfl ?_
    refine s4_89 1 rfl (by decide) rfl ?_
    refine s4_90 ?_
    refine s4_92 ?_
    refine s4_93 ?_
    refine s4_94 ?_
    refine s4_95 (by decide) ?_
    refine s4_96 rfl ?_
    refine s4_98 ?_
    refine s4_51 ?_
    refine s4_53 (fun _ => ?_) (fun h => absurd h (by decide))
    refine s4_101 ?_
    refine s4_102 rfl ?_
    refine s4_105 ?_
    refine s4_107 ?_
    refine s4_108 0 rfl (by decide) rfl ?_
    exact s4_109 ⟨rfl, _, _, _, _, _, rfl, (by simp only [own_Hp] at *; simp only [Int64.le_iff_toInt_le, Int64.lt_iff_toInt_lt] at * <;> omega), (by simp only [own_L, List.take, List.perm_iff_count]; intro z; simp only [List.count_cons, List.count_nil] <;> omega)⟩
set_option maxHeartbeats 4000000 in
theorem own_add2 (st sv : Int32) (x0 x1 x2 x3 x4 : Int64) (hp : own_Hp 2 x0 x1 x2 x3 x4) : M4 ⟨0, 0, 0, 0⟩ [.ref 0, .int st, .int sv] (own_q 2 x0 x1 x2 x3 x4) (fun v H' => v = none ∧ ∃ y0 y1 y2 y3 y4, H' = own_q 3 y0 y1 y2 y3 y4 ∧ own_Hp 3 y0 y1 y2 y3 y4 ∧ (own_L 3 y0 y1 y2 y3 y4).Perm (own_e st sv :: own_L 2 x0 x1 x2 x3 x4)) := by
  refine e4 ?_
  refine s4_0 ?_
  refine s4_1 rfl ?_
  refine s4_4 ?_
  refine s4_5 rfl ?_
  refine s4_8k 16 rfl rfl ?_
  refine s4_9 (fun _ => ?_) (fun h => absurd h (by decide))
  refine s4_29 ?_
  refine s4_30 ?_
  refine s4_31 ?_
  refine s4_33 ?_
  refine s4_34 ?_
  refine s4_35 ?_
  refine s4_36 ?_
  show W4 _ _ _ [.long (own_e st sv)] _ _
  generalize own_e st sv = e
  refine s4_37 rfl ?_
  refine s4_38 ?_
  refine s4_39 rfl ?_
  refine s4_40 rfl ?_
  refine s4_43 rfl rfl ?_
  refine s4_44 ?_
  refine s4_45 ?_
  refine s4_46 rfl ?_
  refine s4_49 rfl ?_
  refine s4_51 ?_
  refine s4_53 (fun h => absurd h (by decide)) (fun _ => ?_)
  refine s4_56 ?_
  refine s4_57 rfl ?_
  refine s4_60 ?_
  refine s4_62 ?_
  refine s4_63 ?_
  refine s4_64 ?_
  refine s4_65 (by decide) ?_
  refine s4_66 0 rfl (by decide) rfl ?_
  refine s4_67 ?_
  refine s4_68c (fun h0 => ?_) (fun h0 => ?_)
  · refine s4_101 ?_
    refine s4_102 rfl ?_
    refine s4_105 ?_
    refine s4_107 ?_
    refine s4_108 2 rfl (by decide) rfl ?_
    exact s4_109 ⟨rfl, _, _, _, _, _, rfl, (by simp only [own_Hp] at *; simp only [Int64.le_iff_toInt_le, Int64.lt_iff_toInt_lt] at * <;> omega), (by simp only [own_L, List.take, List.perm_iff_count]; intro z; simp only [List.count_cons, List.count_nil] <;> omega)⟩
  · refine s4_72 ?_
    refine s4_73 rfl ?_
    refine s4_76 ?_
    refine s4_78 ?_
    refine s4_79 rfl ?_
    refine s4_82 ?_
    refine s4_84 ?_
    refine s4_85 ?_
    refine s4_86 ?_
    refine s4_87 (by decide) ?_
    refine s4_88 0 rfl (by decide) rfl ?_
    refine s4_89 2 rfl (by decide) rfl ?_
    refine s4_90 ?_
    refine s4_92 ?_
    refine s4_93 ?_
    refine s4_94 ?_
    refine s4_95 (by decide) ?_
    refine s4_96 rfl ?_
    refine s4_98 ?_
    refine s4_51 ?_
    refine s4_53 (fun _ => ?_) (fun h => absurd h (by decide))
    refine s4_101 ?_
    refine s4_102 rfl ?_
    refine s4_105 ?_
    refine s4_107 ?_
    refine s4_108 0 rfl (by decide) rfl ?_
    exact s4_109 ⟨rfl, _, _, _, _, _, rfl, (by simp only [own_Hp] at *; simp only [Int64.le_iff_toInt_le, Int64.lt_iff_toInt_lt] at * <;> omega), (by simp only [own_L, List.take, List.perm_iff_count]; intro z; simp only [List.count_cons, List.count_nil] <;> omega)⟩
set_option maxHeartbeats 4000000 in
theorem own_poll1 (x0 x1 x2 x3 x4 : Int64) (hp : own_Hp 1 x0 x1 x2 x3 x4) : M5 ⟨0, 0, 0, 0⟩ [.ref 0] (own_q 1 x0 x1 x2 x3 x4) (fun v H' => v = some (.int x0.toInt32) ∧ ∃ y0 y1 y2 y3 y4, H' = own_q 0 y0 y1 y2 y3 y4 ∧ own_Hp 0 y0 y1 y2 y3 y4 ∧ (x0 :: own_L 0 y0 y1 y2 y3 y4).Perm (own_L 1 x0 x1 x2 x3 x4)) := by
  refine e5 ?_
  refine s5_0 ?_
  refine s5_1 rfl ?_
  refine s5_4 ?_
  refine s5_5 0 rfl (by decide) rfl ?_
  refine s5_6 ?_
  refine s5_7 rfl ?_
  refine s5_8 ?_
  refine s5_9 rfl ?_
  refine s5_12 ?_
  refine s5_13 rfl ?_
  refine s5_14 rfl ?_
  refine s5_17 ?_
  refine s5_18 ?_
  refine s5_19 rfl rfl ?_
  refine s5_20 rfl ?_
  refine s5_23 0 rfl (by decide) rfl ?_
  refine s5_24 rfl ?_
  refine s5_25 ?_
  refine s5_26 rfl ?_
  refine s5_28 ?_
  refine s5_29 ?_
  refine s5_31 ?_
  refine s5_32 ?_
  refine s5_33 ?_
  refine s5_34 ?_
  refine s5_35 rfl ?_
  refine s5_38 (fun _ => ?_) (fun h => absurd h (by decide))
  refine s5_119 ?_
  refine s5_120 rfl ?_
  refine s5_123 ?_
  refine s5_125 ?_
  refine s5_126 0 rfl (by decide) rfl ?_
  refine s5_127 ?_
  exact s5_128 ⟨rfl, _, _, _, _, _, rfl, (by simp only [own_Hp] at *; simp only [Int64.le_iff_toInt_le, Int64.lt_iff_toInt_lt] at * <;> omega), (by simp only [own_L, List.take, List.perm_iff_count]; intro z; simp only [List.count_cons, List.count_nil] <;> omega)⟩
set_option maxHeartbeats 4000000 in
theorem own_poll2 (x0 x1 x2 x3 x4 : Int64) (hp : own_Hp 2 x0 x1 x2 x3 x4) : M5 ⟨0, 0, 0, 0⟩ [.ref 0] (own_q 2 x0 x1 x2 x3 x4) (fun v H' => v = some (.int x0.toInt32) ∧ ∃ y0 y1 y2 y3 y4, H' = own_q 1 y0 y1 y2 y3 y4 ∧ own_Hp 1 y0 y1 y2 y3 y4 ∧ (x0 :: own_L 1 y0 y1 y2 y3 y4).Perm (own_L 2 x0 x1 x2 x3 x4)) := by
  refine e5 ?_
  refine s5_0 ?_
  refine s5_1 rfl ?_
  refine s5_4 ?_
  refine s5_5 0 rfl (by decide) rfl ?_
  refine s5_6 ?_
  refine s5_7 rfl ?_
  refine s5_8 ?_
  refine s5_9 rfl ?_
  refine s5_12 ?_
  refine s5_13 rfl ?_
  refine s5_14 rfl ?_
  refine s5_17 ?_
  refine s5_18 ?_
  refine s5_19 rfl rfl ?_
  refine s5_20 rfl ?_
  refine s5_23 1 rfl (by decide) rfl ?_
  refine s5_24 rfl ?_
  refine s5_25 ?_
  refine s5_26 rfl ?_
  refine s5_28 ?_
  refine s5_29 ?_
  refine s5_31 ?_
  refine s5_32 ?_
  refine s5_33 ?_
  refine s5_34 ?_
  refine s5_35 rfl ?_
  refine s5_38 (fun _ => ?_) (fun h => absurd h (by decide))
  refine s5_119 ?_
  refine s5_120 rfl ?_
  refine s5_123 ?_
  refine s5_125 ?_
  refine s5_126 0 rfl (by decide) rfl ?_
  refine s5_127 ?_
  exact s5_128 ⟨rfl, _, _, _, _, _, rfl, (by simp only [own_Hp] at *; simp only [Int64.le_iff_toInt_le, Int64.lt_iff_toInt_lt] at * <;> omega), (by simp only [own_L, List.take, List.perm_iff_count]; intro z; simp only [List.count_cons, List.count_nil] <;> omega)⟩
set_option maxHeartbeats 4000000 in
theorem own_poll3 (x0 x1 x2 x3 x4 : Int64) (hp : own_Hp 3 x0 x1 x2 x3 x4) : M5 ⟨0, 0, 0, 0⟩ [.ref 0] (own_q 3 x0 x1 x2 x3 x4) (fun v H' => v = some (.int x0.toInt32) ∧ ∃ y0 y1 y2 y3 y4, H' = own_q 2 y0 y1 y2 y3 y4 ∧ own_Hp 2 y0 y1 y2 y3 y4 ∧ (x0 :: own_L 2 y0 y1 y2 y3 y4).Perm (own_L 3 x0 x1 x2 x3 x4)) := by
  refine e5 ?_
  refine s5_0 ?_
  refine s5_1 rfl ?_
  refine s5_4 ?_
  refine s5_5 0 rfl (by decide) rfl ?_
  refine s5_6 ?_
  refine s5_7 rfl ?_
  refine s5_8 ?_
  refine s5_9 rfl ?_
  refine s5_12 ?_
  refine s5_13 rfl ?_
  refine s5_14 rfl ?_
  refine s5_17 ?_
  refine s5_18 ?_
  refine s5_19 rfl rfl ?_
  refine s5_20 rfl ?_
  refine s5_23 2 rfl (by decide) rfl ?_
  refine s5_24 rfl ?_
  refine s5_25 ?_
  refine s5_26 rfl ?_
  refine s5_28 ?_
  refine s5_29 ?_
  refine s5_31 ?_
  refine s5_32 ?_
  refine s5_33 ?_
  refine s5_34 ?_
  refine s5_35 rfl ?_
  refine s5_38 (fun h => absurd h (by decide)) (fun _ => ?_)
  refine s5_41 ?_
  refine s5_42 ?_
  refine s5_44 ?_
  refine s5_45 ?_
  refine s5_46 ?_
  refine s5_47 rfl ?_
  refine s5_49 ?_
  refine s5_51 ?_
  refine s5_52 ?_
  refine s5_53 ?_
  refine s5_54 rfl ?_
  refine s5_57 (fun _ => ?_) (fun h => absurd h (by decide))
  refine s5_83 ?_
  refine s5_84 rfl ?_
  refine s5_87 ?_
  refine s5_89 1 rfl (by decide) rfl ?_
  refine s5_90 ?_
  refine s5_91c (fun h0 => ?_) (fun h0 => ?_)
  · refine s5_98 ?_
    refine s5_99 rfl ?_
    refine s5_102 ?_
    refine s5_104 ?_
    refine s5_105 rfl ?_
    refine s5_108 ?_
    refine s5_110 1 rfl (by decide) rfl ?_
    refine s5_111 0 rfl (by decide) rfl ?_
    refine s5_112 ?_
    refine s5_114 rfl ?_
    refine s5_116 ?_
    refine s5_28 ?_
    refine s5_29 ?_
    refine s5_31 ?_
    refine s5_32 ?_
    refine s5_33 ?_
    refine s5_34 ?_
    refine s5_35 rfl ?_
    refine s5_38 (fun _ => ?_) (fun h => absurd h (by decide))
    refine s5_119 ?_
    refine s5_120 rfl ?_
    refine s5_123 ?_
    refine s5_125 ?_
    refine s5_126 1 rfl (by decide) rfl ?_
    refine s5_127 ?_
    exact s5_128 ⟨rfl, _, _, _, _, _, rfl, (by simp only [own_Hp] at *; simp only [Int64.le_iff_toInt_le, Int64.lt_iff_toInt_lt] at * <;> omega), (by simp only [own_L, List.take, List.perm_iff_count]; intro z; simp only [List.count_cons, List.count_nil] <;> omega)⟩
  · refine s5_95 ?_
    refine s5_119 ?_
    refine s5_120 rfl ?_
    refine s5_123 ?_
    refine s5_125 ?_
    refine s5_126 0 rfl (by decide) rfl ?_
    refine s5_127 ?_
    exact s5_128 ⟨rfl, _, _, _, _, _, rfl, (by simp only [own_Hp] at *; simp only [Int64.le_iff_toInt_le, Int64.lt_iff_toInt_lt] at * <;> omega), (by simp only [own_L, List.take, List.perm_iff_count]; intro z; simp only [List.count_cons, List.count_nil] <;> omega)⟩
theorem own_hp0 : own_Hp 0 0 0 0 0 0 := by simp [own_Hp]
theorem own_emp0 (x0 x1 x2 x3 x4 : Int64) : M2 ⟨0, 0, 0, 0⟩ [.ref 0] (own_q 0 x0 x1 x2 x3 x4) (Is (some (.int 1)) (own_q 0 x0 x1 x2 x3 x4)) := by
  refine e2 ?_
  exact s2_0 (s2_1 rfl (s2_4 (fun h => absurd rfl h) (fun _ => s2_7 (s2_8 (s2_12 ⟨rfl, rfl⟩)))))
theorem own_empS (x0 x1 x2 x3 x4 : Int64) (n : Int32) (hn : ¬ n = 0) : M2 ⟨0, 0, 0, 0⟩ [.ref 0] (own_q n x0 x1 x2 x3 x4) (Is (some (.int 0)) (own_q n x0 x1 x2 x3 x4)) := by
  refine e2 ?_
  exact s2_0 (s2_1 rfl (s2_4 (fun _ => s2_11 (s2_12 ⟨rfl, rfl⟩)) (fun h => absurd h hn)))
theorem own_clr (x0 x1 x2 x3 x4 : Int64) (n : Int32) : M6 ⟨0, 0, 0, 0⟩ [.ref 0] (own_q n x0 x1 x2 x3 x4) (Is none (own_q 0 x0 x1 x2 x3 x4)) := by
  refine e6 ?_
  refine s6_0 ?_
  refine s6_1 ?_
  refine s6_2 rfl ?_
  exact s6_5 ⟨rfl, rfl⟩
theorem own_init : M1 ⟨1, 1, 16, 12⟩ [.ref 0] [(.inl (0, [.null, .int 0]) : ACell)] (Is none (own_q 0 0 0 0 0 0)) := by
  refine e1 ?_
  refine s1_0 ?_
  refine s1_1 rfl ?_
  refine s1_4 ?_
  refine s1_5 ?_
  refine s1_7 1 16 (by decide) rfl rfl ?_
  refine s1_9 rfl ?_
  exact s1_12 ⟨rfl, rfl⟩
def own_min (a b : Int32) : Int32 := if b < a then b else a
theorem own_minM (a b : Int32) (H : AHeap) : M3 ⟨0, 0, 0, 0⟩ [.int a, .int b] H (Is (some (.int (own_min a b))) H) := by
  refine e3 ?_
  refine s3_0 (s3_1 (s3_2 (fun h => s3_9 (s3_10 ⟨?_, rfl⟩)) (fun h => s3_5 (s3_6 (s3_10 ⟨?_, rfl⟩)))))
  · rw [own_min, if_pos h]
  · rw [own_min, if_neg h]
theorem own_bits (x : Int32) : x &&& 3 = 0 ∨ x &&& 3 = 1 ∨ x &&& 3 = 2 ∨ x &&& 3 = 3 := by
  have e : (x &&& 3).toInt = x.toInt % 2 ^ 2 := Jvm.Kit.i32_mask x 3 (k := 2) (by decide) (by decide)
  simp only [← Int32.toInt_inj, e, Int32.reduceToInt]
  omega
set_option maxHeartbeats 4000000 in
theorem own_c000 (a b c d ops : Int32) : W0 ⟨5, 14, 110, 112⟩ 55 [.val (.int a), .val (.int b), .val (.int c), .val (.int d), .val (.int ops), .val (.ref 0), .val (.int 1), .val (.int 0), .val (.int 0), .val (.int 0), .val (.int 2147483647)] [] (own_q 0 0 0 0 0 0) (fun r _ => r = some (.int 1)) := by
  refine s0_55 ?_
  refine s0_57 ?_
  refine s0_58 (fun _ => ?_) (fun h => absurd h (by decide))
  refine s0_74 ?_
  refine s0_76 ?_
  refine s0_77 (fun _ => ?_) (fun h => absurd h (by decide))
  refine s0_93 ?_
  refine s0_95 ?_
  refine s0_96 (fun _ => ?_) (fun h => absurd h (by decide))
  refine s0_112 ?_
  refine s0_114 (fun h => absurd h (by decide)) (fun _ => ?_)
  refine s0_117 ?_
  refine s0_119 rfl (own_emp0 _ _ _ _ _ ) rfl ?_
  refine s0_122 ?_
  refine s0_124 (fun h => absurd h (by decide)) (fun _ => ?_)
  refine s0_127 ?_
  refine s0_128 ?_
  refine s0_132 (fun h => absurd h (by decide)) (fun _ => ?_)
  refine s0_135 ?_
  refine s0_136 ?_
  refine s0_140 rfl ?_
  refine s0_142 ?_
  refine s0_144 ?_
  refine s0_145 (fun _ => ?_) (fun h => absurd h (by decide))
  refine s0_154 ?_
  refine s0_156 ?_
  refine s0_157 (fun _ => ?_) (fun h => absurd h (by decide))
  refine s0_166 ?_
  refine s0_168 ?_
  refine s0_169 (fun _ => ?_) (fun h => absurd h (by decide))
  refine s0_178 ?_
  refine s0_180 (fun h => absurd h (by decide)) (fun _ => ?_)
  refine s0_183 ?_
  refine s0_185 rfl (own_emp0 _ _ _ _ _ ) rfl ?_
  refine s0_188 ?_
  refine s0_190 ?_
  refine s0_192 ?_
  refine s0_193 (fun h => absurd h (by decide)) (fun _ => ?_)
  refine s0_196 ?_
  refine s0_197 ?_
  refine s0_201 (fun h => absurd h (by decide)) (fun _ => ?_)
  refine s0_204 ?_
  refine s0_205 ?_
  refine s0_209 rfl ?_
  refine s0_211 ?_
  refine s0_213 (fun _ => ?_) (fun h => absurd h (by decide))
  refine s0_241 ?_
  exact s0_243 rfl
set_option maxHeartbeats 4000000 in
theorem own_c001 (a b c d ops : Int32) : W0 ⟨5, 14, 110, 112⟩ 55 [.val (.int a), .val (.int b), .val (.int c), .val (.int d), .val (.int ops), .val (.ref 0), .val (.int 1), .val (.int 0), .val (.int 0), .val (.int 1), .val (.int 2147483647)] [] (own_q 0 0 0 0 0 0) (fun r _ => r = some (.int 1)) := by
  refine s0_55 ?_
  refine s0_57 ?_
  refine s0_58 (fun _ => ?_) (fun h => absurd h (by decide))
  refine s0_74 ?_
  refine s0_76 ?_
  refine s0_77 (fun _ => ?_) (fun h => absurd h (by decide))
  refine s0_93 ?_
  refine s0_95 ?_
  refine s0_96 (fun _ => ?_) (fun h => absurd h (by decide))
  refine s0_112 ?_
  refine s0_114 (fun h => absurd h (by decide)) (fun _ => ?_)
  refine s0_117 ?_
  refine s0_119 rfl (own_emp0 _ _ _ _ _ ) rfl ?_
  refine s0_122 ?_
  refine s0_124 (fun h => absurd h (by decide)) (fun _ => ?_)
  refine s0_127 ?_
  refine s0_128 ?_
  refine s0_132 (fun h => absurd h (by decide)) (fun _ => ?_)
  refine s0_135 ?_
  refine s0_136 ?_
  refine s0_140 rfl ?_
  refine s0_142 ?_
  refine s0_144 ?_
  refine s0_145 (fun _ => ?_) (fun h => absurd h (by decide))
  refine s0_154 ?_
  refine s0_156 ?_
  refine s0_157 (fun _ => ?_) (fun h => absurd h (by decide))
  refine s0_166 ?_
  refine s0_168 ?_
  refine s0_169 (fun _ => ?_) (fun h => absurd h (by decide))
  refine s0_178 ?_
  refine s0_180 (fun h => absurd h (by decide)) (fun _ => ?_)
  refine s0_183 ?_
  refine s0_185 rfl (own_emp0 _ _ _ _ _ ) rfl ?_
  refine s0_188 ?_
  refine s0_190 ?_
  refine s0_192 ?_
  refine s0_193 (fun h => absurd h (by decide)) (fun _ => ?_)
  refine s0_196 ?_
  refine s0_197 ?_
  refine s0_201 (fun h => absurd h (by decide)) (fun _ => ?_)
  refine s0_204 ?_
  refine s0_205 ?_
  refine s0_209 rfl ?_
  refine s0_211 ?_
  refine s0_213 (fun h => absurd h (by decide)) (fun _ => ?_)
  refine s0_216 ?_
  refine s0_218 rfl (own_clr _ _ _ _ _ _ ) rfl ?_
  refine s0_221 ?_
  refine s0_223 (fun h => absurd h (by decide)) (fun _ => ?_)
  refine s0_226 ?_
  refine s0_228 rfl (own_emp0 _ _ _ _ _ ) rfl ?_
  refine s0_231 (fun h => absurd h (by decide)) (fun _ => ?_)
  refine s0_234 ?_
  refine s0_235 ?_
  refine s0_239 rfl ?_
  refine s0_241 ?_
  exact s0_243 rfl
set_option maxHeartbeats 4000000 in
theorem own_c100 (a b c d ops : Int32) : W0 ⟨5, 14, 110, 112⟩ 55 [.val (.int a), .val (.int b), .val (.int c), .val (.int d), .val (.int ops), .val (.ref 0), .val (.int 1), .val (.int 1), .val (.int 0), .val (.int 0), .val (.int 2147483647)] [] (own_q 0 0 0 0 0 0) (fun r _ => r = some (.int 1)) := by
  refine s0_55 ?_
  refine s0_57 ?_
  refine s0_58 (fun h => absurd h (by decide)) (fun _ => ?_)
  refine s0_61 ?_
  refine s0_63 ?_
  refine s0_64 ?_
  refine s0_66 ?_
  refine s0_67 ?_
  refine s0_68 ?_
  refine s0_70 ?_
  refine s0_71q rfl (own_add0 _ _ _ _ _ _ _  own_hp0) rfl (fun v H' q => ?_)
  obtain ⟨rfl, y0_0, y0_1, y0_2, y0_3, y0_4, rfl, hp0, pm0⟩ := q
  refine s0_74 ?_
  refine s0_76 ?_
  refine s0_77 (fun _ => ?_) (fun h => absurd h (by decide))
  refine s0_93 ?_
  refine s0_95 ?_
  refine s0_96 (fun _ => ?_) (fun h => absurd h (by decide))
  refine s0_112 ?_
  refine s0_114 (fun h => absurd h (by decide)) (fun _ => ?_)
  refine s0_117 ?_
  refine s0_119 rfl (own_empS _ _ _ _ _ _ (by decide)) rfl ?_
  refine s0_122 ?_
  refine s0_124 (fun _ => ?_) (fun h => absurd h (by decide))
  refine s0_131 ?_
  refine s0_132 (fun h => absurd h (by decide)) (fun _ => ?_)
  refine s0_135 ?_
  refine s0_136 ?_
  refine s0_140 rfl ?_
  refine s0_142 ?_
  refine s0_144 ?_
  refine s0_145 (fun _ => ?_) (fun h => absurd h (by decide))
  refine s0_154 ?_
  refine s0_156 ?_
  refine s0_157 (fun _ => ?_) (fun h => absurd h (by decide))
  refine s0_166 ?_
  refine s0_168 ?_
  refine s0_169 (fun _ => ?_) (fun h => absurd h (by decide))
  refine s0_178 ?_
  refine s0_180 (fun h => absurd h (by decide)) (fun _ => ?_)
  refine s0_183 ?_
  refine s0_185 rfl (own_empS _ _ _ _ _ _ (by decide)) rfl ?_
  refine s0_188 ?_
  refine s0_190 ?_
  refine s0_192 ?_
  refine s0_193 (fun _ => ?_) (fun h => absurd h (by decide))
  refine s0_200 ?_
  refine s0_201 (fun h => absurd h (by decide)) (fun _ => ?_)
  refine s0_204 ?_
  refine s0_205 ?_
  refine s0_209 rfl ?_
  refine s0_211 ?_
  refine s0_213 (fun _ => ?_) (fun h => absurd h (by decide))
  refine s0_241 ?_
  exact s0_243 rfl
set_option maxHeartbeats 4000000 in
theorem own_c101 (a b c d ops : Int32) : W0 ⟨5, 14, 110, 112⟩ 55 [.val (.int a), .val (.int b), .val (.int c), .val (.int d), .val (.int ops), .val (.ref 0), .val (.int 1), .val (.int 1), .val (.int 0), .val (.int 1), .val (.int 2147483647)] [] (own_q 0 0 0 0 0 0) (fun r _ => r = some (.int 1)) := by
  refine s0_55 ?_
  refine s0_57 ?_
  refine s0_58 (fun h => absurd h (by decide)) (fun _ => ?_)
  refine s0_61 ?_
  refine s0_63 ?_
  refine s0_64 ?_
  refine s0_66 ?_
  refine s0_67 ?_
  refine s0_68 ?_
  refine s0_70 ?_
  refine s0_71q rfl (own_add0 _ _ _ _ _ _ _  own_hp0) rfl (fun v H' q => ?_)
  obtain ⟨rfl, y0_0, y0_1, y0_2, y0_3, y0_4, rfl, hp0, pm0⟩ := q
  refine s0_74 ?_
  refine s0_76 ?_
  refine s0_77 (fun _ => ?_) (fun h => absurd h (by decide))
  refine s0_93 ?_
  refine s0_95 ?_
  refine s0_96 (fun _ => ?_) (fun h => absurd h (by decide))
  refine s0_112 ?_
  refine s0_114 (fun h => absurd h (by decide)) (fun _ => ?_)
  refine s0_117 ?_
  refine s0_119 rfl (own_empS _ _ _ _ _ _ (by decide)) rfl ?_
  refine s0_122 ?_
  refine s0_124 (fun _ => ?_) (fun h => absurd h (by decide))
  refine s0_131 ?_
  refine s0_132 (fun h => absurd h (by decide)) (fun _ => ?_)
  refine s0_135 ?_
  refine s0_136 ?_
  refine s0_140 rfl ?_
  refine s0_142 ?_
  refine s0_144 ?_
  refine s0_145 (fun _ => ?_) (fun h => absurd h (by decide))
  refine s0_154 ?_
  refine s0_156 ?_
  refine s0_157 (fun _ => ?_) (fun h => absurd h (by decide))
  refine s0_166 ?_
  refine s0_168 ?_
  refine s0_169 (fun _ => ?_) (fun h => absurd h (by decide))
  refine s0_178 ?_
  refine s0_180 (fun h => absurd h (by decide)) (fun _ => ?_)
  refine s0_183 ?_
  refine s0_185 rfl (own_empS _ _ _ _ _ _ (by decide)) rfl ?_
  refine s0_188 ?_
  refine s0_190 ?_
  refine s0_192 ?_
  refine s0_193 (fun _ => ?_) (fun h => absurd h (by decide))
  refine s0_200 ?_
  refine s0_201 (fun h => absurd h (by decide)) (fun _ => ?_)
  refine s0_204 ?_
  refine s0_205 ?_
  refine s0_209 rfl ?_
  refine s0_211 ?_
  refine s0_213 (fun h => absurd h (by decide)) (fun _ => ?_)
  refine s0_216 ?_
  refine s0_218 rfl (own_clr _ _ _ _ _ _ ) rfl ?_
  refine s0_221 ?_
  refine s0_223 (fun h => absurd h (by decide)) (fun _ => ?_)
  refine s0_226 ?_
  refine s0_228 rfl (own_emp0 _ _ _ _ _ ) rfl ?_
  refine s0_231 (fun h => absurd h (by decide)) (fun _ => ?_)
  refine s0_234 ?_
  refine s0_235 ?_
  refine s0_239 rfl ?_
  refine s0_241 ?_
  exact s0_243 rfl
set_option maxHeartbeats 4000000 in
theorem own_c110 (a b c d ops : Int32) : W0 ⟨5, 14, 110, 112⟩ 55 [.val (.int a), .val (.int b), .val (.int c), .val (.int d), .val (.int ops), .val (.ref 0), .val (.int 1), .val (.int 1), .val (.int 1), .val (.int 0), .val (.int 2147483647)] [] (own_q 0 0 0 0 0 0) (fun r _ => r = some (.int 1)) := by
  refine s0_55 ?_
  refine s0_57 ?_
  refine s0_58 (fun h => absurd h (by decide)) (fun _ => ?_)
  refine s0_61 ?_
  refine s0_63 ?_
  refine s0_64 ?_
  refine s0_66 ?_
  refine s0_67 ?_
  refine s0_68 ?_
  refine s0_70 ?_
  refine s0_71q rfl (own_add0 _ _ _ _ _ _ _  own_hp0) rfl (fun v H' q => ?_)
  obtain ⟨rfl, y0_0, y0_1, y0_2, y0_3, y0_4, rfl, hp0, pm0⟩ := q
  refine s0_74 ?_
  refine s0_76 ?_
  refine s0_77 (fun _ => ?_) (fun h => absurd h (by decide))
  refine s0_93 ?_
  refine s0_95 ?_
  refine s0_96 (fun _ => ?_) (fun h => absurd h (by decide))
  refine s0_112 ?_
  refine s0_114 (fun h => absurd h (by decide)) (fun _ => ?_)
  refine s0_117 ?_
  refine s0_119 rfl (own_empS _ _ _ _ _ _ (by decide)) rfl ?_
  refine s0_122 ?_
  refine s0_124 (fun _ => ?_) (fun h => absurd h (by decide))
  refine s0_131 ?_
  refine s0_132 (fun h => absurd h (by decide)) (fun _ => ?_)
  refine s0_135 ?_
  refine s0_136 ?_
  refine s0_140 rfl ?_
  refine s0_142 ?_
  refine s0_144 ?_
  refine s0_145 (fun h => absurd h (by decide)) (fun _ => ?_)
  refine s0_148 ?_
  refine s0_150q rfl (own_poll1 _ _ _ _ _  hp0) rfl (fun v H' q => ?_)
  obtain ⟨rfl, y1_0, y1_1, y1_2, y1_3, y1_4, rfl, hp1, pm1⟩ := q
  refine s0_153 rfl ?_
  refine s0_154 ?_
  refine s0_156 ?_
  refine s0_157 (fun _ => ?_) (fun h => absurd h (by decide))
  refine s0_166 ?_
  refine s0_168 ?_
  refine s0_169 (fun _ => ?_) (fun h => absurd h (by decide))
  refine s0_178 ?_
  refine s0_180 (fun h => absurd h (by decide)) (fun _ => ?_)
  refine s0_183 ?_
  refine s0_185 rfl (own_emp0 _ _ _ _ _ ) rfl ?_
  refine s0_188 ?_
  refine s0_190 ?_
  refine s0_192 ?_
  refine s0_193 (fun h => absurd h (by decide)) (fun _ => ?_)
  refine s0_196 ?_
  refine s0_197 ?_
  refine s0_201 (fun h => absurd h (by decide)) (fun _ => ?_)
  refine s0_204 ?_
  refine s0_205 ?_
  refine s0_209 rfl ?_
  refine s0_211 ?_
  refine s0_213 (fun _ => ?_) (fun h => absurd h (by decide))
  refine s0_241 ?_
  exact s0_243 rfl
set_option maxHeartbeats 4000000 in
theorem own_c111 (a b c d ops : Int32) : W0 ⟨5, 14, 110, 112⟩ 55 [.val (.int a), .val (.int b), .val (.int c), .val (.int d), .val (.int ops), .val (.ref 0), .val (.int 1), .val (.int 1), .val (.int 1), .val (.int 1), .val (.int 2147483647)] [] (own_q 0 0 0 0 0 0) (fun r _ => r = some (.int 1)) := by
  refine s0_55 ?_
  refine s0_57 ?_
  refine s0_58 (fun h => absurd h (by decide)) (fun _ => ?_)
  refine s0_61 ?_
  refine s0_63 ?_
  refine s0_64 ?_
  refine s0_66 ?_
  refine s0_67 ?_
  refine s0_68 ?_
  refine s0_70 ?_
  refine s0_71q rfl (own_add0 _ _ _ _ _ _ _  own_hp0) rfl (fun v H' q => ?_)
  obtain ⟨rfl, y0_0, y0_1, y0_2, y0_3, y0_4, rfl, hp0, pm0⟩ := q
  refine s0_74 ?_
  refine s0_76 ?_
  refine s0_77 (fun _ => ?_) (fun h => absurd h (by decide))
  refine s0_93 ?_
  refine s0_95 ?_
  refine s0_96 (fun _ => ?_) (fun h => absurd h (by decide))
  refine s0_112 ?_
  refine s0_114 (fun h => absurd h (by decide)) (fun _ => ?_)
  refine s0_117 ?_
  refine s0_119 rfl (own_empS _ _ _ _ _ _ (by decide)) rfl ?_
  refine s0_122 ?_
  refine s0_124 (fun _ => ?_) (fun h => absurd h (by decide))
  refine s0_131 ?_
  refine s0_132 (fun h => absurd h (by decide)) (fun _ => ?_)
  refine s0_135 ?_
  refine s0_136 ?_
  refine s0_140 rfl ?_
  refine s0_142 ?_
  refine s0_144 ?_
  refine s0_145 (fun h => absurd h (by decide)) (fun _ => ?_)
  refine s0_148 ?_
  refine s0_150q rfl (own_poll1 _ _ _ _ _  hp0) rfl (fun v H' q => ?_)
  obtain ⟨rfl, y1_0, y1_1, y1_2, y1_3, y1_4, rfl, hp1, pm1⟩ := q
  refine s0_153 rfl ?_
  refine s0_154 ?_
  refine s0_156 ?_
  refine s0_157 (fun _ => ?_) (fun h => absurd h (by decide))
  refine s0_166 ?_
  refine s0_168 ?_
  refine s0_169 (fun _ => ?_) (fun h => absurd h (by decide))
  refine s0_178 ?_
  refine s0_180 (fun h => absurd h (by decide)) (fun _ => ?_)
  refine s0_183 ?_
  refine s0_185 rfl (own_emp0 _ _ _ _ _ ) rfl ?_
  refine s0_188 ?_
  refine s0_190 ?_
  refine s0_192 ?_
  refine s0_193 (fun h => absurd h (by decide)) (fun _ => ?_)
  refine s0_196 ?_
  refine s0_197 ?_
  refine s0_201 (fun h => absurd h (by decide)) (fun _ => ?_)
  refine s0_204 ?_
  refine s0_205 ?_
  refine s0_209 rfl ?_
  refine s0_211 ?_
  refine s0_213 (fun h => absurd h (by decide)) (fun _ => ?_)
  refine s0_216 ?_
  refine s0_218 rfl (own_clr _ _ _ _ _ _ ) rfl ?_
  refine s0_221 ?_
  refine s0_223 (fun h => absurd h (by decide)) (fun _ => ?_)
  refine s0_226 ?_
  refine s0_228 rfl (own_emp0 _ _ _ _ _ ) rfl ?_
  refine s0_231 (fun h => absurd h (by decide)) (fun _ => ?_)
  refine s0_234 ?_
  refine s0_235 ?_
  refine s0_239 rfl ?_
  refine s0_241 ?_
  exact s0_243 rfl
set_option maxHeartbeats 4000000 in
theorem own_c200 (a b c d ops : Int32) : W0 ⟨5, 14, 110, 112⟩ 55 [.val (.int a), .val (.int b), .val (.int c), .val (.int d), .val (.int ops), .val (.ref 0), .val (.int 1), .val (.int 2), .val (.int 0), .val (.int 0), .val (.int 2147483647)] [] (own_q 0 0 0 0 0 0) (fun r _ => r = some (.int 1)) := by
  refine s0_55 ?_
  refine s0_57 ?_
  refine s0_58 (fun h => absurd h (by decide)) (fun _ => ?_)
  refine s0_61 ?_
  refine s0_63 ?_
  refine s0_64 ?_
  refine s0_66 ?_
  refine s0_67 ?_
  refine s0_68 ?_
  refine s0_70 ?_
  refine s0_71q rfl (own_add0 _ _ _ _ _ _ _  own_hp0) rfl (fun v H' q => ?_)
  obtain ⟨rfl, y0_0, y0_1, y0_2, y0_3, y0_4, rfl, hp0, pm0⟩ := q
  refine s0_74 ?_
  refine s0_76 ?_
  refine s0_77 (fun h => absurd h (by decide)) (fun _ => ?_)
  refine s0_80 ?_
  refine s0_82 ?_
  refine s0_83 ?_
  refine s0_85 ?_
  refine s0_86 ?_
  refine s0_87 ?_
  refine s0_89 ?_
  refine s0_90q rfl (own_add1 _ _ _ _ _ _ _  hp0) rfl (fun v H' q => ?_)
  obtain ⟨rfl, y1_0, y1_1, y1_2, y1_3, y1_4, rfl, hp1, pm1⟩ := q
  refine s0_93 ?_
  refine s0_95 ?_
  refine s0_96 (fun _ => ?_) (fun h => absurd h (by decide))
  refine s0_112 ?_
  refine s0_114 (fun h => absurd h (by decide)) (fun _ => ?_)
  refine s0_117 ?_
  refine s0_119 rfl (own_empS _ _ _ _ _ _ (by decide)) rfl ?_
  refine s0_122 ?_
  refine s0_124 (fun _ => ?_) (fun h => absurd h (by decide))
  refine s0_131 ?_
  refine s0_132 (fun h => absurd h (by decide)) (fun _ => ?_)
  refine s0_135 ?_
  refine s0_136 ?_
  refine s0_140 rfl ?_
  refine s0_142 ?_
  refine s0_144 ?_
  refine s0_145 (fun _ => ?_) (fun h => absurd h (by decide))
  refine s0_154 ?_
  refine s0_156 ?_
  refine s0_157 (fun _ => ?_) (fun h => absurd h (by decide))
  refine s0_166 ?_
  refine s0_168 ?_
  refine s0_169 (fun _ => ?_) (fun h => absurd h (by decide))
  refine s0_178 ?_
  refine s0_180 (fun h => absurd h (by decide)) (fun _ => ?_)
  refine s0_183 ?_
  refine s0_185 rfl (own_empS _ _ _ _ _ _ (by decide)) rfl ?_
  refine s0_188 ?_
  refine s0_190 ?_
  refine s0_192 ?_
  refine s0_193 (fun _ => ?_) (fun h => absurd h (by decide))
  refine s0_200 ?_
  refine s0_201 (fun h => absurd h (by decide)) (fun _ => ?_)
  refine s0_204 ?_
  refine s0_205 ?_
  refine s0_209 rfl ?_
  refine s0_211 ?_
  refine s0_213 (fun _ => ?_) (fun h => absurd h (by decide))
  refine s0_241 ?_
  exact s0_243 rfl
set_option maxHeartbeats 4000000 in
theorem own_c201 (a b c d ops : Int32) : W0 ⟨5, 14, 110, 112⟩ 55 [.val (.int a), .val (.int b), .val (.int c), .val (.int d), .val (.int ops), .val (.ref 0), .val (.int 1), .val (.int 2), .val (.int 0), .val (.int 1), .val (.int 2147483647)] [] (own_q 0 0 0 0 0 0) (fun r _ => r = some (.int 1)) := by
  refine s0_55 ?_
  refine s0_57 ?_
  refine s0_58 (fun h => absurd h (by decide)) (fun _ => ?_)
  refine s0_61 ?_
  refine s0_63 ?_
  refine s0_64 ?_
  refine s0_66 ?_
  refine s0_67 ?_
  refine s0_68 ?_
  refine s0_70 ?_
  refine s0_71q rfl (own_add0 _ _ _ _ _ _ _  own_hp0) rfl (fun v H' q => ?_)
  obtain ⟨rfl, y0_0, y0_1, y0_2, y0_3, y0_4, rfl, hp0, pm0⟩ := q
  refine s0_74 ?_
  refine s0_76 ?_
  refine s0_77 (fun h => absurd h (by decide)) (fun _ => ?_)
  refine s0_80 ?_
  refine s0_82 ?_
  refine s0_83 ?_
  refine s0_85 ?_
  refine s0_86 ?_
  refine s0_87 ?_
  refine s0_89 ?_
  refine s0_90q rfl (own_add1 _ _ _ _ _ _ _  hp0) rfl (fun v H' q => ?_)
  obtain ⟨rfl, y1_0, y1_1, y1_2, y1_3, y1_4, rfl, hp1, pm1⟩ := q
  refine s0_93 ?_
  refine s0_95 ?_
  refine s0_96 (fun _ => ?_) (fun h => absurd h (by decide))
  refine s0_112 ?_
  refine s0_114 (fun h => absurd h (by decide)) (fun _ => ?_)
  refine s0_117 ?_
  refine s0_119 rfl (own_empS _ _ _ _ _ _ (by decide)) rfl ?_
  refine s0_122 ?_
  refine s0_124 (fun _ => ?_) (fun h => absurd h (by decide))
  refine s0_131 ?_
  refine s0_132 (fun h => absurd h (by decide)) (fun _ => ?_)
  refine s0_135 ?_
  refine s0_136 ?_
  refine s0_140 rfl ?_
  refine s0_142 ?_
  refine s0_144 ?_
  refine s0_145 (fun _ => ?_) (fun h => absurd h (by decide))
  refine s0_154 ?_
  refine s0_156 ?_
  refine s0_157 (fun _ => ?_) (fun h => absurd h (by decide))
  refine s0_166 ?_
  refine s0_168 ?_
  refine s0_169 (fun _ => ?_) (fun h => absurd h (by decide))
  refine s0_178 ?_
  refine s0_180 (fun h => absurd h (by decide)) (fun _ => ?_)
  refine s0_183 ?_
  refine s0_185 rfl (own_empS _ _ _ _ _ _ (by decide)) rfl ?_
  refine s0_188 ?_
  refine s0_190 ?_
  refine s0_192 ?_
  refine s0_193 (fun _ => ?_) (fun h => absurd h (by decide))
  refine s0_200 ?_
  refine s0_201 (fun h => absurd h (by decide)) (fun _ => ?_)
  refine s0_204 ?_
  refine s0_205 ?_
  refine s0_209 rfl ?_
  refine s0_211 ?_
  refine s0_213 (fun h => absurd h (by decide)) (fun _ => ?_)
  refine s0_216 ?_
  refine s0_218 rfl (own_clr _ _ _ _ _ _ ) rfl ?_
  refine s0_221 ?_
  refine s0_223 (fun h => absurd h (by decide)) (fun _ => ?_)
  refine s0_226 ?_
  refine s0_228 rfl (own_emp0 _ _ _ _ _ ) rfl ?_
  refine s0_231 (fun h => absurd h (by decide)) (fun _ => ?_)
  refine s0_234 ?_
  refine s0_235 ?_
  refine s0_239 rfl ?_
  refine s0_241 ?_
  exact s0_243 rfl
set_option maxHeartbeats 4000000 in
theorem own_c210 (a b c d ops : Int32) : W0 ⟨5, 14, 110, 112⟩ 55 [.val (.int a), .val (.int b), .val (.int c), .val (.int d), .val (.int ops), .val (.ref 0), .val (.int 1), .val (.int 2), .val (.int 1), .val (.int 0), .val (.int 2147483647)] [] (own_q 0 0 0 0 0 0) (fun r _ => r = some (.int 1)) := by
  refine s0_55 ?_
  refine s0_57 ?_
  refine s0_58 (fun h => absurd h (by decide)) (fun _ => ?_)
  refine s0_61 ?_
  refine s0_63 ?_
  refine s0_64 ?_
  refine s0_66 ?_
  refine s0_67 ?_
  refine s0_68 ?_
  refine s0_70 ?_
  refine s0_71q rfl (own_add0 _ _ _ _ _ _ _  own_hp0) rfl (fun v H' q => ?_)
  obtain ⟨rfl, y0_0, y0_1, y0_2, y0_3, y0_4, rfl, hp0, pm0⟩ := q
  refine s0_74 ?_
  refine s0_76 ?_
  refine s0_77 (fun h => absurd h (by decide)) (fun _ => ?_)
  refine s0_80 ?_
  refine s0_82 ?_
  refine s0_83 ?_
  refine s0_85 ?_
  refine s0_86 ?_
  refine s0_87 ?_
  refine s0_89 ?_
  refine s0_90q rfl (own_add1 _ _ _ _ _ _ _  hp0) rfl (fun v H' q => ?_)
  obtain ⟨rfl, y1_0, y1_1, y1_2, y1_3, y1_4, rfl, hp1, pm1⟩ := q
  refine s0_93 ?_
  refine s0_95 ?_
  refine s0_96 (fun _ => ?_) (fun h => absurd h (by decide))
  refine s0_112 ?_
  refine s0_114 (fun h => absurd h (by decide)) (fun _ => ?_)
  refine s0_117 ?_
  refine s0_119 rfl (own_empS _ _ _ _ _ _ (by decide)) rfl ?_
  refine s0_122 ?_
  refine s0_124 (fun _ => ?_) (fun h => absurd h (by decide))
  refine s0_131 ?_
  refine s0_132 (fun h => absurd h (by decide)) (fun _ => ?_)
  refine s0_135 ?_
  refine s0_136 ?_
  refine s0_140 rfl ?_
  refine s0_142 ?_
  refine s0_144 ?_
  refine s0_145 (fun h => absurd h (by decide)) (fun _ => ?_)
  refine s0_148 ?_
  refine s0_150q rfl (own_poll2 _ _ _ _ _  hp1) rfl (fun v H' q => ?_)
  obtain ⟨rfl, y2_0, y2_1, y2_2, y2_3, y2_4, rfl, hp2, pm2⟩ := q
  refine s0_153 rfl ?_
  refine s0_154 ?_
  refine s0_156 ?_
  refine s0_157 (fun _ => ?_) (fun h => absurd h (by decide))
  refine s0_166 ?_
  refine s0_168 ?_
  refine s0_169 (fun _ => ?_) (fun h => absurd h (by decide))
  refine s0_178 ?_
  refine s0_180 (fun h => absurd h (by decide)) (fun _ => ?_)
  refine s0_183 ?_
  refine s0_185 rfl (own_empS _ _ _ _ _ _ (by decide)) rfl ?_
  refine s0_188 ?_
  refine s0_190 ?_
  refine s0_192 ?_
  refine s0_193 (fun _ => ?_) (fun h => absurd h (by decide))
  refine s0_200 ?_
  refine s0_201 (fun h => absurd h (by decide)) (fun _ => ?_)
  refine s0_204 ?_
  refine s0_205 ?_
  refine s0_209 rfl ?_
  refine s0_211 ?_
  refine s0_213 (fun _ => ?_) (fun h => absurd h (by decide))
  refine s0_241 ?_
  exact s0_243 rfl
set_option maxHeartbeats 4000000 in
theorem own_c211 (a b c d ops : Int32) : W0 ⟨5, 14, 110, 112⟩ 55 [.val (.int a), .val (.int b), .val (.int c), .val (.int d), .val (.int ops), .val (.ref 0), .val (.int 1), .val (.int 2), .val (.int 1), .val (.int 1), .val (.int 2147483647)] [] (own_q 0 0 0 0 0 0) (fun r _ => r = some (.int 1)) := by
  refine s0_55 ?_
  refine s0_57 ?_
  refine s0_58 (fun h => absurd h (by decide)) (fun _ => ?_)
  refine s0_61 ?_
  refine s0_63 ?_
  refine s0_64 ?_
  refine s0_66 ?_
  refine s0_67 ?_
  refine s0_68 ?_
  refine s0_70 ?_
  refine s0_71q rfl (own_add0 _ _ _ _ _ _ _  own_hp0) rfl (fun v H' q => ?_)
  obtain ⟨rfl, y0_0, y0_1, y0_2, y0_3, y0_4, rfl, hp0, pm0⟩ := q
  refine s0_74 ?_
  refine s0_76 ?_
  refine s0_77 (fun h => absurd h (by decide)) (fun _ => ?_)
  refine s0_80 ?_
  refine s0_82 ?_
  refine s0_83 ?_
  refine s0_85 ?_
  refine s0_86 ?_
  refine s0_87 ?_
  refine s0_89 ?_
  refine s0_90q rfl (own_add1 _ _ _ _ _ _ _  hp0) rfl (fun v H' q => ?_)
  obtain ⟨rfl, y1_0, y1_1, y1_2, y1_3, y1_4, rfl, hp1, pm1⟩ := q
  refine s0_93 ?_
  refine s0_95 ?_
  refine s0_96 (fun _ => ?_) (fun h => absurd h (by decide))
  refine s0_112 ?_
  refine s0_114 (fun h => absurd h (by decide)) (fun _ => ?_)
  refine s0_117 ?_
  refine s0_119 rfl (own_empS _ _ _ _ _ _ (by decide)) rfl ?_
  refine s0_122 ?_
  refine s0_124 (fun _ => ?_) (fun h => absurd h (by decide))
  refine s0_131 ?_
  refine s0_132 (fun h => absurd h (by decide)) (fun _ => ?_)
  refine s0_135 ?_
  refine s0_136 ?_
  refine s0_140 rfl ?_
  refine s0_142 ?_
  refine s0_144 ?_
  refine s0_145 (fun h => absurd h (by decide)) (fun _ => ?_)
  refine s0_148 ?_
  refine s0_150q rfl (own_poll2 _ _ _ _ _  hp1) rfl (fun v H' q => ?_)
  obtain ⟨rfl, y2_0, y2_1, y2_2, y2_3, y2_4, rfl, hp2, pm2⟩ := q
  refine s0_153 rfl ?_
  refine s0_154 ?_
  refine s0_156 ?_
  refine s0_157 (fun _ => ?_) (fun h => absurd h (by decide))
  refine s0_166 ?_
  refine s0_168 ?_
  refine s0_169 (fun _ => ?_) (fun h => absurd h (by decide))
  refine s0_178 ?_
  refine s0_180 (fun h => absurd h (by decide)) (fun _ => ?_)
  refine s0_183 ?_
  refine s0_185 rfl (own_empS _ _ _ _ _ _ (by decide)) rfl ?_
  refine s0_188 ?_
  refine s0_190 ?_
  refine s0_192 ?_
  refine s0_193 (fun _ => ?_) (fun h => absurd h (by decide))
  refine s0_200 ?_
  refine s0_201 (fun h => absurd h (by decide)) (fun _ => ?_)
  refine s0_204 ?_
  refine s0_205 ?_
  refine s0_209 rfl ?_
  refine s0_211 ?_
  refine s0_213 (fun h => absurd h (by decide)) (fun _ => ?_)
  refine s0_216 ?_
  refine s0_218 rfl (own_clr _ _ _ _ _ _ ) rfl ?_
  refine s0_221 ?_
  refine s0_223 (fun h => absurd h (by decide)) (fun _ => ?_)
  refine s0_226 ?_
  refine s0_228 rfl (own_emp0 _ _ _ _ _ ) rfl ?_
  refine s0_231 (fun h => absurd h (by decide)) (fun _ => ?_)
  refine s0_234 ?_
  refine s0_235 ?_
  refine s0_239 rfl ?_
  refine s0_241 ?_
  exact s0_243 rfl
set_option maxHeartbeats 4000000 in
theorem own_c220 (a b c d ops : Int32) : W0 ⟨5, 14, 110, 112⟩ 55 [.val (.int a), .val (.int b), .val (.int c), .val (.int d), .val (.int ops), .val (.ref 0), .val (.int 1), .val (.int 2), .val (.int 2), .val (.int 0), .val (.int 2147483647)] [] (own_q 0 0 0 0 0 0) (fun r _ => r = some (.int 1)) := by
  refine s0_55 ?_
  refine s0_57 ?_
  refine s0_58 (fun h => absurd h (by decide)) (fun _ => ?_)
  refine s0_61 ?_
  refine s0_63 ?_
  refine s0_64 ?_
  refine s0_66 ?_
  refine s0_67 ?_
  refine s0_68 ?_
  refine s0_70 ?_
  refine s0_71q rfl (own_add0 _ _ _ _ _ _ _  own_hp0) rfl (fun v H' q => ?_)
  obtain ⟨rfl, y0_0, y0_1, y0_2, y0_3, y0_4, rfl, hp0, pm0⟩ := q
  refine s0_74 ?_
  refine s0_76 ?_
  refine s0_77 (fun h => absurd h (by decide)) (fun _ => ?_)
  refine s0_80 ?_
  refine s0_82 ?_
  refine s0_83 ?_
  refine s0_85 ?_
  refine s0_86 ?_
  refine s0_87 ?_
  refine s0_89 ?_
  refine s0_90q rfl (own_add1 _ _ _ _ _ _ _  hp0) rfl (fun v H' q => ?_)
  obtain ⟨rfl, y1_0, y1_1, y1_2, y1_3, y1_4, rfl, hp1, pm1⟩ := q
  refine s0_93 ?_
  refine s0_95 ?_
  refine s0_96 (fun _ => ?_) (fun h => absurd h (by decide))
  refine s0_112 ?_
  refine s0_114 (fun h => absurd h (by decide)) (fun _ => ?_)
  refine s0_117 ?_
  refine s0_119 rfl (own_empS _ _ _ _ _ _ (by decide)) rfl ?_
  refine s0_122 ?_
  refine s0_124 (fun _ => ?_) (fun h => absurd h (by decide))
  refine s0_131 ?_
  refine s0_132 (fun h => absurd h (by decide)) (fun _ => ?_)
  refine s0_135 ?_
  refine s0_136 ?_
  refine s0_140 rfl ?_
  refine s0_142 ?_
  refine s0_144 ?_
  refine s0_145 (fun h => absurd h (by decide)) (fun _ => ?_)
  refine s0_148 ?_
  refine s0_150q rfl (own_poll2 _ _ _ _ _  hp1) rfl (fun v H' q => ?_)
  obtain ⟨rfl, y2_0, y2_1, y2_2, y2_3, y2_4, rfl, hp2, pm2⟩ := q
  refine s0_153 rfl ?_
  refine s0_154 ?_
  refine s0_156 ?_
  refine s0_157 (fun h => absurd h (by decide)) (fun _ => ?_)
  refine s0_160 ?_
  refine s0_162q rfl (own_poll1 _ _ _ _ _  hp2) rfl (fun v H' q => ?_)
  obtain ⟨rfl, y3_0, y3_1, y3_2, y3_3, y3_4, rfl, hp3, pm3⟩ := q
  refine s0_165 rfl ?_
  refine s0_166 ?_
  refine s0_168 ?_
  refine s0_169 (fun _ => ?_) (fun h => absurd h (by decide))
  refine s0_178 ?_
  refine s0_180 (fun h => absurd h (by decide)) (fun _ => ?_)
  refine s0_183 ?_
  refine s0_185 rfl (own_emp0 _ _ _ _ _ ) rfl ?_
  refine s0_188 ?_
  refine s0_190 ?_
  refine s0_192 ?_
  refine s0_193 (fun h => absurd h (by decide)) (fun _ => ?_)
  refine s0_196 ?_
  refine s0_197 ?_
  refine s0_201 (fun h => absurd h (by decide)) (fun _ => ?_)
  refine s0_204 ?_
  refine s0_205 ?_
  refine s0_209 rfl ?_
  refine s0_211 ?_
  refine s0_213 (fun _ => ?_) (fun h => absurd h (by decide))
  refine s0_241 ?_
  exact s0_243 rfl
set_option maxHeartbeats 4000000 in
theorem own_c221 (a b c d ops : Int32) : W0 ⟨5, 14, 110, 112⟩ 55 [.val (.int a), .val (.int b), .val (.int c), .val (.int d), .val (.int ops), .val (.ref 0), .val (.int 1), .val (.int 2), .val (.int 2), .val (.int 1), .val (.int 2147483647)] [] (own_q 0 0 0 0 0 0) (fun r _ => r = some (.int 1)) := by
  refine s0_55 ?_
  refine s0_57 ?_
  refine s0_58 (fun h => absurd h (by decide)) (fun _ => ?_)
  refine s0_61 ?_
  refine s0_63 ?_
  refine s0_64 ?_
  refine s0_66 ?_
  refine s0_67 ?_
  refine s0_68 ?_
  refine s0_70 ?_
  refine s0_71q rfl (own_add0 _ _ _ _ _ _ _  own_hp0) rfl (fun v H' q => ?_)
  obtain ⟨rfl, y0_0, y0_1, y0_2, y0_3, y0_4, rfl, hp0, pm0⟩ := q
  refine s0_74 ?_
  refine s0_76 ?_
  refine s0_77 (fun h => absurd h (by decide)) (fun _ => ?_)
  refine s0_80 ?_
  refine s0_82 ?_
  refine s0_83 ?_
  refine s0_85 ?_
  refine s0_86 ?_
  refine s0_87 ?_
  refine s0_89 ?_
  refine s0_90q rfl (own_add1 _ _ _ _ _ _ _  hp0) rfl (fun v H' q => ?_)
  obtain ⟨rfl, y1_0, y1_1, y1_2, y1_3, y1_4, rfl, hp1, pm1⟩ := q
  refine s0_93 ?_
  refine s0_95 ?_
  refine s0_96 (fun _ => ?_) (fun h => absurd h (by decide))
  refine s0_112 ?_
  refine s0_114 (fun h => absurd h (by decide)) (fun _ => ?_)
  refine s0_117 ?_
  refine s0_119 rfl (own_empS _ _ _ _ _ _ (by decide)) rfl ?_
  refine s0_122 ?_
  refine s0_124 (fun _ => ?_) (fun h => absurd h (by decide))
  refine s0_131 ?_
  refine s0_132 (fun h => absurd h (by decide)) (fun _ => ?_)
  refine s0_135 ?_
  refine s0_136 ?_
  refine s0_140 rfl ?_
  refine s0_142 ?_
  refine s0_144 ?_
  refine s0_145 (fun h => absurd h (by decide)) (fun _ => ?_)
  refine s0_148 ?_
  refine s0_150q rfl (own_poll2 _ _ _ _ _  hp1) rfl (fun v H' q => ?_)
  obtain ⟨rfl, y2_0, y2_1, y2_2, y2_3, y2_4, rfl, hp2, pm2⟩ := q
  refine s0_153 rfl ?_
  refine s0_154 ?_
  refine s0_156 ?_
  refine s0_157 (fun h => absurd h (by decide)) (fun _ => ?_)
  refine s0_160 ?_
  refine s0_162q rfl (own_poll1 _ _ _ _ _  hp2) rfl (fun v H' q => ?_)
  obtain ⟨rfl, y3_0, y3_1, y3_2, y3_3, y3_4, rfl, hp3, pm3⟩ := q
  refine s0_165 rfl ?_
  refine s0_166 ?_
  refine s0_168 ?_
  refine s0_169 (fun _ => ?_) (fun h => absurd h (by decide))
  refine s0_178 ?_
  refine s0_180 (fun h => absurd h (by decide)) (fun _ => ?_)
  refine s0_183 ?_
  refine s0_185 rfl (own_emp0 _ _ _ _ _ ) rfl ?_
  refine s0_188 ?_
  refine s0_190 ?_
  refine s0_192 ?_
  refine s0_193 (fun h => absurd h (by decide)) (fun _ => ?_)
  refine s0_196 ?_
  refine s0_197 ?_
  refine s0_201 (fun h => absurd h (by decide)) (fun _ => ?_)
  refine s0_204 ?_
  refine s0_205 ?_
  refine s0_209 rfl ?_
  refine s0_211 ?_
  refine s0_213 (fun h => absurd h (by decide)) (fun _ => ?_)
  refine s0_216 ?_
  refine s0_218 rfl (own_clr _ _ _ _ _ _ ) rfl ?_
  refine s0_221 ?_
  refine s0_223 (fun h => absurd h (by decide)) (fun _ => ?_)
  refine s0_226 ?_
  refine s0_228 rfl (own_emp0 _ _ _ _ _ ) rfl ?_
  refine s0_231 (fun h => absurd h (by decide)) (fun _ => ?_)
  refine s0_234 ?_
  refine s0_235 ?_
  refine s0_239 rfl ?_
  refine s0_241 ?_
  exact s0_243 rfl
set_option maxHeartbeats 4000000 in
theorem own_c300 (a b c d ops : Int32) : W0 ⟨5, 14, 110, 112⟩ 55 [.val (.int a), .val (.int b), .val (.int c), .val (.int d), .val (.int ops), .val (.ref 0), .val (.int 1), .val (.int 3), .val (.int 0), .val (.int 0), .val (.int 2147483647)] [] (own_q 0 0 0 0 0 0) (fun r _ => r = some (.int 1)) := by
  refine s0_55 ?_
  refine s0_57 ?_
  refine s0_58 (fun h => absurd h (by decide)) (fun _ => ?_)
  refine s0_61 ?_
  refine s0_63 ?_
  refine s0_64 ?_
  refine s0_66 ?_
  refine s0_67 ?_
  refine s0_68 ?_
  refine s0_70 ?_
  refine s0_71q rfl (own_add0 _ _ _ _ _ _ _  own_hp0) rfl (fun v H' q => ?_)
  obtain ⟨rfl, y0_0, y0_1, y0_2, y0_3, y0_4, rfl, hp0, pm0⟩ := q
  refine s0_74 ?_
  refine s0_76 ?_
  refine s0_77 (fun h => absurd h (by decide)) (fun _ => ?_)
  refine s0_80 ?_
  refine s0_82 ?_
  refine s0_83 ?_
  refine s0_85 ?_
  refine s0_86 ?_
  refine s0_87 ?_
  refine s0_89 ?_
  refine s0_90q rfl (own_add1 _ _ _ _ _ _ _  hp0) rfl (fun v H' q => ?_)
  obtain ⟨rfl, y1_0, y1_1, y1_2, y1_3, y1_4, rfl, hp1, pm1⟩ := q
  refine s0_93 ?_
  refine s0_95 ?_
  refine s0_96 (fun h => absurd h (by decide)) (fun _ => ?_)
  refine s0_99 ?_
  refine s0_101 ?_
  refine s0_102 ?_
  refine s0_104 ?_
  refine s0_105 ?_
  refine s0_106 ?_
  refine s0_108 ?_
  refine s0_109q rfl (own_add2 _ _ _ _ _ _ _  hp1) rfl (fun v H' q => ?_)
  obtain ⟨rfl, y2_0, y2_1, y2_2, y2_3, y2_4, rfl, hp2, pm2⟩ := q
  refine s0_112 ?_
  refine s0_114 (fun h => absurd h (by decide)) (fun _ => ?_)
  refine s0_117 ?_
  refine s0_119 rfl (own_empS _ _ _ _ _ _ (by decide)) rfl ?_
  refine s0_122 ?_
  refine s0_124 (fun _ => ?_) (fun h => absurd h (by decide))
  refine s0_131 ?_
  refine s0_132 (fun h => absurd h (by decide)) (fun _ => ?_)
  refine s0_135 ?_
  refine s0_136 ?_
  refine s0_140 rfl ?_
  refine s0_142 ?_
  refine s0_144 ?_
  refine s0_145 (fun _ => ?_) (fun h => absurd h (by decide))
  refine s0_154 ?_
  refine s0_156 ?_
  refine s0_157 (fun _ => ?_) (fun h => absurd h (by decide))
  refine s0_166 ?_
  refine s0_168 ?_
  refine s0_169 (fun _ => ?_) (fun h => absurd h (by decide))
  refine s0_178 ?_
  refine s0_180 (fun h => absurd h (by decide)) (fun _ => ?_)
  refine s0_183 ?_
  refine s0_185 rfl (own_empS _ _ _ _ _ _ (by decide)) rfl ?_
  refine s0_188 ?_
  refine s0_190 ?_
  refine s0_192 ?_
  refine s0_193 (fun _ => ?_) (fun h => absurd h (by decide))
  refine s0_200 ?_
  refine s0_201 (fun h => absurd h (by decide)) (fun _ => ?_)
  refine s0_204 ?_
  refine s0_205 ?_
  refine s0_209 rfl ?_
  refine s0_211 ?_
  refine s0_213 (fun _ => ?_) (fun h => absurd h (by decide))
  refine s0_241 ?_
  exact s0_243 rfl
set_option maxHeartbeats 4000000 in
theorem own_c301 (a b c d ops : Int32) : W0 ⟨5, 14, 110, 112⟩ 55 [.val (.int a), .val (.int b), .val (.int c), .val (.int d), .val (.int ops), .val (.ref 0), .val (.int 1), .val (.int 3), .val (.int 0), .val (.int 1), .val (.int 2147483647)] [] (own_q 0 0 0 0 0 0) (fun r _ => r = some (.int 1)) := by
  refine s0_55 ?_
  refine s0_57 ?_
  refine s0_58 (fun h => absurd h (by decide)) (fun _ => ?_)
  refine s0_61 ?_
  refine s0_63 ?_
  refine s0_64 ?_
  refine s0_66 ?_
  refine s0_67 ?_
  refine s0_68 ?_
  refine s0_70 ?_
  refine s0_71q rfl (own_add0 _ _ _ _ _ _ _  own_hp0) rfl (fun v H' q => ?_)
  obtain ⟨rfl, y0_0, y0_1, y0_2, y0_3, y0_4, rfl, hp0, pm0⟩ := q
  refine s0_74 ?_
  refine s0_76 ?_
  refine s0_77 (fun h => absurd h (by decide)) (fun _ => ?_)
  refine s0_80 ?_
  refine s0_82 ?_
  refine s0_83 ?_
  refine s0_85 ?_
  refine s0_86 ?_
  refine s0_87 ?_
  refine s0_89 ?_
  refine s0_90q rfl (own_add1 _ _ _ _ _ _ _  hp0) rfl (fun v H' q => ?_)
  obtain ⟨rfl, y1_0, y1_1, y1_2, y1_3, y1_4, rfl, hp1, pm1⟩ := q
  refine s0_93 ?_
  refine s0_95 ?_
  refine s0_96 (fun h => absurd h (by decide)) (fun _ => ?_)
  refine s0_99 ?_
  refine s0_101 ?_
  refine s0_102 ?_
  refine s0_104 ?_
  refine s0_105 ?_
  refine s0_106 ?_
  refine s0_108 ?_
  refine s0_109q rfl (own_add2 _ _ _ _ _ _ _  hp1) rfl (fun v H' q => ?_)
  obtain ⟨rfl, y2_0, y2_1, y2_2, y2_3, y2_4, rfl, hp2, pm2⟩ := q
  refine s0_112 ?_
  refine s0_114 (fun h => absurd h (by decide)) (fun _ => ?_)
  refine s0_117 ?_
  refine s0_119 rfl (own_empS _ _ _ _ _ _ (by decide)) rfl ?_
  refine s0_122 ?_
  refine s0_124 (fun _ => ?_) (fun h => absurd h (by decide))
  refine s0_131 ?_
  refine s0_132 (fun h => absurd h (by decide)) (fun _ => ?_)
  refine s0_135 ?_
  refine s0_136 ?_
  refine s0_140 rfl ?_
  refine s0_142 ?_
  refine s0_144 ?_
  refine s0_145 (fun _ => ?_) (fun h => absurd h (by decide))
  refine s0_154 ?_
  refine s0_156 ?_
  refine s0_157 (fun _ => ?_) (fun h => absurd h (by decide))
  refine s0_166 ?_
  refine s0_168 ?_
  refine s0_169 (fun _ => ?_) (fun h => absurd h (by decide))
  refine s0_178 ?_
  refine s0_180 (fun h => absurd h (by decide)) (fun _ => ?_)
  refine s0_183 ?_
  refine s0_185 rfl (own_empS _ _ _ _ _ _ (by decide)) rfl ?_
  refine s0_188 ?_
  refine s0_190 ?_
  refine s0_192 ?_
  refine s0_193 (fun _ => ?_) (fun h => absurd h (by decide))
  refine s0_200 ?_
  refine s0_201 (fun h => absurd h (by decide)) (fun _ => ?_)
  refine s0_204 ?_
  refine s0_205 ?_
  refine s0_209 rfl ?_
  refine s0_211 ?_
  refine s0_213 (fun h => absurd h (by decide)) (fun _ => ?_)
  refine s0_216 ?_
  refine s0_218 rfl (own_clr _ _ _ _ _ _ ) rfl ?_
  refine s0_221 ?_
  refine s0_223 (fun h => absurd h (by decide)) (fun _ => ?_)
  refine s0_226 ?_
  refine s0_228 rfl (own_emp0 _ _ _ _ _ ) rfl ?_
  refine s0_231 (fun h => absurd h (by decide)) (fun _ => ?_)
  refine s0_234 ?_
  refine s0_235 ?_
  refine s0_239 rfl ?_
  refine s0_241 ?_
  exact s0_243 rfl
set_option maxHeartbeats 4000000 in
theorem own_c310 (a b c d ops : Int32) : W0 ⟨5, 14, 110, 112⟩ 55 [.val (.int a), .val (.int b), .val (.int c), .val (.int d), .val (.int ops), .val (.ref 0), .val (.int 1), .val (.int 3), .val (.int 1), .val (.int 0), .val (.int 2147483647)] [] (own_q 0 0 0 0 0 0) (fun r _ => r = some (.int 1)) := by
  refine s0_55 ?_
  refine s0_57 ?_
  refine s0_58 (fun h => absurd h (by decide)) (fun _ => ?_)
  refine s0_61 ?_
  refine s0_63 ?_
  refine s0_64 ?_
  refine s0_66 ?_
  refine s0_67 ?_
  refine s0_68 ?_
  refine s0_70 ?_
  refine s0_71q rfl (own_add0 _ _ _ _ _ _ _  own_hp0) rfl (fun v H' q => ?_)
  obtain ⟨rfl, y0_0, y0_1, y0_2, y0_3, y0_4, rfl, hp0, pm0⟩ := q
  refine s0_74 ?_
  refine s0_76 ?_
  refine s0_77 (fun h => absurd h (by decide)) (fun _ => ?_)
  refine s0_80 ?_
  refine s0_82 ?_
  refine s0_83 ?_
  refine s0_85 ?_
  refine s0_86 ?_
  refine s0_87 ?_
  refine s0_89 ?_
  refine s0_90q rfl (own_add1 _ _ _ _ _ _ _  hp0) rfl (fun v H' q => ?_)
  obtain ⟨rfl, y1_0, y1_1, y1_2, y1_3, y1_4, rfl, hp1, pm1⟩ := q
  refine s0_93 ?_
  refine s0_95 ?_
  refine s0_96 (fun h => absurd h (by decide)) (fun _ => ?_)
  refine s0_99 ?_
  refine s0_101 ?_
  refine s0_102 ?_
  refine s0_104 ?_
  refine s0_105 ?_
  refine s0_106 ?_
  refine s0_108 ?_
  refine s0_109q rfl (own_add2 _ _ _ _ _ _ _  hp1) rfl (fun v H' q => ?_)
  obtain ⟨rfl, y2_0, y2_1, y2_2, y2_3, y2_4, rfl, hp2, pm2⟩ := q
  refine s0_112 ?_
  refine s0_114 (fun h => absurd h (by decide)) (fun _ => ?_)
  refine s0_117 ?_
  refine s0_119 rfl (own_empS _ _ _ _ _ _ (by decide)) rfl ?_
  refine s0_122 ?_
  refine s0_124 (fun _ => ?_) (fun h => absurd h (by decide))
  refine s0_131 ?_
  refine s0_132 (fun h => absurd h (by decide)) (fun _ => ?_)
  refine s0_135 ?_
  refine s0_136 ?_
  refine s0_140 rfl ?_
  refine s0_142 ?_
  refine s0_144 ?_
  refine s0_145 (fun h => absurd h (by decide)) (fun _ => ?_)
  refine s0_148 ?_
  refine s0_150q rfl (own_poll3 _ _ _ _ _  hp2) rfl (fun v H' q => ?_)
  obtain ⟨rfl, y3_0, y3_1, y3_2, y3_3, y3_4, rfl, hp3, pm3⟩ := q
  refine s0_153 rfl ?_
  refine s0_154 ?_
  refine s0_156 ?_
  refine s0_157 (fun _ => ?_) (fun h => absurd h (by decide))
  refine s0_166 ?_
  refine s0_168 ?_
  refine s0_169 (fun _ => ?_) (fun h => absurd h (by decide))
  refine s0_178 ?_
  refine s0_180 (fun h => absurd h (by decide)) (fun _ => ?_)
  refine s0_183 ?_
  refine s0_185 rfl (own_empS _ _ _ _ _ _ (by decide)) rfl ?_
  refine s0_188 ?_
  refine s0_190 ?_
  refine s0_192 ?_
  refine s0_193 (fun _ => ?_) (fun h => absurd h (by decide))
  refine s0_200 ?_
  refine s0_201 (fun h => absurd h (by decide)) (fun _ => ?_)
  refine s0_204 ?_
  refine s0_205 ?_
  refine s0_209 rfl ?_
  refine s0_211 ?_
  refine s0_213 (fun _ => ?_) (fun h => absurd h (by decide))
  refine s0_241 ?_
  exact s0_243 rfl
set_option maxHeartbeats 4000000 in
theorem own_c311 (a b c d ops : Int32) : W0 ⟨5, 14, 110, 112⟩ 55 [.val (.int a), .val (.int b), .val (.int c), .val (.int d), .val (.int ops), .val (.ref 0), .val (.int 1), .val (.int 3), .val (.int 1), .val (.int 1), .val (.int 2147483647)] [] (own_q 0 0 0 0 0 0) (fun r _ => r = some (.int 1)) := by
  refine s0_55 ?_
  refine s0_57 ?_
  refine s0_58 (fun h => absurd h (by decide)) (fun _ => ?_)
  refine s0_61 ?_
  refine s0_63 ?_
  refine s0_64 ?_
  refine s0_66 ?_
  refine s0_67 ?_
  refine s0_68 ?_
  refine s0_70 ?_
  refine s0_71q rfl (own_add0 _ _ _ _ _ _ _  own_hp0) rfl (fun v H' q => ?_)
  obtain ⟨rfl, y0_0, y0_1, y0_2, y0_3, y0_4, rfl, hp0, pm0⟩ := q
  refine s0_74 ?_
  refine s0_76 ?_
  refine s0_77 (fun h => absurd h (by decide)) (fun _ => ?_)
  refine s0_80 ?_
  refine s0_82 ?_
  refine s0_83 ?_
  refine s0_85 ?_
  refine s0_86 ?_
  refine s0_87 ?_
  refine s0_89 ?_
  refine s0_90q rfl (own_add1 _ _ _ _ _ _ _  hp0) rfl (fun v H' q => ?_)
  obtain ⟨rfl, y1_0, y1_1, y1_2, y1_3, y1_4, rfl, hp1, pm1⟩ := q
  refine s0_93 ?_
  refine s0_95 ?_
  refine s0_96 (fun h => absurd h (by decide)) (fun _ => ?_)
  refine s0_99 ?_
  refine s0_101 ?_
  refine s0_102 ?_
  refine s0_104 ?_
  refine s0_105 ?_
  refine s0_106 ?_
  refine s0_108 ?_
  refine s0_109q rfl (own_add2 _ _ _ _ _ _ _  hp1) rfl (fun v H' q => ?_)
  obtain ⟨rfl, y2_0, y2_1, y2_2, y2_3, y2_4, rfl, hp2, pm2⟩ := q
  refine s0_112 ?_
  refine s0_114 (fun h => absurd h (by decide)) (fun _ => ?_)
  refine s0_117 ?_
  refine s0_119 rfl (own_empS _ _ _ _ _ _ (by decide)) rfl ?_
  refine s0_122 ?_
  refine s0_124 (fun _ => ?_) (fun h => absurd h (by decide))
  refine s0_131 ?_
  refine s0_132 (fun h => absurd h (by decide)) (fun _ => ?_)
  refine s0_135 ?_
  refine s0_136 ?_
  refine s0_140 rfl ?_
  refine s0_142 ?_
  refine s0_144 ?_
  refine s0_145 (fun h => absurd h (by decide)) (fun _ => ?_)
  refine s0_148 ?_
  refine s0_150q rfl (own_poll3 _ _ _ _ _  hp2) rfl (fun v H' q => ?_)
  obtain ⟨rfl, y3_0, y3_1, y3_2, y3_3, y3_4, rfl, hp3, pm3⟩ := q
  refine s0_153 rfl ?_
  refine s0_154 ?_
  refine s0_156 ?_
  refine s0_157 (fun _ => ?_) (fun h => absurd h (by decide))
  refine s0_166 ?_
  refine s0_168 ?_
  refine s0_169 (fun _ => ?_) (fun h => absurd h (by decide))
  refine s0_178 ?_
  refine s0_180 (fun h => absurd h (by decide)) (fun _ => ?_)
  refine s0_183 ?_
  refine s0_185 rfl (own_empS _ _ _ _ _ _ (by decide)) rfl ?_
  refine s0_188 ?_
  refine s0_190 ?_
  refine s0_192 ?_
  refine s0_193 (fun _ => ?_) (fun h => absurd h (by decide))
  refine s0_200 ?_
  refine s0_201 (fun h => absurd h (by decide)) (fun _ => ?_)
  refine s0_204 ?_
  refine s0_205 ?_
  refine s0_209 rfl ?_
  refine s0_211 ?_
  refine s0_213 (fun h => absurd h (by decide)) (fun _ => ?_)
  refine s0_216 ?_
  refine s0_218 rfl (own_clr _ _ _ _ _ _ ) rfl ?_
  refine s0_221 ?_
  refine s0_223 (fun h => absurd h (by decide)) (fun _ => ?_)
  refine s0_226 ?_
  refine s0_228 rfl (own_emp0 _ _ _ _ _ ) rfl ?_
  refine s0_231 (fun h => absurd h (by decide)) (fun _ => ?_)
  refine s0_234 ?_
  refine s0_235 ?_
  refine s0_239 rfl ?_
  refine s0_241 ?_
  exact s0_243 rfl
set_option maxHeartbeats 4000000 in
theorem own_c320 (a b c d ops : Int32) : W0 ⟨5, 14, 110, 112⟩ 55 [.val (.int a), .val (.int b), .val (.int c), .val (.int d), .val (.int ops), .val (.ref 0), .val (.int 1), .val (.int 3), .val (.int 2), .val (.int 0), .val (.int 2147483647)] [] (own_q 0 0 0 0 0 0) (fun r _ => r = some (.int 1)) := by
  refine s0_55 ?_
  refine s0_57 ?_
  refine s0_58 (fun h => absurd h (by decide)) (fun _ => ?_)
  refine s0_61 ?_
  refine s0_63 ?_
  refine s0_64 ?_
  refine s0_66 ?_
  refine s0_67 ?_
  refine s0_68 ?_
  refine s0_70 ?_
  refine s0_71q rfl (own_add0 _ _ _ _ _ _ _  own_hp0) rfl (fun v H' q => ?_)
  obtain ⟨rfl, y0_0, y0_1, y0_2, y0_3, y0_4, rfl, hp0, pm0⟩ := q
  refine s0_74 ?_
  refine s0_76 ?_
  refine s0_77 (fun h => absurd h (by decide)) (fun _ => ?_)
  refine s0_80 ?_
  refine s0_82 ?_
  refine s0_83 ?_
  refine s0_85 ?_
  refine s0_86 ?_
  refine s0_87 ?_
  refine s0_89 ?_
  refine s0_90q rfl (own_add1 _ _ _ _ _ _ _  hp0) rfl (fun v H' q => ?_)
  obtain ⟨rfl, y1_0, y1_1, y1_2, y1_3, y1_4, rfl, hp1, pm1⟩ := q
  refine s0_93 ?_
  refine s0_95 ?_
  refine s0_96 (fun h => absurd h (by decide)) (fun _ => ?_)
  refine s0_99 ?_
  refine s0_101 ?_
  refine s0_102 ?_
  refine s0_104 ?_
  refine s0_105 ?_
  refine s0_106 ?_
  refine s0_108 ?_
  refine s0_109q rfl (own_add2 _ _ _ _ _ _ _  hp1) rfl (fun v H' q => ?_)
  obtain ⟨rfl, y2_0, y2_1, y2_2, y2_3, y2_4, rfl, hp2, pm2⟩ := q
  refine s0_112 ?_
  refine s0_114 (fun h => absurd h (by decide)) (fun _ => ?_)
  refine s0_117 ?_
  refine s0_119 rfl (own_empS _ _ _ _ _ _ (by decide)) rfl ?_
  refine s0_122 ?_
  refine s0_124 (fun _ => ?_) (fun h => absurd h (by decide))
  refine s0_131 ?_
  refine s0_132 (fun h => absurd h (by decide)) (fun _ => ?_)
  refine s0_135 ?_
  refine s0_136 ?_
  refine s0_140 rfl ?_
  refine s0_142 ?_
  refine s0_144 ?_
  refine s0_145 (fun h => absurd h (by decide)) (fun _ => ?_)
  refine s0_148 ?_
  refine s0_150q rfl (own_poll3 _ _ _ _ _  hp2) rfl (fun v H' q => ?_)
  obtain ⟨rfl, y3_0, y3_1, y3_2, y3_3, y3_4, rfl, hp3, pm3⟩ := q
  refine s0_153 rfl ?_
  refine s0_154 ?_
  refine s0_156 ?_
  refine s0_157 (fun h => absurd h (by decide)) (fun _ => ?_)
  refine s0_160 ?_
  refine s0_162q rfl (own_poll2 _ _ _ _ _  hp3) rfl (fun v H' q => ?_)
  obtain ⟨rfl, y4_0, y4_1, y4_2, y4_3, y4_4, rfl, hp4, pm4⟩ := q
  refine s0_165 rfl ?_
  refine s0_166 ?_
  refine s0_168 ?_
  refine s0_169 (fun _ => ?_) (fun h => absurd h (by decide))
  refine s0_178 ?_
  refine s0_180 (fun h => absurd h (by decide)) (fun _ => ?_)
  refine s0_183 ?_
  refine s0_185 rfl (own_empS _ _ _ _ _ _ (by decide)) rfl ?_
  refine s0_188 ?_
  refine s0_190 ?_
  refine s0_192 ?_
  refine s0_193 (fun _ => ?_) (fun h => absurd h (by decide))
  refine s0_200 ?_
  refine s0_201 (fun h => absurd h (by decide)) (fun _ => ?_)
  refine s0_204 ?_
  refine s0_205 ?_
  refine s0_209 rfl ?_
  refine s0_211 ?_
  refine s0_213 (fun _ => ?_) (fun h => absurd h (by decide))
  refine s0_241 ?_
  exact s0_243 rfl
set_option maxHeartbeats 4000000 in
theorem own_c321 (a b c d ops : Int32) : W0 ⟨5, 14, 110, 112⟩ 55 [.val (.int a), .val (.int b), .val (.int c), .val (.int d), .val (.int ops), .val (.ref 0), .val (.int 1), .val (.int 3), .val (.int 2), .val (.int 1), .val (.int 2147483647)] [] (own_q 0 0 0 0 0 0) (fun r _ => r = some (.int 1)) := by
  refine s0_55 ?_
  refine s0_57 ?_
  refine s0_58 (fun h => absurd h (by decide)) (fun _ => ?_)
  refine s0_61 ?_
  refine s0_63 ?_
  refine s0_64 ?_
  refine s0_66 ?_
  refine s0_67 ?_
  refine s0_68 ?_
  refine s0_70 ?_
  refine s0_71q rfl (own_add0 _ _ _ _ _ _ _  own_hp0) rfl (fun v H' q => ?_)
  obtain ⟨rfl, y0_0, y0_1, y0_2, y0_3, y0_4, rfl, hp0, pm0⟩ := q
  refine s0_74 ?_
  refine s0_76 ?_
  refine s0_77 (fun h => absurd h (by decide)) (fun _ => ?_)
  refine s0_80 ?_
  refine s0_82 ?_
  refine s0_83 ?_
  refine s0_85 ?_
  refine s0_86 ?_
  refine s0_87 ?_
  refine s0_89 ?_
  refine s0_90q rfl (own_add1 _ _ _ _ _ _ _  hp0) rfl (fun v H' q => ?_)
  obtain ⟨rfl, y1_0, y1_1, y1_2, y1_3, y1_4, rfl, hp1, pm1⟩ := q
  refine s0_93 ?_
  refine s0_95 ?_
  refine s0_96 (fun h => absurd h (by decide)) (fun _ => ?_)
  refine s0_99 ?_
  refine s0_101 ?_
  refine s0_102 ?_
  refine s0_104 ?_
  refine s0_105 ?_
  refine s0_106 ?_
  refine s0_108 ?_
  refine s0_109q rfl (own_add2 _ _ _ _ _ _ _  hp1) rfl (fun v H' q => ?_)
  obtain ⟨rfl, y2_0, y2_1, y2_2, y2_3, y2_4, rfl, hp2, pm2⟩ := q
  refine s0_112 ?_
  refine s0_114 (fun h => absurd h (by decide)) (fun _ => ?_)
  refine s0_117 ?_
  refine s0_119 rfl (own_empS _ _ _ _ _ _ (by decide)) rfl ?_
  refine s0_122 ?_
  refine s0_124 (fun _ => ?_) (fun h => absurd h (by decide))
  refine s0_131 ?_
  refine s0_132 (fun h => absurd h (by decide)) (fun _ => ?_)
  refine s0_135 ?_
  refine s0_136 ?_
  refine s0_140 rfl ?_
  refine s0_142 ?_
  refine s0_144 ?_
  refine s0_145 (fun h => absurd h (by decide)) (fun _ => ?_)
  refine s0_148 ?_
  refine s0_150q rfl (own_poll3 _ _ _ _ _  hp2) rfl (fun v H' q => ?_)
  obtain ⟨rfl, y3_0, y3_1, y3_2, y3_3, y3_4, rfl, hp3, pm3⟩ := q
  refine s0_153 rfl ?_
  refine s0_154 ?_
  refine s0_156 ?_
  refine s0_157 (fun h => absurd h (by decide)) (fun _ => ?_)
  refine s0_160 ?_
  refine s0_162q rfl (own_poll2 _ _ _ _ _  hp3) rfl (fun v H' q => ?_)
  obtain ⟨rfl, y4_0, y4_1, y4_2, y4_3, y4_4, rfl, hp4, pm4⟩ := q
  refine s0_165 rfl ?_
  refine s0_166 ?_
  refine s0_168 ?_
  refine s0_169 (fun _ => ?_) (fun h => absurd h (by decide))
  refine s0_178 ?_
  refine s0_180 (fun h => absurd h (by decide)) (fun _ => ?_)
  refine s0_183 ?_
  refine s0_185 rfl (own_empS _ _ _ _ _ _ (by decide)) rfl ?_
  refine s0_188 ?_
  refine s0_190 ?_
  refine s0_192 ?_
  refine s0_193 (fun _ => ?_) (fun h => absurd h (by decide))
  refine s0_200 ?_
  refine s0_201 (fun h => absurd h (by decide)) (fun _ => ?_)
  refine s0_204 ?_
  refine s0_205 ?_
  refine s0_209 rfl ?_
  refine s0_211 ?_
  refine s0_213 (fun h => absurd h (by decide)) (fun _ => ?_)
  refine s0_216 ?_
  refine s0_218 rfl (own_clr _ _ _ _ _ _ ) rfl ?_
  refine s0_221 ?_
  refine s0_223 (fun h => absurd h (by decide)) (fun _ => ?_)
  refine s0_226 ?_
  refine s0_228 rfl (own_emp0 _ _ _ _ _ ) rfl ?_
  refine s0_231 (fun h => absurd h (by decide)) (fun _ => ?_)
  refine s0_234 ?_
  refine s0_235 ?_
  refine s0_239 rfl ?_
  refine s0_241 ?_
  exact s0_243 rfl
set_option maxHeartbeats 4000000 in
theorem own_c330 (a b c d ops : Int32) : W0 ⟨5, 14, 110, 112⟩ 55 [.val (.int a), .val (.int b), .val (.int c), .val (.int d), .val (.int ops), .val (.ref 0), .val (.int 1), .val (.int 3), .val (.int 3), .val (.int 0), .val (.int 2147483647)] [] (own_q 0 0 0 0 0 0) (fun r _ => r = some (.int 1)) := by
  refine s0_55 ?_
  refine s0_57 ?_
  refine s0_58 (fun h => absurd h (by decide)) (fun _ => ?_)
  refine s0_61 ?_
  refine s0_63 ?_
  refine s0_64 ?_
  refine s0_66 ?_
  refine s0_67 ?_
  refine s0_68 ?_
  refine s0_70 ?_
  refine s0_71q rfl (own_add0 _ _ _ _ _ _ _  own_hp0) rfl (fun v H' q => ?_)
  obtain ⟨rfl, y0_0, y0_1, y0_2, y0_3, y0_4, rfl, hp0, pm0⟩ := q
  refine s0_74 ?_
  refine s0_76 ?_
  refine s0_77 (fun h => absurd h (by decide)) (fun _ => ?_)
  refine s0_80 ?_
  refine s0_82 ?_
  refine s0_83 ?_
  refine s0_85 ?_
  refine s0_86 ?_
  refine s0_87 ?_
  refine s0_89 ?_
  refine s0_90q rfl (own_add1 _ _ _ _ _ _ _  hp0) rfl (fun v H' q => ?_)
  obtain ⟨rfl, y1_0, y1_1, y1_2, y1_3, y1_4, rfl, hp1, pm1⟩ := q
  refine s0_93 ?_
  refine s0_95 ?_
  refine s0_96 (fun h => absurd h (by decide)) (fun _ => ?_)
  refine s0_99 ?_
  refine s0_101 ?_
  refine s0_102 ?_
  refine s0_104 ?_
  refine s0_105 ?_
  refine s0_106 ?_
  refine s0_108 ?_
  refine s0_109q rfl (own_add2 _ _ _ _ _ _ _  hp1) rfl (fun v H' q => ?_)
  obtain ⟨rfl, y2_0, y2_1, y2_2, y2_3, y2_4, rfl, hp2, pm2⟩ := q
  refine s0_112 ?_
  refine s0_114 (fun h => absurd h (by decide)) (fun _ => ?_)
  refine s0_117 ?_
  refine s0_119 rfl (own_empS _ _ _ _ _ _ (by decide)) rfl ?_
  refine s0_122 ?_
  refine s0_124 (fun _ => ?_) (fun h => absurd h (by decide))
  refine s0_131 ?_
  refine s0_132 (fun h => absurd h (by decide)) (fun _ => ?_)
  refine s0_135 ?_
  refine s0_136 ?_
  refine s0_140 rfl ?_
  refine s0_142 ?_
  refine s0_144 ?_
  refine s0_145 (fun h => absurd h (by decide)) (fun _ => ?_)
  refine s0_148 ?_
  refine s0_150q rfl (own_poll3 _ _ _ _ _  hp2) rfl (fun v H' q => ?_)
  obtain ⟨rfl, y3_0, y3_1, y3_2, y3_3, y3_4, rfl, hp3, pm3⟩ := q
  refine s0_153 rfl ?_
  refine s0_154 ?_
  refine s0_156 ?_
  refine s0_157 (fun h => absurd h (by decide)) (fun _ => ?_)
  refine s0_160 ?_
  refine s0_162q rfl (own_poll2 _ _ _ _ _  hp3) rfl (fun v H' q => ?_)
  obtain ⟨rfl, y4_0, y4_1, y4_2, y4_3, y4_4, rfl, hp4, pm4⟩ := q
  refine s0_165 rfl ?_
  refine s0_166 ?_
  refine s0_168 ?_
  refine s0_169 (fun h => absurd h (by decide)) (fun _ => ?_)
  refine s0_172 ?_
  refine s0_174q rfl (own_poll1 _ _ _ _ _  hp4) rfl (fun v H' q => ?_)
  obtain ⟨rfl, y5_0, y5_1, y5_2, y5_3, y5_4, rfl, hp5, pm5⟩ := q
  refine s0_177 rfl ?_
  refine s0_178 ?_
  refine s0_180 (fun h => absurd h (by decide)) (fun _ => ?_)
  refine s0_183 ?_
  refine s0_185 rfl (own_emp0 _ _ _ _ _ ) rfl ?_
  refine s0_188 ?_
  refine s0_190 ?_
  refine s0_192 ?_
  refine s0_193 (fun h => absurd h (by decide)) (fun _ => ?_)
  refine s0_196 ?_
  refine s0_197 ?_
  refine s0_201 (fun h => absurd h (by decide)) (fun _ => ?_)
  refine s0_204 ?_
  refine s0_205 ?_
  refine s0_209 rfl ?_
  refine s0_211 ?_
  refine s0_213 (fun _ => ?_) (fun h => absurd h (by decide))
  refine s0_241 ?_
  exact s0_243 rfl
set_option maxHeartbeats 4000000 in
theorem own_c331 (a b c d ops : Int32) : W0 ⟨5, 14, 110, 112⟩ 55 [.val (.int a), .val (.int b), .val (.int c), .val (.int d), .val (.int ops), .val (.ref 0), .val (.int 1), .val (.int 3), .val (.int 3), .val (.int 1), .val (.int 2147483647)] [] (own_q 0 0 0 0 0 0) (fun r _ => r = some (.int 1)) := by
  refine s0_55 ?_
  refine s0_57 ?_
  refine s0_58 (fun h => absurd h (by decide)) (fun _ => ?_)
  refine s0_61 ?_
  refine s0_63 ?_
  refine s0_64 ?_
  refine s0_66 ?_
  refine s0_67 ?_
  refine s0_68 ?_
  refine s0_70 ?_
  refine s0_71q rfl (own_add0 _ _ _ _ _ _ _  own_hp0) rfl (fun v H' q => ?_)
  obtain ⟨rfl, y0_0, y0_1, y0_2, y0_3, y0_4, rfl, hp0, pm0⟩ := q
  refine s0_74 ?_
  refine s0_76 ?_
  refine s0_77 (fun h => absurd h (by decide)) (fun _ => ?_)
  refine s0_80 ?_
  refine s0_82 ?_
  refine s0_83 ?_
  refine s0_85 ?_
  refine s0_86 ?_
  refine s0_87 ?_
  refine s0_89 ?_
  refine s0_90q rfl (own_add1 _ _ _ _ _ _ _  hp0) rfl (fun v H' q => ?_)
  obtain ⟨rfl, y1_0, y1_1, y1_2, y1_3, y1_4, rfl, hp1, pm1⟩ := q
  refine s0_93 ?_
  refine s0_95 ?_
  refine s0_96 (fun h => absurd h (by decide)) (fun _ => ?_)
  refine s0_99 ?_
  refine s0_101 ?_
  refine s0_102 ?_
  refine s0_104 ?_
  refine s0_105 ?_
  refine s0_106 ?_
  refine s0_108 ?_
  refine s0_109q rfl (own_add2 _ _ _ _ _ _ _  hp1) rfl (fun v H' q => ?_)
  obtain ⟨rfl, y2_0, y2_1, y2_2, y2_3, y2_4, rfl, hp2, pm2⟩ := q
  refine s0_112 ?_
  refine s0_114 (fun h => absurd h (by decide)) (fun _ => ?_)
  refine s0_117 ?_
  refine s0_119 rfl (own_empS _ _ _ _ _ _ (by decide)) rfl ?_
  refine s0_122 ?_
  refine s0_124 (fun _ => ?_) (fun h => absurd h (by decide))
  refine s0_131 ?_
  refine s0_132 (fun h => absurd h (by decide)) (fun _ => ?_)
  refine s0_135 ?_
  refine s0_136 ?_
  refine s0_140 rfl ?_
  refine s0_142 ?_
  refine s0_144 ?_
  refine s0_145 (fun h => absurd h (by decide)) (fun _ => ?_)
  refine s0_148 ?_
  refine s0_150q rfl (own_poll3 _ _ _ _ _  hp2) rfl (fun v H' q => ?_)
  obtain ⟨rfl, y3_0, y3_1, y3_2, y3_3, y3_4, rfl, hp3, pm3⟩ := q
  refine s0_153 rfl ?_
  refine s0_154 ?_
  refine s0_156 ?_
  refine s0_157 (fun h => absurd h (by decide)) (fun _ => ?_)
  refine s0_160 ?_
  refine s0_162q rfl (own_poll2 _ _ _ _ _  hp3) rfl (fun v H' q => ?_)
  obtain ⟨rfl, y4_0, y4_1, y4_2, y4_3, y4_4, rfl, hp4, pm4⟩ := q
  refine s0_165 rfl ?_
  refine s0_166 ?_
  refine s0_168 ?_
  refine s0_169 (fun h => absurd h (by decide)) (fun _ => ?_)
  refine s0_172 ?_
  refine s0_174q rfl (own_poll1 _ _ _ _ _  hp4) rfl (fun v H' q => ?_)
  obtain ⟨rfl, y5_0, y5_1, y5_2, y5_3, y5_4, rfl, hp5, pm5⟩ := q
  refine s0_177 rfl ?_
  refine s0_178 ?_
  refine s0_180 (fun h => absurd h (by decide)) (fun _ => ?_)
  refine s0_183 ?_
  refine s0_185 rfl (own_emp0 _ _ _ _ _ ) rfl ?_
  refine s0_188 ?_
  refine s0_190 ?_
  refine s0_192 ?_
  refine s0_193 (fun h => absurd h (by decide)) (fun _ => ?_)
  refine s0_196 ?_
  refine s0_197 ?_
  refine s0_201 (fun h => absurd h (by decide)) (fun _ => ?_)
  refine s0_204 ?_
  refine s0_205 ?_
  refine s0_209 rfl ?_
  refine s0_211 ?_
  refine s0_213 (fun h => absurd h (by decide)) (fun _ => ?_)
  refine s0_216 ?_
  refine s0_218 rfl (own_clr _ _ _ _ _ _ ) rfl ?_
  refine s0_221 ?_
  refine s0_223 (fun h => absurd h (by decide)) (fun _ => ?_)
  refine s0_226 ?_
  refine s0_228 rfl (own_emp0 _ _ _ _ _ ) rfl ?_
  refine s0_231 (fun h => absurd h (by decide)) (fun _ => ?_)
  refine s0_234 ?_
  refine s0_235 ?_
  refine s0_239 rfl ?_
  refine s0_241 ?_
  exact s0_243 rfl
set_option maxHeartbeats 4000000 in
theorem law_ok (a b c d ops : Int32) : M0 room_1 [.int a, .int b, .int c, .int d, .int ops] [] (fun r _ => r = some (.int 1)) := by
  refine e0 ?_
  refine s0_0 0 rfl rfl ?_
  refine s0_3 rfl ?_
  refine s0_4 own_init rfl ?_
  refine s0_7 rfl ?_
  refine s0_9 ?_
  refine s0_11 rfl (own_emp0 _ _ _ _ _) rfl ?_
  refine s0_14 rfl ?_
  refine s0_16 ?_
  refine s0_18 ?_
  refine s0_19 ?_
  have hn := own_bits ops
  generalize ops &&& 3 = n at hn
  refine s0_20 rfl ?_
  refine s0_22 ?_
  refine s0_24 ?_
  refine s0_25 ?_
  refine s0_26 ?_
  refine s0_27 ?_
  have hq := own_bits (XT.ushr ops 2)
  generalize XT.ushr ops 2 &&& 3 = q at hq
  refine s0_28 ?_
  refine s0_30 (own_minM _ _ _) rfl ?_
  refine s0_33 rfl ?_
  refine s0_35 ?_
  refine s0_37 ?_
  refine s0_38 ?_
  refine s0_39 ?_
  refine s0_40 ?_
  refine b0_41 (fun k hk => ?_)
  refine s0_49 rfl ?_
  refine s0_51 ?_
  refine s0_53 rfl ?_
  have hk' : k = 0 ∨ k = 1 := by rcases hk with ⟨-, h⟩ | ⟨-, h⟩; exact Or.inr h; exact Or.inl h
  rcases hk' with rfl | rfl <;> rcases hn with rfl | rfl | rfl | rfl <;> rcases hq with rfl | rfl | rfl | rfl
  · exact own_c000 a b c d ops
  · exact own_c000 a b c d ops
  · exact own_c000 a b c d ops
  · exact own_c000 a b c d ops
  · exact own_c100 a b c d ops
  · exact own_c110 a b c d ops
  · exact own_c110 a b c d ops
  · exact own_c110 a b c d ops
  · exact own_c200 a b c d ops
  · exact own_c210 a b c d ops
  · exact own_c220 a b c d ops
  · exact own_c220 a b c d ops
  · exact own_c300 a b c d ops
  · exact own_c310 a b c d ops
  · exact own_c320 a b c d ops
  · exact own_c330 a b c d ops
  · exact own_c001 a b c d ops
  · exact own_c001 a b c d ops
  · exact own_c001 a b c d ops
  · exact own_c001 a b c d ops
  · exact own_c101 a b c d ops
  · exact own_c111 a b c d ops
  · exact own_c111 a b c d ops
  · exact own_c111 a b c d ops
  · exact own_c201 a b c d ops
  · exact own_c211 a b c d ops
  · exact own_c221 a b c d ops
  · exact own_c221 a b c d ops
  · exact own_c301 a b c d ops
  · exact own_c311 a b c d ops
  · exact own_c321 a b c d ops
  · exact own_c331 a b c d ops
set_option maxRecDepth 65536 in
set_option maxHeartbeats 4000000 in
theorem comes_1 {Post : Tables → Env → Array Value → State → Outcome → State → Prop} (hpost : ∀ tb e args s v u, (limb_1_1.after args s (.returned v) u = true ∧ limb_1_2.after args s (.returned v) u = true ∧ True) → FrameEnd s (.returned v) u (Jvm.fieldLocs frame_1_writes args s ++ Jvm.arrayLocs frame_1_arrays args s ++ Jvm.staticLocs frame_1_statics s) 16 128 → Post tb e args s (.returned v) u) :
    ArmFor flags0 classFile x code maxLocals ret World_1 tables_1 room_1 Calls_1 rest_1 Pre_1 Post := by
  intro l hfl _ _ p e ha hc hk s m args below hf hA hF happ hP
  obtain ⟨hcalls, hrest, hpre⟩ := hP
  obtain ⟨-, -, -, hnamed, -, -, -, hat⟩ := (Spec.applies_iff hf).mp happ
  obtain ⟨hg, hn⟩ := and_e (Cond.before_iff.mp (show (Jvm.Cond.and given_1 narrow_1).before args s = true from hpre))
  obtain ⟨hg0, hg⟩ := and_e hg
  obtain ⟨hk0, hg⟩ := and_e hg
  obtain ⟨hk1, hg⟩ := and_e hg
  obtain ⟨hk2, hg⟩ := and_e hg
  obtain ⟨hk3, hg⟩ := and_e hg
  have hk4 := hg
  obtain ⟨w0, w1, w2, w3, w4, rfl⟩ : ∃ w0 w1 w2 w3 w4 : Value, args = #[w0, w1, w2, w3, w4] := by
    have hs : args.size = 5 := by simpa [Cond.value, given_1] using hg0
    obtain ⟨L⟩ := args
    match L, hs with
    | [w0, w1, w2, w3, w4], _ => exact ⟨w0, w1, w2, w3, w4, rfl⟩
  have hw := fun d (hd : d ∈ tables_1) => atoms_spec (ws := Jvm.Cond.code x code maxLocals ret :: tables_1) hat d (List.mem_cons_of_mem _ hd)
  obtain ⟨i0, e0⟩ := is_v hk0
  obtain rfl : w0 = (.int i0) := Option.some.inj e0
  obtain ⟨i1, e1⟩ := is_v hk1
  obtain rfl : w1 = (.int i1) := Option.some.inj e1
  obtain ⟨i2, e2⟩ := is_v hk2
  obtain rfl : w2 = (.int i2) := Option.some.inj e2
  obtain ⟨i3, e3⟩ := is_v hk3
  obtain rfl : w3 = (.int i3) := Option.some.inj e3
  obtain ⟨i4, e4⟩ := is_v hk4
  obtain rfl : w4 = (.int i4) := Option.some.inj e4
  obtain ⟨n, o, h1, h2, h3, _, L, rfl, ⟨v', H', rfl, hR, rfl, N⟩, hq⟩ := law_ok i0 i1 i2 i3 i4 s _ hw l s.heap tables_1 (Rel.start s KT) p e ha hc hk s m _ below hf ((Spec.applies_iff_loose hf).mp happ).1 ⟨rfl, State.Warmed39.refl s, rfl⟩ trivial
  refine ⟨n, _, h1, h2, h3, hpost _ _ _ _ _ _ ⟨Cond.after_iff.mpr rfl, Cond.after_iff.mpr (eq_i res_at (Term.int_eval (1)) rfl), trivial⟩ ⟨hq.1, hq.2.1, (hq.2.2.sift fun y hy => Or.inr (N y hy)).mono (by decide) (by decide)⟩⟩
theorem main_1_1 : Claimed_1_1 := comes_1 fun _ _ _ _ _ _ h hF => ⟨h.1, hF⟩
theorem main_1_2 : Claimed_1_2 := comes_1 fun _ _ _ _ _ _ h hF => ⟨h.2.1, hF⟩
end Jvm.Pilot.@@N@@
namespace Jvm.Pilot.@@N@@
open Jvm Jvm.ClassFile Sem Op Lib Jvm.Free Jvm.Stand Jvm.Pilot.@@N@@.Jvm.D
/-! MADE BY PROGRAM (witnessworld.py) out of the Statement's table words and the real class files: 12 classes; the members and pool entries that the words name. The judged class is class 1, her method 1. -/
namespace start1
open Jvm.ClassFile
def u (s : String) : CpInfo := .utf8 (stringToUtf16 s)
/-- a pool by its gaps: so many unusable entries, then the entry; so many at the end -/
def gap : Nat → List CpInfo → List CpInfo
  | 0, r => r
  | n + 1, r => .unusable :: gap n r
def poolList (es : List (Nat × CpInfo)) (last : Nat) : List CpInfo := es.foldr (fun e r => gap e.1 (e.2 :: r)) (gap last [])
def pool (es : List (Nat × CpInfo)) (last : Nat) : Array CpInfo := ⟨poolList es last⟩
def fileOf (pool : Array CpInfo) (this : Nat) (attrs : Array Attribute := #[]) (ms : Array MethodInfo := #[]) (fl : Nat := 33) (sup : Nat := 0) (ifs : Array Nat := #[]) (fds : Array FieldInfo := #[]) : ClassFile where
  minorVersion := 0
  majorVersion := 65
  constantPool := pool
  accessFlags := fl
  thisClass := this
  superClass := sup
  interfaces := ifs
  fields := fds
  methods := ms
  attributes := attrs
def plain (name : String) (sup : Option ClassId) : Class where
  name := name
  kind := .ordinary
  loader := none
  accessFlags := 33
  super := sup
  interfaces := #[]
  cf := none
  fields := #[]
  methods := #[]
  instanceTypes := #[]
  staticTypes := #[]
  resolved := #[]
  callSites := []
  init := .initialized
  statics := none
  mirror := none

def pool0 : Array CpInfo := pool [(5, u "<init>"), (0, u "()V"), (1, .class_ 10), (1, u "java/lang/Object")] 113

def k0c0 : Code := { maxStack := 0, maxLocals := 1, code := object_method_1_code, exceptionTable := #[], attributes := #[] }
def k0m0 : Method := { name := "<init>", desc := "()V", sig := { parameters := [], returnType := none }, accessFlags := 1, code := some k0c0 }
/-- java/lang/Object -/
def k0 : Class := { plain "java/lang/Object" none with
  accessFlags := 33
  interfaces := #[]
  cf := some (fileOf pool0 8 #[] #[{ accessFlags := 1, nameIndex := 5, descriptorIndex := 6, attributes := #[] }] 33 0 #[] #[])
  fields := #[]
  methods := #[k0m0]
  instanceTypes := #[]
  staticTypes := #[]
  resolved := Array.replicate 124 none
  statics := none }

def pool1 : Array CpInfo := pool [(2, .class_ 4), (0, .nameAndType 5 6), (0, u "java/lang/Object"), (0, u "<init>"), (0, u "()V"), (0, .class_ 8), (0, u "com/example/chainwright/chainwright/core/StageQueue"), (0, .methodref 7 3), (0, .methodref 7 11), (0, .nameAndType 12 13), (0, u "isEmpty"), (0, u "()Z"), (0, .methodref 15 16), (0, .class_ 17), (0, .nameAndType 18 19), (0, u "java/lang/Math"), (0, u "min"), (0, u "(II)I"), (0, .integer 2147483647), (0, .methodref 7 22), (0, .nameAndType 23 24), (0, u "add"), (0, u "(II)V"), (0, .methodref 7 26), (0, .nameAndType 27 28), (0, u "poll"), (0, u "()I"), (0, .methodref 7 30), (0, .nameAndType 31 6), (0, u "clear"), (0, .class_ 33), (0, u "com/example/chainwright/chainwright/core/StageQueueIsEmptyPinLaw"), (2, u "law"), (0, u "(IIIII)Z")] 3

def k1m0 : Method := { name := "<init>", desc := "()V", sig := { parameters := [], returnType := none }, accessFlags := 2, code := none }
def k1c1 : Code := { maxStack := 4, maxLocals := 11, code := code, exceptionTable := #[], attributes := #[] }
def k1m1 : Method := { name := "law", desc := "(IIIII)Z", sig := { parameters := [.int, .int, .int, .int, .int], returnType := some .boolean }, accessFlags := 9, code := some k1c1 }
/-- com/example/chainwright/chainwright/core/StageQueueIsEmptyPinLaw -/
def k1 : Class := { plain "com/example/chainwright/chainwright/core/StageQueueIsEmptyPinLaw" (some 0) with
  accessFlags := 49
  interfaces := #[]
  cf := some (fileOf pool1 32 #[] #[{ accessFlags := 2, nameIndex := 5, descriptorIndex := 6, attributes := #[] }, { accessFlags := 9, nameIndex := 36, descriptorIndex := 37, attributes := #[] }] 49 2 #[] #[])
  fields := #[]
  methods := #[k1m0, k1m1]
  instanceTypes := #[]
  staticTypes := #[]
  resolved := Array.replicate 41 none
  statics := none }

def pool2 : Array CpInfo := pool [(1, .methodref 2 3), (0, .class_ 4), (0, .nameAndType 5 6), (0, u "java/lang/Object"), (0, u "<init>"), (0, u "()V"), (0, .fieldref 8 9), (0, .class_ 10), (0, .nameAndType 11 12), (0, u "com/example/chainwright/chainwright/core/StageQueue"), (0, u "heap"), (0, u "[J"), (0, .fieldref 8 14), (0, .nameAndType 15 16), (0, u "size"), (0, u "I"), (10, u "add"), (0, u "(II)V"), (1, u "isEmpty"), (0, u "()Z"), (1, u "()I"), (0, u "poll"), (0, u "clear")] 2

def k2c0 : Code := { maxStack := 2, maxLocals := 1, code := prog_35_method_1_code, exceptionTable := #[], attributes := #[] }
def k2m0 : Method := { name := "<init>", desc := "()V", sig := { parameters := [], returnType := none }, accessFlags := 0, code := some k2c0 }
def k2c1 : Code := { maxStack := 5, maxLocals := 6, code := prog_35_method_2_code, exceptionTable := #[], attributes := #[] }
def k2m1 : Method := { name := "add", desc := "(II)V", sig := { parameters := [.int, .int], returnType := none }, accessFlags := 0, code := some k2c1 }
def k2c2 : Code := { maxStack := 1, maxLocals := 1, code := prog_35_method_3_code, exceptionTable := #[], attributes := #[] }
def k2m2 : Method := { name := "isEmpty", desc := "()Z", sig := { parameters := [], returnType := some .boolean }, accessFlags := 0, code := some k2c2 }
def k2c3 : Code := { maxStack := 4, maxLocals := 6, code := prog_35_method_5_code, exceptionTable := #[], attributes := #[] }
def k2m3 : Method := { name := "poll", desc := "()I", sig := { parameters := [], returnType := some .int }, accessFlags := 0, code := some k2c3 }
def k2c4 : Code := { maxStack := 2, maxLocals := 1, code := prog_35_method_6_code, exceptionTable := #[], attributes := #[] }
def k2m4 : Method := { name := "clear", desc := "()V", sig := { parameters := [], returnType := none }, accessFlags := 0, code := some k2c4 }
/-- com/example/chainwright/chainwright/core/StageQueue -/
def k2 : Class := { plain "com/example/chainwright/chainwright/core/StageQueue" (some 0) with
  accessFlags := 48
  interfaces := #[]
  cf := some (fileOf pool2 8 #[] #[{ accessFlags := 0, nameIndex := 5, descriptorIndex := 6, attributes := #[] }, { accessFlags := 0, nameIndex := 27, descriptorIndex := 28, attributes := #[] }, { accessFlags := 0, nameIndex := 30, descriptorIndex := 31, attributes := #[] }, { accessFlags := 0, nameIndex := 34, descriptorIndex := 33, attributes := #[] }, { accessFlags := 0, nameIndex := 35, descriptorIndex := 6, attributes := #[] }] 48 2 #[] #[{ accessFlags := 2, nameIndex := 11, descriptorIndex := 12, attributes := #[] }, { accessFlags := 2, nameIndex := 15, descriptorIndex := 16, attributes := #[] }])
  fields := #[{ name := "heap", type := (.array .long), accessFlags := 2, slot := 0, constantValue := 0 }, { name := "size", type := .int, accessFlags := 2, slot := 1, constantValue := 0 }]
  methods := #[k2m0, k2m1, k2m2, k2m3, k2m4]
  instanceTypes := #[(.array .long), .int]
  staticTypes := #[]
  resolved := Array.replicate 38 none
  statics := none }

def pool3 : Array CpInfo := pool [(1, .class_ 2), (0, u "java/lang/Math"), (1, .class_ 6), (1, u "java/lang/Object"), (0, u "<init>"), (0, u "()V"), (89, .class_ 100), (1, u "java/lang/Math$RandomNumberGeneratorHolder"), (71, u "negativeZeroFloatBits"), (0, u "J"), (2, u "negativeZeroDoubleBits"), (24, u "min"), (43, u "$assertionsDisabled"), (0, u "Z"), (88, u "(II)I"), (2, u "twoToTheDoubleScaleDown"), (0, u "D"), (4, u "twoToTheDoubleScaleUp"), (9, u "E"), (3, u "PI"), (2, u "TAU"), (2, u "DEGREES_TO_RADIANS"), (0, u "RADIANS_TO_DEGREES")] 94

def k3m0 : Method := { name := "<init>", desc := "()V", sig := { parameters := [], returnType := none }, accessFlags := 2, code := none }
def k3c1 : Code := { maxStack := 2, maxLocals := 2, code := jdk_29_method_69_code, exceptionTable := #[], attributes := #[] }
def k3m1 : Method := { name := "min", desc := "(II)I", sig := { parameters := [.int, .int], returnType := some .int }, accessFlags := 9, code := some k3c1 }
/-- java/lang/Math -/
def k3 : Class := { plain "java/lang/Math" (some 0) with
  accessFlags := 49
  interfaces := #[]
  cf := some (fileOf pool3 1 #[.nestMembers #[98]] #[{ accessFlags := 2, nameIndex := 7, descriptorIndex := 8, attributes := #[] }, { accessFlags := 9, nameIndex := 201, descriptorIndex := 335, attributes := #[] }] 49 4 #[] #[{ accessFlags := 25, nameIndex := 354, descriptorIndex := 339, attributes := #[] }, { accessFlags := 25, nameIndex := 358, descriptorIndex := 339, attributes := #[] }, { accessFlags := 25, nameIndex := 361, descriptorIndex := 339, attributes := #[] }, { accessFlags := 26, nameIndex := 364, descriptorIndex := 339, attributes := #[] }, { accessFlags := 26, nameIndex := 365, descriptorIndex := 339, attributes := #[] }, { accessFlags := 26, nameIndex := 172, descriptorIndex := 173, attributes := #[] }, { accessFlags := 26, nameIndex := 176, descriptorIndex := 173, attributes := #[] }, { accessFlags := 8, nameIndex := 344, descriptorIndex := 339, attributes := #[] }, { accessFlags := 8, nameIndex := 338, descriptorIndex := 339, attributes := #[] }, { accessFlags := 4120, nameIndex := 245, descriptorIndex := 246, attributes := #[] }])
  fields := #[{ name := "E", type := .double, accessFlags := 25, slot := 0, constantValue := 0 }, { name := "PI", type := .double, accessFlags := 25, slot := 1, constantValue := 0 }, { name := "TAU", type := .double, accessFlags := 25, slot := 2, constantValue := 0 }, { name := "DEGREES_TO_RADIANS", type := .double, accessFlags := 26, slot := 3, constantValue := 0 }, { name := "RADIANS_TO_DEGREES", type := .double, accessFlags := 26, slot := 4, constantValue := 0 }, { name := "negativeZeroFloatBits", type := .long, accessFlags := 26, slot := 5, constantValue := 0 }, { name := "negativeZeroDoubleBits", type := .long, accessFlags := 26, slot := 6, constantValue := 0 }, { name := "twoToTheDoubleScaleUp", type := .double, accessFlags := 8, slot := 7, constantValue := 0 }, { name := "twoToTheDoubleScaleDown", type := .double, accessFlags := 8, slot := 8, constantValue := 0 }, { name := "$assertionsDisabled", type := .boolean, accessFlags := 4120, slot := 9, constantValue := 0 }]
  methods := #[k3m0, k3m1]
  instanceTypes := #[]
  staticTypes := #[.double, .double, .double, .double, .double, .long, .long, .double, .double, .boolean]
  resolved := Array.replicate 460 none
  statics := none }

def pool4 : Array CpInfo := pool [(1, u "java/lang/Cloneable"), (0, .class_ 1), (0, u "java/lang/Object"), (0, .class_ 3)] 3

/-- java/lang/Cloneable -/
def k4 : Class := { plain "java/lang/Cloneable" (some 0) with
  accessFlags := 1537
  interfaces := #[]
  cf := some (fileOf pool4 2 #[] #[] 1537 4 #[] #[])
  fields := #[]
  methods := #[]
  instanceTypes := #[]
  staticTypes := #[]
  resolved := Array.replicate 8 none
  statics := none }

def pool5 : Array CpInfo := pool [(1, u "java/io/Serializable"), (0, .class_ 1), (0, u "java/lang/Object"), (0, .class_ 3)] 3

/-- java/io/Serializable -/
def k5 : Class := { plain "java/io/Serializable" (some 0) with
  accessFlags := 1537
  interfaces := #[]
  cf := some (fileOf pool5 2 #[] #[] 1537 4 #[] #[])
  fields := #[]
  methods := #[]
  instanceTypes := #[]
  staticTypes := #[]
  resolved := Array.replicate 8 none
  statics := none }

/-- the primitive byte -/
def k6 : Class := { plain "byte" none with kind := .primitive 'B', accessFlags := 0x411 }
/-- [B -/
def k7 : Class := { plain "[B" (some 0) with kind := .array 6 .byte, interfaces := #[4, 5], accessFlags := 1041 }

/-- the primitive int -/
def k8 : Class := { plain "int" none with kind := .primitive 'I', accessFlags := 0x411 }
/-- [I -/
def k9 : Class := { plain "[I" (some 0) with kind := .array 8 .int, interfaces := #[4, 5], accessFlags := 1041 }

/-- the primitive long -/
def k10 : Class := { plain "long" none with kind := .primitive 'J', accessFlags := 0x411 }
/-- [J -/
def k11 : Class := { plain "[J" (some 0) with kind := .array 10 .long, interfaces := #[4, 5], accessFlags := 1041 }

def heap : Heap := #[]
def classes : Array Class := #[k0, k1, k2, k3, k4, k5, k6, k7, k8, k9, k10, k11]
def interned : List (Array UInt16 × Addr) := []
def slotsUsed : Nat := 0
def theMethod : MethodId := ⟨1, 1⟩
def args0 : Array Value := #[.int 5, .int 3, .int 2, .int 1, .int 15]
def aboutOver (below : List Frame) : State where
  vm := { classes := classes, interned := interned.toArray }
  heap := heap
  slotsUsed := slotsUsed
  threads := #[{ frames := .invoking theMethod args0 :: below }]
def below0 : List Frame := [.native { method := ⟨0, 0⟩, args := #[] }]
def about1 : State := aboutOver below0
def p0 : Program := .bare "" "" ""
def e0 : Env := launch0.env 0 0 0
theorem w_frames : about1.frames = Frame.invoking theMethod args0 :: below0 := rfl
set_option maxRecDepth 65536 in
theorem w_args : argsFit about1.vm theMethod args0 = true := by decide +kernel
set_option maxRecDepth 65536 in
theorem w_heap : heapFits about1 = true := by decide +kernel
set_option maxRecDepth 65536 in
theorem w_runnable : about1.curStatus? = some .runnable := by decide +kernel
set_option maxRecDepth 65536 in
theorem w_alone : about1.alone = true := by decide +kernel
set_option maxRecDepth 65536 in
theorem w_named : about1.methodNamed? x = some theMethod := by decide +kernel
set_option maxRecDepth 65536 in
theorem w_hears : about1.hears theMethod below0 = true := by decide +kernel
set_option maxRecDepth 65536 in
theorem w_ripe : about1.ripe theMethod args0 below0 = true := by decide +kernel
theorem w_running : about1.status = .running := rfl
set_option maxRecDepth 65536 in
theorem w_room : about1.hasRoom e0.platform room_1 = true :=
  launch0.hasRoom_least _ room_1 (by decide +kernel) (by decide +kernel) (by decide +kernel) (by decide +kernel) (by decide +kernel) (by decide +kernel)
theorem allAtoms_all (ts : List Jvm.Cond) (a : Array Jvm.Value) (st : Jvm.State) : (allAtoms ts).before a st = ts.all (fun c => c.before a st) := by
  induction ts with
  | nil => rfl
  | cons c t ih =>
    show (Jvm.Cond.and c (allAtoms t)).before a st = _
    rw [Jvm.Cond.before_and, ih, List.all_cons]
def words1 : List Jvm.Cond := Jvm.Cond.code x code maxLocals ret :: tables_1
/-- a 'code' word, met by the world's own term for the bytes: nothing is compared byte by byte -/
theorem code_word {y : MethodName} {bytes : ByteArray} {mx : Nat} {rt : Option FieldType} {a : Array Value} {s : State} {m : MethodId} {meth : Method} {c : Code} (h1 : s.methodNamed? y = some m) (h2 : s.vm.method? m = some meth) (h3 : meth.code = some c) (h4 : c.code = bytes)
    (h5 : (c.maxLocals == mx && c.exceptionTable.isEmpty && decide (c.maxStack ≤ mostOperands) && decide (meth.sig.returnType = rt) && !meth.locks && decide (parseMethodDescriptor y.desc = some meth.sig)) = true) : (Jvm.Cond.code y bytes mx rt).before a s = true := by
  simp only [Bool.and_eq_true, beq_iff_eq, Bool.not_eq_true', decide_eq_true_eq] at h5
  obtain ⟨⟨⟨⟨⟨g1, g2⟩, g3⟩, g4⟩, g5⟩, g6⟩ := h5
  simp [Cond.before, Cond.holds, Cond.value, h1, h2, h3, h4, g1, g2, g3, g4, g5, g6]
def isCode : Jvm.Cond → Bool
  | .code _ _ _ _ => true
  | _ => false
theorem all_split {L : List Jvm.Cond} {P : Jvm.Cond → Bool} (h1 : L.all (fun c => isCode c || P c) = true) (h2 : ∀ c ∈ L.filter isCode, P c = true) : L.all P = true := by
  refine List.all_eq_true.mpr fun c hc => ?_
  have h := List.all_eq_true.mp h1 c hc
  rcases Bool.eq_false_or_eq_true (isCode c) with hi | hi
  · exact h2 c (List.mem_filter.mpr ⟨hc, hi⟩)
  · simpa [hi] using h
set_option maxRecDepth 65536 in
theorem w_c0 : (Jvm.Cond.code x code maxLocals ret).before args0 about1 = true := code_word (m := ⟨1, 1⟩) (meth := k1m1) (c := k1c1) (by decide +kernel) rfl rfl rfl (by decide +kernel)
set_option maxRecDepth 65536 in
theorem w_c1 : (Jvm.Cond.code ({ cls := "com/example/chainwright/chainwright/core/StageQueue", name := "<init>", desc := "()V" } : Jvm.MethodName) prog_35_method_1_code (1 : Nat) (Option.none : Option Jvm.ClassFile.FieldType)).before args0 about1 = true := code_word (m := ⟨2, 0⟩) (meth := k2m0) (c := k2c0) (by decide +kernel) rfl rfl rfl (by decide +kernel)
set_option maxRecDepth 65536 in
theorem w_c2 : (Jvm.Cond.code ({ cls := "java/lang/Object", name := "<init>", desc := "()V" } : Jvm.MethodName) object_method_1_code (1 : Nat) (Option.none : Option Jvm.ClassFile.FieldType)).before args0 about1 = true := code_word (m := ⟨0, 0⟩) (meth := k0m0) (c := k0c0) (by decide +kernel) rfl rfl rfl (by decide +kernel)
set_option maxRecDepth 65536 in
theorem w_c3 : (Jvm.Cond.code ({ cls := "com/example/chainwright/chainwright/core/StageQueue", name := "isEmpty", desc := "()Z" } : Jvm.MethodName) prog_35_method_3_code (1 : Nat) (Option.some Jvm.ClassFile.FieldType.boolean)).before args0 about1 = true := code_word (m := ⟨2, 2⟩) (meth := k2m2) (c := k2c2) (by decide +kernel) rfl rfl rfl (by decide +kernel)
set_option maxRecDepth 65536 in
theorem w_c4 : (Jvm.Cond.code ({ cls := "java/lang/Math", name := "min", desc := "(II)I" } : Jvm.MethodName) jdk_29_method_69_code (2 : Nat) (Option.some Jvm.ClassFile.FieldType.int)).before args0 about1 = true := code_word (m := ⟨3, 1⟩) (meth := k3m1) (c := k3c1) (by decide +kernel) rfl rfl rfl (by decide +kernel)
set_option maxRecDepth 65536 in
theorem w_c5 : (Jvm.Cond.code ({ cls := "com/example/chainwright/chainwright/core/StageQueue", name := "add", desc := "(II)V" } : Jvm.MethodName) prog_35_method_2_code (6 : Nat) (Option.none : Option Jvm.ClassFile.FieldType)).before args0 about1 = true := code_word (m := ⟨2, 1⟩) (meth := k2m1) (c := k2c1) (by decide +kernel) rfl rfl rfl (by decide +kernel)
set_option maxRecDepth 65536 in
theorem w_c6 : (Jvm.Cond.code ({ cls := "com/example/chainwright/chainwright/core/StageQueue", name := "poll", desc := "()I" } : Jvm.MethodName) prog_35_method_5_code (6 : Nat) (Option.some Jvm.ClassFile.FieldType.int)).before args0 about1 = true := code_word (m := ⟨2, 3⟩) (meth := k2m3) (c := k2c3) (by decide +kernel) rfl rfl rfl (by decide +kernel)
set_option maxRecDepth 65536 in
theorem w_c7 : (Jvm.Cond.code ({ cls := "com/example/chainwright/chainwright/core/StageQueue", name := "clear", desc := "()V" } : Jvm.MethodName) prog_35_method_6_code (1 : Nat) (Option.none : Option Jvm.ClassFile.FieldType)).before args0 about1 = true := code_word (m := ⟨2, 4⟩) (meth := k2m4) (c := k2c4) (by decide +kernel) rfl rfl rfl (by decide +kernel)
def codes1 : List Jvm.Cond := [Jvm.Cond.code x code maxLocals ret, Jvm.Cond.code ({ cls := "com/example/chainwright/chainwright/core/StageQueue", name := "<init>", desc := "()V" } : Jvm.MethodName) prog_35_method_1_code (1 : Nat) (Option.none : Option Jvm.ClassFile.FieldType), Jvm.Cond.code ({ cls := "java/lang/Object", name := "<init>", desc := "()V" } : Jvm.MethodName) object_method_1_code (1 : Nat) (Option.none : Option Jvm.ClassFile.FieldType), Jvm.Cond.code ({ cls := "com/example/chainwright/chainwright/core/StageQueue", name := "isEmpty", desc := "()Z" } : Jvm.MethodName) prog_35_method_3_code (1 : Nat) (Option.some Jvm.ClassFile.FieldType.boolean), Jvm.Cond.code ({ cls := "java/lang/Math", name := "min", desc := "(II)I" } : Jvm.MethodName) jdk_29_method_69_code (2 : Nat) (Option.some Jvm.ClassFile.FieldType.int), Jvm.Cond.code ({ cls := "com/example/chainwright/chainwright/core/StageQueue", name := "add", desc := "(II)V" } : Jvm.MethodName) prog_35_method_2_code (6 : Nat) (Option.none : Option Jvm.ClassFile.FieldType), Jvm.Cond.code ({ cls := "com/example/chainwright/chainwright/core/StageQueue", name := "poll", desc := "()I" } : Jvm.MethodName) prog_35_method_5_code (6 : Nat) (Option.some Jvm.ClassFile.FieldType.int), Jvm.Cond.code ({ cls := "com/example/chainwright/chainwright/core/StageQueue", name := "clear", desc := "()V" } : Jvm.MethodName) prog_35_method_6_code (1 : Nat) (Option.none : Option Jvm.ClassFile.FieldType)]
set_option maxRecDepth 65536 in
theorem codes_eq : words1.filter isCode = codes1 := rfl
theorem w_codes : ∀ c ∈ words1.filter isCode, c.before args0 about1 = true := by
  rw [codes_eq]
  intro c hc
  simp only [codes1, List.mem_cons, List.not_mem_nil, or_false] at hc
  rcases hc with rfl | rfl | rfl | rfl | rfl | rfl | rfl | rfl
  · exact w_c0
  · exact w_c1
  · exact w_c2
  · exact w_c3
  · exact w_c4
  · exact w_c5
  · exact w_c6
  · exact w_c7
set_option maxRecDepth 65536 in
theorem w_t1 : (words1.take 24).all (fun c => isCode c || c.before args0 about1) = true := by decide +kernel
set_option maxRecDepth 65536 in
theorem w_t2 : (words1.drop 24).all (fun c => isCode c || c.before args0 about1) = true := by decide +kernel
theorem w_tables : (allAtoms (Jvm.Cond.code x code maxLocals ret :: tables_1)).before args0 about1 = true := by
  rw [allAtoms_all]
  show words1.all (fun c => c.before args0 about1) = true
  refine all_split ?_ w_codes
  rw [← List.take_append_drop 24 words1, List.all_append, w_t1, w_t2]
  rfl
set_option maxRecDepth 65536 in
theorem w_case : (Jvm.Cond.and given_1 narrow_1).before args0 about1 = true := by decide +kernel
theorem w_applies : (headSpec (Jvm.Cond.code x code maxLocals ret :: tables_1) room_1).applies x e0.platform about1 = true :=
  (Spec.applies_iff w_frames).mpr ⟨w_running, w_runnable, w_alone, w_named, w_hears, w_ripe, w_room, w_tables⟩
theorem atStart : AtStart classFile x code maxLocals ret World_1 tables_1 room_1 Calls_1 rest_1 Pre_1 launch0 p0 e0 about1 theMethod args0 below0 :=
  ⟨lists_1, trivial, launch0.admits_env _ _ _, launch0.least_env, fairChoices_fair.cas, fairChoices_fair.clock, w_frames, w_args, w_heap, w_applies, trivial, trivial, w_case⟩
end start1
theorem witness_1 : WitnessClaimed_1 := ⟨start1.p0, start1.e0, start1.about1, start1.theMethod, start1.args0, start1.below0, start1.atStart⟩
end Jvm.Pilot.@@N@@
