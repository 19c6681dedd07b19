import JvmDerived
import JvmDerived.Pilot.@@N@@Statement
import JvmDerived.Pilot.@@N@@Code
set_option linter.unusedVariables false
set_option linter.unusedSimpArgs false
namespace Jvm.RoadKit
open Sem ClassFile Op Lib Jvm.Stand Jvm.Free Jvm.LawKit
section New
variable {p : Program} {l : Launch} {e : Env} {R : Room} {s : State} {m : MethodId} {args : Array Value} {below : List Frame} {meth : Method} {c : Code} {T : State} {locs : List Loc} {cells slots : Nat}
theorem retI (X : Stand p l e R s m args below meth c T locs cells slots) (hx : p.tables.exec = Jvm.exec) {pc : Nat} {Ls : Array Slot} {z : Int32} {rest : List Value} (hret : meth.sig.returnType = some .int) (hd : decode c.code pc = .ok (.ireturn, 1)) {fs : List Frame}
    (hl : ∀ (f : JFrame) (acts : List Action), f.method = m → f.locked = none → f.entered = [] → (doReturn e (T.setTop f) acts (some (.int z))).1 = T.setFrames fs) : Steps p.tables e below (T.setTop (mkF m pc Ls (.int z :: rest))) (T.setFrames fs) := by
  have hm' : T.vm.method? m = some meth := X.method'
  have hn : narrow .int (.int z) = .int z := rfl
  show Steps p.tables e below (T.setTop { method := m, pc := pc, locals := Ls, stack := _ :: rest, locked := none }) _
  jvm_step X.here [X.here.top, hx, hd, hm', hret, hn]
  first | (intro acts; rw [hl _ acts rfl rfl rfl]) | rw [hl _ _ rfl rfl rfl]
  exact Steps.refl _
end New
end Jvm.RoadKit
namespace Jvm.Wp
open Sem ClassFile Op Lib Jvm.Free Jvm.Stand Jvm.LawKit Jvm.RoadKit

/-- a cell of the walk's own small heap: an array (its kind, its values) or an object (its class, its fields: name, descriptor, value) -/
abbrev MC : Type := Sum (FieldType × List Value) (String × List (String × String × Value))
abbrev MH : Type := List (Addr × MC)
def COk (Z : State) (a0 : Array Value) (h : Heap) (a : Addr) : MC → Prop
  | .inl (ty, vs) => ∃ c : Cell, Arr Z h a c ty ∧ c.slots = vs.toArray ∧ vs.length < 2 ^ 31
  | .inr (C, fs) => Exa Z h a C ∧ (fs.map (·.1)).Nodup ∧ ∀ x ∈ fs, Fld Z h a C x.1 x.2.1 x.2.2 ∧ Laid Z a0 C C x.1 x.2.1 ∧ ∃ t, parseFieldDescriptor x.2.1 = some t
def Rel (Z : State) (a0 : Array Value) (n0 : Nat) (H : MH) (h : Heap) : Prop := n0 ≤ h.size ∧ (H.map (·.1)).Nodup ∧ ∀ x ∈ H, n0 ≤ x.1 ∧ COk Z a0 h x.1 x.2

theorem idx_eq {j : Int32} {i : Nat} (hj : j.toInt = (i : Int)) : j.toNatClampNeg = i := by
  show j.toInt.toNat = i
  rw [hj]; simp
theorem idx_ok {j : Int32} {i n : Nat} (hj : j.toInt = (i : Int)) (hi : i < n) : ¬ (j < 0 ∨ n ≤ j.toNatClampNeg) := by
  rw [idx_eq hj, Int32.lt_iff_toInt_lt, hj]
  simp; omega
theorem COk.lt {Z : State} {a0 : Array Value} {h : Heap} {a : Addr} {c : MC} (k : COk Z a0 h a c) : a < h.size := by
  cases c with
  | inl q => obtain ⟨ty, vs⟩ := q; obtain ⟨c, A, -⟩ := k; exact A.lt
  | inr q => obtain ⟨C, fs⟩ := q; exact k.1.lt
theorem COk.ext {Z : State} {a0 : Array Value} {h h' : Heap} {a : Addr} {c : MC} (E : Ext h h') (k : COk Z a0 h a c) : COk Z a0 h' a c := by
  cases c with
  | inl q => obtain ⟨ty, vs⟩ := q; obtain ⟨c, A, r⟩ := k; exact ⟨c, A.ext E, r⟩
  | inr q => obtain ⟨C, fs⟩ := q; exact ⟨k.1.ext E, k.2.1, fun x hx => ⟨(k.2.2 x hx).1.ext E, (k.2.2 x hx).2⟩⟩
theorem COk.other {Z : State} {a0 : Array Value} {h h' : Heap} {a b : Addr} {sl : Nat} {v : Value} {c : MC} (W : Wr h h' b sl v) (hne : a ≠ b) (k : COk Z a0 h a c) : COk Z a0 h' a c := by
  cases c with
  | inl q => obtain ⟨ty, vs⟩ := q; obtain ⟨c, A, r⟩ := k; exact ⟨c, A.other W hne, r⟩
  | inr q => obtain ⟨C, fs⟩ := q; exact ⟨k.1.wr W, k.2.1, fun x hx => ⟨(k.2.2 x hx).1.other W (Or.inl hne), (k.2.2 x hx).2⟩⟩
theorem COk.setArr {Z : State} {a0 : Array Value} {h h' : Heap} {a : Addr} {ty : FieldType} {vs : List Value} {i : Nat} {v : Value} (W : Wr h h' a i v) (k : COk Z a0 h a (.inl (ty, vs))) : COk Z a0 h' a (.inl (ty, vs.set i v)) := by
  obtain ⟨c, A, e, r⟩ := k
  refine ⟨_, A.same W, ?_, by simpa using r⟩
  show c.slots.setIfInBounds i v = _
  rw [e]; simp
theorem Rel.ext {Z : State} {a0 : Array Value} {n0 : Nat} {H : MH} {h h' : Heap} (E : Ext h h') (r : Rel Z a0 n0 H h) : Rel Z a0 n0 H h' := ⟨Nat.le_trans r.1 E.1, r.2.1, fun x hx => ⟨(r.2.2 x hx).1, (r.2.2 x hx).2.ext E⟩⟩
theorem Rel.push {Z : State} {a0 : Array Value} {n0 : Nat} {H : MH} {h h' : Heap} {c : MC} (E : Ext h h') (r : Rel Z a0 n0 H h) (k : COk Z a0 h' h.size c) : Rel Z a0 n0 ((h.size, c) :: H) h' := by
  refine ⟨Nat.le_trans r.1 E.1, ?_, fun x hx => ?_⟩
  · rw [List.map_cons, List.nodup_cons]
    refine ⟨fun q => ?_, r.2.1⟩
    obtain ⟨x, hx, e⟩ := List.mem_map.mp q
    have h1 := (r.2.2 x hx).2.lt
    rw [e] at h1
    exact Nat.lt_irrefl _ h1
  · rcases List.mem_cons.mp hx with rfl | q
    · exact ⟨r.1, k⟩
    · exact ⟨(r.2.2 x q).1, (r.2.2 x q).2.ext E⟩
theorem Rel.set {Z : State} {a0 : Array Value} {n0 : Nat} {pre post : MH} {h h' : Heap} {a : Addr} {c c' : MC} {sl : Nat} {v : Value} (W : Wr h h' a sl v) (r : Rel Z a0 n0 (pre ++ (a, c) :: post) h) (k : COk Z a0 h a c → COk Z a0 h' a c') : Rel Z a0 n0 (pre ++ (a, c') :: post) h' := by
  obtain ⟨r1, N, F⟩ := r
  refine ⟨by rw [W.size]; exact r1, by simpa using N, fun x hx => ?_⟩
  have hme := F (a, c) (by simp)
  have hsplit : x = (a, c') ∨ (x ∈ pre ++ (a, c) :: post ∧ x.1 ≠ a) := by
    simp only [List.map_append, List.map_cons] at N
    rw [List.nodup_append] at N
    obtain ⟨-, N2, N3⟩ := N
    rw [List.nodup_cons] at N2
    rcases List.mem_append.mp hx with h1 | h1
    · refine Or.inr ⟨List.mem_append.mpr (Or.inl h1), ?_⟩
      exact N3 x.1 (List.mem_map_of_mem h1) a (by simp)
    · rcases List.mem_cons.mp h1 with h2 | h2
      · exact Or.inl h2
      · refine Or.inr ⟨List.mem_append.mpr (Or.inr (List.mem_cons_of_mem _ h2)), fun q => N2.1 ?_⟩
        rw [← q]; exact List.mem_map_of_mem h2
  rcases hsplit with rfl | ⟨hm, hne⟩
  · exact ⟨hme.1, k hme.2⟩
  · exact ⟨(F x hm).1, (F x hm).2.other W hne⟩
theorem Rel.at {Z : State} {a0 : Array Value} {n0 : Nat} {H : MH} {h : Heap} {k : Nat} {a : Addr} {c : MC} (r : Rel Z a0 n0 H h) (hk : H[k]? = some (a, c)) : n0 ≤ a ∧ COk Z a0 h a c := r.2.2 (a, c) (List.mem_of_getElem? hk)

/-- from pc on, with these locals, this stack, this small heap: the method returns, and Q holds of what it returns and of the small heap at the end -/
def WP (l : Launch) (Z : State) (a0 : Array Value) (n0 : Nat) (R : Room) (y : MethodName) (code : ByteArray) (mx : Nat) (ret : Option FieldType) (cells slots pc : Nat) (Ls : List Slot) (st : List Value) (H : MH) (Q : Option Value → MH → Prop) : Prop :=
  ∀ (p : Program) (e : Env) (s : State) (m : MethodId) (args : Array Value) (below : List Frame) (meth : Method) (c : Code) (T : State) (locs : List Loc),
    Stand p l e R s m args below meth c T locs cells slots → p.tables.exec = Jvm.exec → Z.Warmed39 s.vm → c.code = code → c.maxLocals = mx → s.vm.findClass y.cls = some m.cls → meth.name = y.name → meth.sig.returnType = ret → meth.locks = false →
    Fr n0 locs → Rel Z a0 n0 H T.heap → cells ≤ R.cells → slots ≤ R.slots →
    ∃ v H' L s₂, Steps p.tables e below (T.setTop (mkF m pc ⟨Ls⟩ st)) s₂ ∧ s₂.status = .running ∧ Ended s₂ below (.returned v) ∧ Fr n0 L ∧ Rel Z a0 n0 H' s₂.heap ∧ Q v H' ∧ s.WarmedH s₂.vm ∧ s.sameButNew ({ s₂ with vm := s.vm } : State) L R.cells R.slots
/-- a method's contract: called with these arguments over this small heap it returns, and Q holds -/
def Con (l : Launch) (Z : State) (a0 : Array Value) (n0 : Nat) (y : MethodName) (code : ByteArray) (mx : Nat) (ret : Option FieldType) (rm : Room) (as : Array Value) (H : MH) (Q : Option Value → MH → Prop) : Prop :=
  ∀ (ws : List Cond) (h0 : Heap), Rel Z a0 n0 H h0 → MetFree l y (head1 (Cond.code y code mx ret :: ws) rm) (fun a U => a = as ∧ Z.Warmed39 U.vm ∧ U.heap = h0) (fun _ _ _ _ _ => True)
    (fun _ U o U' => ∃ v L, o = .returned v ∧ (Fr n0 L ∧ ∃ H', Rel Z a0 n0 H' U'.heap ∧ Q v H') ∧ FrameEnd U o U' L rm.cells rm.slots)

variable {l : Launch} {Z : State} {a0 : Array Value} {n0 : Nat} {R : Room} {y : MethodName} {code : ByteArray} {mx : Nat} {ret : Option FieldType} {cells slots pc : Nat} {Ls : List Slot} {st : List Value} {H : MH} {Q : Option Value → MH → Prop}

def locsOf : List Value → List Slot
  | [] => []
  | v :: t => if v.category = 2 then .val v :: .second :: locsOf t else .val v :: locsOf t
theorem foldl_locs (l : List Value) : ∀ acc : Array Slot, l.foldl (fun acc v => if v.category = 2 then (acc.push (.val v)).push .second else acc.push (.val v)) acc = acc ++ (locsOf l).toArray := by
  induction l with
  | nil => intro acc; simp [locsOf]
  | cons v t ih =>
    intro acc
    rw [List.foldl_cons, ih, locsOf]
    split <;> simp
theorem efG (m : MethodId) (l : List Value) (mx : Nat) : entryFrame m l.toArray mx = mkF m 0 ⟨locsOf l ++ List.replicate (mx - (locsOf l).length) .unset⟩ [] := by
  have h : argsToLocals l.toArray mx = ⟨locsOf l ++ List.replicate (mx - (locsOf l).length) .unset⟩ := by
    unfold argsToLocals
    rw [show l.toArray.foldl (init := #[]) (fun acc v => if v.category = 2 then (acc.push (.val v)).push .second else acc.push (.val v)) = (locsOf l).toArray by rw [List.foldl_toArray, foldl_locs]; simp]
    apply Array.ext'
    simp
  simp only [entryFrame, mkF, h]
theorem Con.intro {rm : Room} {as : Array Value} (hpn : plainFor y = true) (hE : ∀ m, entryFrame m as mx = mkF m 0 ⟨Ls⟩ []) (h : WP l Z a0 n0 rm y code mx ret 0 0 0 Ls [] H Q) : Con l Z a0 n0 y code mx ret rm as H Q := by
  intro ws h0 hR
  refine MetFree.of_bodySF hpn hisR ?_
  intro p e s m args below meth c s₁ Bd hml0 hP hK
  obtain ⟨rfl, hZ, hh⟩ := hP
  have e0 : s₁.heap = h0 := by rw [← hh, Bd.state]; rfl
  obtain ⟨v, H', L, s2, k1, k2, k3, k4, k5, k6, k7, k8⟩ := h p e s m _ below meth c s₁ [] (Stand.of_body Bd) Bd.exec hZ Bd.bytes hml0 (findClass_of_methodNamed Bd.named) (name_of_methodNamed Bd.named Bd.method).1 Bd.returns Bd.notSynchronized (Fr.nil n0) (by rw [e0]; exact hR) (Nat.zero_le _) (Nat.zero_le _)
  exact ⟨s2, _, castTop (hE m) k1, k2, k3, v, L, rfl, ⟨k4, H', k5, k6⟩, ⟨_, rfl⟩, k7, k8⟩
theorem Con.mono {rm : Room} {as : Array Value} {Q' : Option Value → MH → Prop} (h : Con l Z a0 n0 y code mx ret rm as H Q) (k : ∀ v H', Q v H' → Q' v H') : Con l Z a0 n0 y code mx ret rm as H Q' := by
  intro ws h0 hR p e ha hc hk s m args below hf happ hP hK
  obtain ⟨n, o, q1, q2, q3, v, L, q4, ⟨q5, H', q6, q7⟩, q8⟩ := h ws h0 hR p e ha hc hk s m args below hf happ hP hK
  exact ⟨n, o, q1, q2, q3, v, L, q4, ⟨q5, H', q6, k _ _ q7⟩, q8⟩
theorem WP.mono {Q' : Option Value → MH → Prop} (h : WP l Z a0 n0 R y code mx ret cells slots pc Ls st H Q) (k : ∀ v H', Q v H' → Q' v H') : WP l Z a0 n0 R y code mx ret cells slots pc Ls st H Q' := by
  intro p e s m args below meth c T locs X hx hZ hc hm ho hn hr hl hF hR g1 g2
  obtain ⟨v, H', L, s2, k1, k2, k3, k4, k5, k6, k7⟩ := h p e s m args below meth c T locs X hx hZ hc hm ho hn hr hl hF hR g1 g2
  exact ⟨v, H', L, s2, k1, k2, k3, k4, k5, k _ _ k6, k7⟩

/-- a step that moves the frame alone -/
theorem pure {pc' : Nat} {Ls' : List Slot} {st' : List Value}
    (h : ∀ (p : Program) (e : Env) (m : MethodId) (below : List Frame) (c : Code) (T target : State), At T m c below → p.tables.exec = Jvm.exec → c.code = code → Steps p.tables e below (T.setTop (mkF m pc' ⟨Ls'⟩ st')) target → Steps p.tables e below (T.setTop (mkF m pc ⟨Ls⟩ st)) target)
    (k : WP l Z a0 n0 R y code mx ret cells slots pc' Ls' st' H Q) : WP l Z a0 n0 R y code mx ret cells slots pc Ls st H Q := by
  intro p e s m args below meth c T locs X hx hZ hc hm ho hn hr hl hF hR g1 g2
  obtain ⟨v, H', L, s2, k1, k2⟩ := k p e s m args below meth c T locs X hx hZ hc hm ho hn hr hl hF hR g1 g2
  exact ⟨v, H', L, s2, h p e m below c T s2 X.here hx hc k1, k2⟩
/-- a step that hands back a new state over the same heap -/
theorem stepT {pc' : Nat} {Ls' : List Slot} {st' : List Value}
    (h : ∀ (p : Program) (e : Env) (s : State) (m : MethodId) (args : Array Value) (below : List Frame) (meth : Method) (c : Code) (T : State) (locs : List Loc), Stand p l e R s m args below meth c T locs cells slots → p.tables.exec = Jvm.exec → Z.Warmed39 s.vm → c.code = code → c.maxLocals = mx → s.vm.findClass y.cls = some m.cls → Rel Z a0 n0 H T.heap →
      ∃ T', Stand p l e R s m args below meth c T' locs cells slots ∧ T'.heap = T.heap ∧ ∀ target, Steps p.tables e below (T'.setTop (mkF m pc' ⟨Ls'⟩ st')) target → Steps p.tables e below (T.setTop (mkF m pc ⟨Ls⟩ st)) target)
    (k : WP l Z a0 n0 R y code mx ret cells slots pc' Ls' st' H Q) : WP l Z a0 n0 R y code mx ret cells slots pc Ls st H Q := by
  intro p e s m args below meth c T locs X hx hZ hc hm ho hn hr hl hF hR g1 g2
  obtain ⟨T', X', e', st⟩ := h p e s m args below meth c T locs X hx hZ hc hm ho hR
  obtain ⟨v, H', L, s2, k1, k2⟩ := k p e s m args below meth c T' locs X' hx hZ hc hm ho hn hr hl hF (by rw [e']; exact hR) g1 g2
  exact ⟨v, H', L, s2, st _ k1, k2⟩
/-- a step that writes one place of the cell (a, cl) -/
theorem stepW {pc' : Nat} {Ls' : List Slot} {st' : List Value} {pre post : MH} {a : Addr} {cl cl' : MC}
    (h : ∀ (p : Program) (e : Env) (s : State) (m : MethodId) (args : Array Value) (below : List Frame) (meth : Method) (c : Code) (T : State) (locs : List Loc), Stand p l e R s m args below meth c T locs cells slots → p.tables.exec = Jvm.exec → Z.Warmed39 s.vm → c.code = code → c.maxLocals = mx → s.vm.findClass y.cls = some m.cls → meth.name = y.name → COk Z a0 T.heap a cl →
      ∃ T' h' sl v, Stand p l e R s m args below meth c T' (locs ++ [⟨a, sl⟩]) cells slots ∧ T'.heap = h' ∧ Wr T.heap h' a sl v ∧ (COk Z a0 T.heap a cl → COk Z a0 h' a cl') ∧ ∀ target, Steps p.tables e below (T'.setTop (mkF m pc' ⟨Ls'⟩ st')) target → Steps p.tables e below (T.setTop (mkF m pc ⟨Ls⟩ st)) target)
    (k : WP l Z a0 n0 R y code mx ret cells slots pc' Ls' st' (pre ++ (a, cl') :: post) Q) : WP l Z a0 n0 R y code mx ret cells slots pc Ls st (pre ++ (a, cl) :: post) Q := by
  intro p e s m args below meth c T locs X hx hZ hc hm ho hn hr hl hF hR g1 g2
  have hA := hR.at (k := pre.length) (a := a) (c := cl) (by simp)
  obtain ⟨T', h', sl, v, X', e', W, hco, st⟩ := h p e s m args below meth c T locs X hx hZ hc hm ho hn hA.2
  obtain ⟨v, H', L, s2, k1, k2⟩ := k p e s m args below meth c T' _ X' hx hZ hc hm ho hn hr hl (Fr.snoc X' hF hA.1) (by rw [e']; exact hR.set W hco) g1 g2
  exact ⟨v, H', L, s2, st _ k1, k2⟩

theorem iloadN {k : Fin 4} {v : Int32} {pc' : Nat} (hd : decode code pc = .ok (.iload_n k, 1)) (hl : Ls[k.val]? = some (.val (.int v))) (hp : pc + 1 = pc') (w : WP l Z a0 n0 R y code mx ret cells slots pc' Ls (.int v :: st) H Q) : WP l Z a0 n0 R y code mx ret cells slots pc Ls st H Q := by
  subst hp
  exact pure (fun p e m below c T t h hx hc hs => XS.iloadN h hx rfl (hb hc hd) (by simpa using hl) hs) w
theorem iload {k : Nat} {v : Int32} {pc' : Nat} (hd : decode code pc = .ok (.iload k, 2)) (hl : Ls[k]? = some (.val (.int v))) (hp : pc + 2 = pc') (w : WP l Z a0 n0 R y code mx ret cells slots pc' Ls (.int v :: st) H Q) : WP l Z a0 n0 R y code mx ret cells slots pc Ls st H Q := by
  subst hp
  exact pure (fun p e m below c T t h hx hc hs => XS.iload h hx rfl (hb hc hd) (by simpa using hl) hs) w
theorem aloadN {k : Fin 4} {v : Value} {pc' : Nat} (hd : decode code pc = .ok (.aload_n k, 1)) (hl : Ls[k.val]? = some (.val v)) (hv : v.isRef = true) (hp : pc + 1 = pc') (w : WP l Z a0 n0 R y code mx ret cells slots pc' Ls (v :: st) H Q) : WP l Z a0 n0 R y code mx ret cells slots pc Ls st H Q := by
  subst hp
  exact pure (fun p e m below c T t h hx hc hs => XS.aloadN h hx rfl (hb hc hd) (by simpa using hl) hv hs) w
theorem iconst {i : Int} (n : Int32) {pc' : Nat} (hd : decode code pc = .ok (.iconst i, 1)) (hn : Int32.ofInt i = n) (hp : pc + 1 = pc') (w : WP l Z a0 n0 R y code mx ret cells slots pc' Ls (.int n :: st) H Q) : WP l Z a0 n0 R y code mx ret cells slots pc Ls st H Q := by
  subst hp hn
  exact pure (fun p e m below c T t h hx hc hs => XS.iconst h hx rfl (hb hc hd) hs) w
theorem bipush {i : Int} (n : Int32) {pc' : Nat} (hd : decode code pc = .ok (.bipush i, 2)) (hn : (Int8.ofInt i).toInt32 = n) (hp : pc + 2 = pc') (w : WP l Z a0 n0 R y code mx ret cells slots pc' Ls (.int n :: st) H Q) : WP l Z a0 n0 R y code mx ret cells slots pc Ls st H Q := by
  subst hp hn
  exact pure (fun p e m below c T t h hx hc hs => XS.bipush h hx rfl (hb hc hd) hs) w
theorem sipush {i : Int} (n : Int32) {pc' : Nat} (hd : decode code pc = .ok (.sipush i, 3)) (hn : (Int16.ofInt i).toInt32 = n) (hp : pc + 3 = pc') (w : WP l Z a0 n0 R y code mx ret cells slots pc' Ls (.int n :: st) H Q) : WP l Z a0 n0 R y code mx ret cells slots pc Ls st H Q := by
  subst hp hn
  exact pure (fun p e m below c T t h hx hc hs => XS.sipush h hx rfl (hb hc hd) hs) w
theorem iadd {x z : Int32} {pc' : Nat} (hd : decode code pc = .ok (.iadd, 1)) (hp : pc + 1 = pc') (w : WP l Z a0 n0 R y code mx ret cells slots pc' Ls (.int (x + z) :: st) H Q) : WP l Z a0 n0 R y code mx ret cells slots pc Ls (.int z :: .int x :: st) H Q := by
  subst hp
  exact pure (fun p e m below c T t h hx hc hs => XS.iadd h hx rfl (hb hc hd) rfl hs) w
theorem iand {x z : Int32} {pc' : Nat} (hd : decode code pc = .ok (.iand, 1)) (hp : pc + 1 = pc') (w : WP l Z a0 n0 R y code mx ret cells slots pc' Ls (.int (x &&& z) :: st) H Q) : WP l Z a0 n0 R y code mx ret cells slots pc Ls (.int z :: .int x :: st) H Q := by
  subst hp
  exact pure (fun p e m below c T t h hx hc hs => XS.iand h hx rfl (hb hc hd) rfl hs) w
theorem ior {x z : Int32} {pc' : Nat} (hd : decode code pc = .ok (.ior, 1)) (hp : pc + 1 = pc') (w : WP l Z a0 n0 R y code mx ret cells slots pc' Ls (.int (x ||| z) :: st) H Q) : WP l Z a0 n0 R y code mx ret cells slots pc Ls (.int z :: .int x :: st) H Q := by
  subst hp
  exact pure (fun p e m below c T t h hx hc hs => XS.ior h hx rfl (hb hc hd) rfl hs) w
theorem ishl {x z : Int32} {pc' : Nat} (hd : decode code pc = .ok (.ishl, 1)) (hp : pc + 1 = pc') (w : WP l Z a0 n0 R y code mx ret cells slots pc' Ls (.int (x <<< (z &&& 31)) :: st) H Q) : WP l Z a0 n0 R y code mx ret cells slots pc Ls (.int z :: .int x :: st) H Q := by
  subst hp
  exact pure (fun p e m below c T t h hx hc hs => XS.ishl h hx rfl (hb hc hd) rfl hs) w
theorem ishr {x z : Int32} {pc' : Nat} (hd : decode code pc = .ok (.ishr, 1)) (hp : pc + 1 = pc') (w : WP l Z a0 n0 R y code mx ret cells slots pc' Ls (.int (x >>> (z &&& 31)) :: st) H Q) : WP l Z a0 n0 R y code mx ret cells slots pc Ls (.int z :: .int x :: st) H Q := by
  subst hp
  exact pure (fun p e m below c T t h hx hc hs => XS.ishr h hx rfl (hb hc hd) rfl hs) w
theorem iushr {x z : Int32} {pc' : Nat} (hd : decode code pc = .ok (.iushr, 1)) (hp : pc + 1 = pc') (w : WP l Z a0 n0 R y code mx ret cells slots pc' Ls (.int ((x.toUInt32 >>> (z &&& 31).toUInt32).toInt32) :: st) H Q) : WP l Z a0 n0 R y code mx ret cells slots pc Ls (.int z :: .int x :: st) H Q := by
  subst hp
  exact pure (fun p e m below c T t h hx hc hs => XS.iushr h hx rfl (hb hc hd) rfl hs) w
theorem irem {x z : Int32} {pc' : Nat} (hd : decode code pc = .ok (.irem, 1)) (hz : z ≠ 0) (hp : pc + 1 = pc') (w : WP l Z a0 n0 R y code mx ret cells slots pc' Ls (.int (x % z) :: st) H Q) : WP l Z a0 n0 R y code mx ret cells slots pc Ls (.int z :: .int x :: st) H Q := by
  subst hp
  exact pure (fun p e m below c T t h hx hc hs => XS.irem h hx rfl (hb hc hd) rfl hz (by rw [irem_eq_mod]; exact hs)) w
theorem i2b {x : Int32} {pc' : Nat} (hd : decode code pc = .ok (.i2b, 1)) (hp : pc + 1 = pc') (w : WP l Z a0 n0 R y code mx ret cells slots pc' Ls (.int (x.toInt8.toInt32) :: st) H Q) : WP l Z a0 n0 R y code mx ret cells slots pc Ls (.int x :: st) H Q := by
  subst hp
  exact pure (fun p e m below c T t h hx hc hs => XS.i2b h hx rfl (hb hc hd) rfl hs) w
theorem goto {o : Int} {pc' : Nat} (hd : decode code pc = .ok (.goto o, 3)) (hp : (pc : Int) + o = (pc' : Int)) (w : WP l Z a0 n0 R y code mx ret cells slots pc' Ls st H Q) : WP l Z a0 n0 R y code mx ret cells slots pc Ls st H Q :=
  pure (fun p e m below c T t h hx hc hs => XS.goto h hx rfl (pc0 := pc) (pc' := pc') rfl (hb hc hd) (by omega) (by omega) hs) w
theorem hI_lt {x z : Int32} : (if_icmp.holds .lt x z = true → x.toInt < z.toInt) ∧ (if_icmp.holds .lt x z = false → z.toInt ≤ x.toInt) := by
  constructor <;> intro hq <;> simp [if_icmp.holds, Int32.lt_iff_toInt_lt, Int32.le_iff_toInt_le] at hq ⊢ <;> first | omega | exact hq | simp_all
theorem icmp_lt {x z : Int32} {o : Int} {pt pf : Nat} (hd : decode code pc = .ok (.if_icmp .lt o, 3)) (hp : (pc : Int) + o = (pt : Int)) (hq : pc + 3 = pf) (wt : x.toInt < z.toInt → WP l Z a0 n0 R y code mx ret cells slots pt Ls st H Q) (wf : z.toInt ≤ x.toInt → WP l Z a0 n0 R y code mx ret cells slots pf Ls st H Q) : WP l Z a0 n0 R y code mx ret cells slots pc Ls (.int z :: .int x :: st) H Q := by
  subst hq
  cases hh : if_icmp.holds .lt x z
  · exact pure (fun p e m below c T t h hx hc hs => XS.icmpNo h hx rfl (hb hc hd) rfl hh hs) (wf (hI_lt.2 hh))
  · exact pure (fun p e m below c T t h hx hc hs => XS.icmpYes h hx rfl (pc0 := pc) (pc' := pt) rfl (hb hc hd) rfl hh (by omega) (by omega) hs) (wt (hI_lt.1 hh))
theorem hI_ge {x z : Int32} : (if_icmp.holds .ge x z = true → z.toInt ≤ x.toInt) ∧ (if_icmp.holds .ge x z = false → x.toInt < z.toInt) := by
  constructor <;> intro hq <;> simp [if_icmp.holds, Int32.lt_iff_toInt_lt, Int32.le_iff_toInt_le] at hq ⊢ <;> first | omega | exact hq | simp_all
theorem icmp_ge {x z : Int32} {o : Int} {pt pf : Nat} (hd : decode code pc = .ok (.if_icmp .ge o, 3)) (hp : (pc : Int) + o = (pt : Int)) (hq : pc + 3 = pf) (wt : z.toInt ≤ x.toInt → WP l Z a0 n0 R y code mx ret cells slots pt Ls st H Q) (wf : x.toInt < z.toInt → WP l Z a0 n0 R y code mx ret cells slots pf Ls st H Q) : WP l Z a0 n0 R y code mx ret cells slots pc Ls (.int z :: .int x :: st) H Q := by
  subst hq
  cases hh : if_icmp.holds .ge x z
  · exact pure (fun p e m below c T t h hx hc hs => XS.icmpNo h hx rfl (hb hc hd) rfl hh hs) (wf (hI_ge.2 hh))
  · exact pure (fun p e m below c T t h hx hc hs => XS.icmpYes h hx rfl (pc0 := pc) (pc' := pt) rfl (hb hc hd) rfl hh (by omega) (by omega) hs) (wt (hI_ge.1 hh))
theorem hI_gt {x z : Int32} : (if_icmp.holds .gt x z = true → z.toInt < x.toInt) ∧ (if_icmp.holds .gt x z = false → x.toInt ≤ z.toInt) := by
  constructor <;> intro hq <;> simp [if_icmp.holds, Int32.lt_iff_toInt_lt, Int32.le_iff_toInt_le] at hq ⊢ <;> first | omega | exact hq | simp_all
theorem icmp_gt {x z : Int32} {o : Int} {pt pf : Nat} (hd : decode code pc = .ok (.if_icmp .gt o, 3)) (hp : (pc : Int) + o = (pt : Int)) (hq : pc + 3 = pf) (wt : z.toInt < x.toInt → WP l Z a0 n0 R y code mx ret cells slots pt Ls st H Q) (wf : x.toInt ≤ z.toInt → WP l Z a0 n0 R y code mx ret cells slots pf Ls st H Q) : WP l Z a0 n0 R y code mx ret cells slots pc Ls (.int z :: .int x :: st) H Q := by
  subst hq
  cases hh : if_icmp.holds .gt x z
  · exact pure (fun p e m below c T t h hx hc hs => XS.icmpNo h hx rfl (hb hc hd) rfl hh hs) (wf (hI_gt.2 hh))
  · exact pure (fun p e m below c T t h hx hc hs => XS.icmpYes h hx rfl (pc0 := pc) (pc' := pt) rfl (hb hc hd) rfl hh (by omega) (by omega) hs) (wt (hI_gt.1 hh))
theorem hI_le {x z : Int32} : (if_icmp.holds .le x z = true → x.toInt ≤ z.toInt) ∧ (if_icmp.holds .le x z = false → z.toInt < x.toInt) := by
  constructor <;> intro hq <;> simp [if_icmp.holds, Int32.lt_iff_toInt_lt, Int32.le_iff_toInt_le] at hq ⊢ <;> first | omega | exact hq | simp_all
theorem icmp_le {x z : Int32} {o : Int} {pt pf : Nat} (hd : decode code pc = .ok (.if_icmp .le o, 3)) (hp : (pc : Int) + o = (pt : Int)) (hq : pc + 3 = pf) (wt : x.toInt ≤ z.toInt → WP l Z a0 n0 R y code mx ret cells slots pt Ls st H Q) (wf : z.toInt < x.toInt → WP l Z a0 n0 R y code mx ret cells slots pf Ls st H Q) : WP l Z a0 n0 R y code mx ret cells slots pc Ls (.int z :: .int x :: st) H Q := by
  subst hq
  cases hh : if_icmp.holds .le x z
  · exact pure (fun p e m below c T t h hx hc hs => XS.icmpNo h hx rfl (hb hc hd) rfl hh hs) (wf (hI_le.2 hh))
  · exact pure (fun p e m below c T t h hx hc hs => XS.icmpYes h hx rfl (pc0 := pc) (pc' := pt) rfl (hb hc hd) rfl hh (by omega) (by omega) hs) (wt (hI_le.1 hh))
theorem hI_eq {x z : Int32} : (if_icmp.holds .eq x z = true → x = z) ∧ (if_icmp.holds .eq x z = false → ¬ x = z) := by
  constructor <;> intro hq <;> simp [if_icmp.holds, Int32.lt_iff_toInt_lt, Int32.le_iff_toInt_le] at hq ⊢ <;> first | omega | exact hq | simp_all
theorem icmp_eq {x z : Int32} {o : Int} {pt pf : Nat} (hd : decode code pc = .ok (.if_icmp .eq o, 3)) (hp : (pc : Int) + o = (pt : Int)) (hq : pc + 3 = pf) (wt : x = z → WP l Z a0 n0 R y code mx ret cells slots pt Ls st H Q) (wf : ¬ x = z → WP l Z a0 n0 R y code mx ret cells slots pf Ls st H Q) : WP l Z a0 n0 R y code mx ret cells slots pc Ls (.int z :: .int x :: st) H Q := by
  subst hq
  cases hh : if_icmp.holds .eq x z
  · exact pure (fun p e m below c T t h hx hc hs => XS.icmpNo h hx rfl (hb hc hd) rfl hh hs) (wf (hI_eq.2 hh))
  · exact pure (fun p e m below c T t h hx hc hs => XS.icmpYes h hx rfl (pc0 := pc) (pc' := pt) rfl (hb hc hd) rfl hh (by omega) (by omega) hs) (wt (hI_eq.1 hh))
theorem hI_ne {x z : Int32} : (if_icmp.holds .ne x z = true → ¬ x = z) ∧ (if_icmp.holds .ne x z = false → x = z) := by
  constructor <;> intro hq <;> simp [if_icmp.holds, Int32.lt_iff_toInt_lt, Int32.le_iff_toInt_le] at hq ⊢ <;> first | omega | exact hq | simp_all
theorem icmp_ne {x z : Int32} {o : Int} {pt pf : Nat} (hd : decode code pc = .ok (.if_icmp .ne o, 3)) (hp : (pc : Int) + o = (pt : Int)) (hq : pc + 3 = pf) (wt : ¬ x = z → WP l Z a0 n0 R y code mx ret cells slots pt Ls st H Q) (wf : x = z → WP l Z a0 n0 R y code mx ret cells slots pf Ls st H Q) : WP l Z a0 n0 R y code mx ret cells slots pc Ls (.int z :: .int x :: st) H Q := by
  subst hq
  cases hh : if_icmp.holds .ne x z
  · exact pure (fun p e m below c T t h hx hc hs => XS.icmpNo h hx rfl (hb hc hd) rfl hh hs) (wf (hI_ne.2 hh))
  · exact pure (fun p e m below c T t h hx hc hs => XS.icmpYes h hx rfl (pc0 := pc) (pc' := pt) rfl (hb hc hd) rfl hh (by omega) (by omega) hs) (wt (hI_ne.1 hh))
theorem hZ_ne {x : Int32} : (ifCond.holds .ne x = true → ¬ x = 0) ∧ (ifCond.holds .ne x = false → x = 0) := by
  rw [if0]
  exact hI_ne (z := 0)
theorem if_ne {x : Int32} {o : Int} {pt pf : Nat} (hd : decode code pc = .ok (.ifCond .ne o, 3)) (hp : (pc : Int) + o = (pt : Int)) (hq : pc + 3 = pf) (wt : ¬ x = 0 → WP l Z a0 n0 R y code mx ret cells slots pt Ls st H Q) (wf : x = 0 → WP l Z a0 n0 R y code mx ret cells slots pf Ls st H Q) : WP l Z a0 n0 R y code mx ret cells slots pc Ls (.int x :: st) H Q := by
  subst hq
  cases hh : ifCond.holds .ne x
  · exact pure (fun p e m below c T t h hx hc hs => XS.ifNo h hx rfl (hb hc hd) rfl hh hs) (wf (hZ_ne.2 hh))
  · exact pure (fun p e m below c T t h hx hc hs => XS.ifYes h hx rfl (pc0 := pc) (pc' := pt) rfl (hb hc hd) rfl hh (by omega) (by omega) hs) (wt (hZ_ne.1 hh))
theorem icmp_eqI {x z : Int32} {o : Int} {pt pf : Nat} (hd : decode code pc = .ok (.if_icmp .eq o, 3)) (hp : (pc : Int) + o = (pt : Int)) (hq : pc + 3 = pf) (wt : x.toInt = z.toInt → WP l Z a0 n0 R y code mx ret cells slots pt Ls st H Q) (wf : x.toInt ≠ z.toInt → WP l Z a0 n0 R y code mx ret cells slots pf Ls st H Q) : WP l Z a0 n0 R y code mx ret cells slots pc Ls (.int z :: .int x :: st) H Q := icmp_eq hd hp hq (fun q => wt (Int32.toInt_inj.mpr q)) (fun q => wf (fun e => q (Int32.toInt_inj.mp e)))
theorem icmp_neI {x z : Int32} {o : Int} {pt pf : Nat} (hd : decode code pc = .ok (.if_icmp .ne o, 3)) (hp : (pc : Int) + o = (pt : Int)) (hq : pc + 3 = pf) (wt : x.toInt ≠ z.toInt → WP l Z a0 n0 R y code mx ret cells slots pt Ls st H Q) (wf : x.toInt = z.toInt → WP l Z a0 n0 R y code mx ret cells slots pf Ls st H Q) : WP l Z a0 n0 R y code mx ret cells slots pc Ls (.int z :: .int x :: st) H Q := icmp_ne hd hp hq (fun q => wt (fun e => q (Int32.toInt_inj.mp e))) (fun q => wf (Int32.toInt_inj.mpr q))
def ok1 : Slot → Bool
  | .unset => true
  | .val v => v.category == 1
  | .second => false
theorem stl1 (pre : List Slot) {o : Slot} {t : List Slot} {v : Value} (ho : ok1 o = true) (hv : v.category = 1) : storeLocals ⟨pre ++ o :: t⟩ pre.length v = some ⟨pre ++ .val v :: t⟩ := by
  have hg : (⟨pre ++ o :: t⟩ : Array Slot)[pre.length]? = some o := by simp
  have hs : storeSelf (⟨pre ++ o :: t⟩ : Array Slot) pre.length v = some ⟨pre ++ .val v :: t⟩ := by
    simp [storeSelf, setAt, hv, Array.setIfInBounds]
  cases o with
  | unset => simp only [storeLocals, hg]; exact hs
  | second => cases ho
  | val w =>
    have hw : ¬ w.category = 2 := by simp only [ok1, beq_iff_eq] at ho; omega
    simp only [storeLocals, hg]
    show (if w.category = 2 then _ else _) = _
    rw [if_neg hw]; exact hs
theorem istoreN_3 {s0 s1 s2 : Slot} {o : Slot} {t : List Slot} {x : Int32} {pc' : Nat} (hd : decode code pc = .ok (.istore_n 3, 1)) (ho : ok1 o = true) (hp : pc + 1 = pc') (w : WP l Z a0 n0 R y code mx ret cells slots pc' (s0 :: s1 :: s2 :: .val (.int x) :: t) st H Q) : WP l Z a0 n0 R y code mx ret cells slots pc (s0 :: s1 :: s2 :: o :: t) (.int x :: st) H Q := by
  subst hp
  exact pure (fun p e m below c T t h hx hc' hs => XS.istoreN h hx rfl (hb hc' hd) rfl (stl1 [s0, s1, s2] ho rfl) hs) w
theorem astoreN_3 {s0 s1 s2 : Slot} {o : Slot} {t : List Slot} {v : Value} {pc' : Nat} (hd : decode code pc = .ok (.astore_n 3, 1)) (hv : v.isRef = true) (hc : v.category = 1) (ho : ok1 o = true) (hp : pc + 1 = pc') (w : WP l Z a0 n0 R y code mx ret cells slots pc' (s0 :: s1 :: s2 :: .val (v) :: t) st H Q) : WP l Z a0 n0 R y code mx ret cells slots pc (s0 :: s1 :: s2 :: o :: t) (v :: st) H Q := by
  subst hp
  exact pure (fun p e m below c T t h hx hc' hs => XS.astoreN h hx rfl (hb hc' hd) rfl hv (stl1 [s0, s1, s2] ho hc) hs) w
theorem istore_4 {s0 s1 s2 s3 : Slot} {o : Slot} {t : List Slot} {x : Int32} {pc' : Nat} (hd : decode code pc = .ok (.istore 4, 2)) (ho : ok1 o = true) (hp : pc + 2 = pc') (w : WP l Z a0 n0 R y code mx ret cells slots pc' (s0 :: s1 :: s2 :: s3 :: .val (.int x) :: t) st H Q) : WP l Z a0 n0 R y code mx ret cells slots pc (s0 :: s1 :: s2 :: s3 :: o :: t) (.int x :: st) H Q := by
  subst hp
  exact pure (fun p e m below c T t h hx hc' hs => XS.istore h hx rfl (hb hc' hd) rfl (stl1 [s0, s1, s2, s3] ho rfl) hs) w
theorem istore_5 {s0 s1 s2 s3 s4 : Slot} {o : Slot} {t : List Slot} {x : Int32} {pc' : Nat} (hd : decode code pc = .ok (.istore 5, 2)) (ho : ok1 o = true) (hp : pc + 2 = pc') (w : WP l Z a0 n0 R y code mx ret cells slots pc' (s0 :: s1 :: s2 :: s3 :: s4 :: .val (.int x) :: t) st H Q) : WP l Z a0 n0 R y code mx ret cells slots pc (s0 :: s1 :: s2 :: s3 :: s4 :: o :: t) (.int x :: st) H Q := by
  subst hp
  exact pure (fun p e m below c T t h hx hc' hs => XS.istore h hx rfl (hb hc' hd) rfl (stl1 [s0, s1, s2, s3, s4] ho rfl) hs) w
theorem istore_6 {s0 s1 s2 s3 s4 s5 : Slot} {o : Slot} {t : List Slot} {x : Int32} {pc' : Nat} (hd : decode code pc = .ok (.istore 6, 2)) (ho : ok1 o = true) (hp : pc + 2 = pc') (w : WP l Z a0 n0 R y code mx ret cells slots pc' (s0 :: s1 :: s2 :: s3 :: s4 :: s5 :: .val (.int x) :: t) st H Q) : WP l Z a0 n0 R y code mx ret cells slots pc (s0 :: s1 :: s2 :: s3 :: s4 :: s5 :: o :: t) (.int x :: st) H Q := by
  subst hp
  exact pure (fun p e m below c T t h hx hc' hs => XS.istore h hx rfl (hb hc' hd) rfl (stl1 [s0, s1, s2, s3, s4, s5] ho rfl) hs) w
theorem istore_7 {s0 s1 s2 s3 s4 s5 s6 : Slot} {o : Slot} {t : List Slot} {x : Int32} {pc' : Nat} (hd : decode code pc = .ok (.istore 7, 2)) (ho : ok1 o = true) (hp : pc + 2 = pc') (w : WP l Z a0 n0 R y code mx ret cells slots pc' (s0 :: s1 :: s2 :: s3 :: s4 :: s5 :: s6 :: .val (.int x) :: t) st H Q) : WP l Z a0 n0 R y code mx ret cells slots pc (s0 :: s1 :: s2 :: s3 :: s4 :: s5 :: s6 :: o :: t) (.int x :: st) H Q := by
  subst hp
  exact pure (fun p e m below c T t h hx hc' hs => XS.istore h hx rfl (hb hc' hd) rfl (stl1 [s0, s1, s2, s3, s4, s5, s6] ho rfl) hs) w
theorem istore_8 {s0 s1 s2 s3 s4 s5 s6 s7 : Slot} {o : Slot} {t : List Slot} {x : Int32} {pc' : Nat} (hd : decode code pc = .ok (.istore 8, 2)) (ho : ok1 o = true) (hp : pc + 2 = pc') (w : WP l Z a0 n0 R y code mx ret cells slots pc' (s0 :: s1 :: s2 :: s3 :: s4 :: s5 :: s6 :: s7 :: .val (.int x) :: t) st H Q) : WP l Z a0 n0 R y code mx ret cells slots pc (s0 :: s1 :: s2 :: s3 :: s4 :: s5 :: s6 :: s7 :: o :: t) (.int x :: st) H Q := by
  subst hp
  exact pure (fun p e m below c T t h hx hc' hs => XS.istore h hx rfl (hb hc' hd) rfl (stl1 [s0, s1, s2, s3, s4, s5, s6, s7] ho rfl) hs) w
theorem iinc_8 {s0 s1 s2 s3 s4 s5 s6 s7 : Slot} {t : List Slot} {x : Int32} {i : Int} (n : Int32) {pc' : Nat} (hd : decode code pc = .ok (.iinc 8 i, 3)) (hn : Int32.ofInt i = n) (hp : pc + 3 = pc') (w : WP l Z a0 n0 R y code mx ret cells slots pc' (s0 :: s1 :: s2 :: s3 :: s4 :: s5 :: s6 :: s7 :: .val (.int (x + n)) :: t) st H Q) : WP l Z a0 n0 R y code mx ret cells slots pc (s0 :: s1 :: s2 :: s3 :: s4 :: s5 :: s6 :: s7 :: .val (.int x) :: t) st H Q := by
  subst hp hn
  exact pure (fun p e m below c T t h hx hc' hs => XS.iinc h hx rfl (hb hc' hd) rfl (stl1 [s0, s1, s2, s3, s4, s5, s6, s7] rfl rfl) hs) w
theorem istore_9 {s0 s1 s2 s3 s4 s5 s6 s7 s8 : Slot} {o : Slot} {t : List Slot} {x : Int32} {pc' : Nat} (hd : decode code pc = .ok (.istore 9, 2)) (ho : ok1 o = true) (hp : pc + 2 = pc') (w : WP l Z a0 n0 R y code mx ret cells slots pc' (s0 :: s1 :: s2 :: s3 :: s4 :: s5 :: s6 :: s7 :: s8 :: .val (.int x) :: t) st H Q) : WP l Z a0 n0 R y code mx ret cells slots pc (s0 :: s1 :: s2 :: s3 :: s4 :: s5 :: s6 :: s7 :: s8 :: o :: t) (.int x :: st) H Q := by
  subst hp
  exact pure (fun p e m below c T t h hx hc' hs => XS.istore h hx rfl (hb hc' hd) rfl (stl1 [s0, s1, s2, s3, s4, s5, s6, s7, s8] ho rfl) hs) w
theorem ldcI {i : Nat} {n : Int32} {pc' : Nat} (hw : (Cond.constant y.cls i n).before a0 Z = true) (hd : decode code pc = .ok (.ldc i, 2)) (hp : pc + 2 = pc') (w : WP l Z a0 n0 R y code mx ret cells slots pc' Ls (.int n :: st) H Q) : WP l Z a0 n0 R y code mx ret cells slots pc Ls st H Q := by
  subst hp
  exact stepT (fun p e s m args below meth c T locs X hx hZ hc hm ho hR => ⟨T, X, rfl, X.ldcInt hx ho (mvT hZ hw) (g := mkF m pc ⟨Ls⟩ st) rfl (hb hc hd)⟩) w
theorem baload {a : Addr} {vs : List Value} {j : Int32} {v : Value} {pc' : Nat} (k i : Nat) (hd : decode code pc = .ok (.baload, 1)) (hk : H[k]? = some (a, .inl (.byte, vs))) (hj : j.toInt = (i : Int)) (hv : vs[i]? = some v) (hp : pc + 1 = pc') (w : WP l Z a0 n0 R y code mx ret cells slots pc' Ls (v :: st) H Q) : WP l Z a0 n0 R y code mx ret cells slots pc Ls (.int j :: .ref a :: st) H Q := by
  subst hp
  exact stepT (fun p e s m args below meth c T locs X hx hZ hc hm ho hR => ⟨T, X, rfl, fun target hs => by
    obtain ⟨cl, A, q1, q2⟩ := (hR.at hk).2
    have q3 : j.toNatClampNeg = i := idx_eq hj
    have q4 : cl.slots[j.toNatClampNeg]? = some v := by rw [q1, q3]; simpa using hv
    exact X.baloadBytes hx A.1 (State.isArrayOf_alike hZ.alike A.2.1) A.2.2 (idx_ok hj (by rw [q1, List.size_toArray]; exact (List.getElem?_eq_some_iff.mp hv).1)) q4 (g := mkF m pc ⟨Ls⟩ (.int j :: .ref a :: st)) rfl rfl (hb hc hd) _ hs⟩) w
theorem bastoreG (pre : MH) {post : MH} {a : Addr} {vs : List Value} {j : Int32} {x : Int32} {pc' : Nat} (i : Nat) (hd : decode code pc = .ok (.bastore, 1)) (hj : j.toInt = (i : Int)) (hi : i < vs.length) (hp : pc + 1 = pc') (w : WP l Z a0 n0 R y code mx ret cells slots pc' Ls st (pre ++ (a, .inl (.byte, vs.set i (.int x.toInt8.toInt32))) :: post) Q) : WP l Z a0 n0 R y code mx ret cells slots pc Ls ((.int x) :: .int j :: .ref a :: st) (pre ++ (a, .inl (.byte, vs)) :: post) Q := by
  subst hp
  exact stepW (pre := pre) (fun p e s m args below meth c T locs X hx hZ hc hm ho hn hR => by
    obtain ⟨cl, A, q1, q2⟩ := hR
    have q3 : j.toNatClampNeg = i := idx_eq hj
    obtain ⟨T', h', X', e', W, st⟩ := stB X hx hZ rfl A (x := x) (idx_ok hj (by rw [q1, List.size_toArray]; exact hi)) (g := mkF m pc ⟨Ls⟩ ((.int x) :: .int j :: .ref a :: st)) rfl rfl (hb hc hd)
    rw [q3] at W X'
    exact ⟨T', h', _, _, X', e', W, fun k => k.setArr W, st⟩) w
theorem bastore_0 {post : MH} {a : Addr} {vs : List Value} {j : Int32} {x : Int32} {pc' : Nat} (i : Nat) (hd : decode code pc = .ok (.bastore, 1)) (hj : j.toInt = (i : Int)) (hi : i < vs.length) (hp : pc + 1 = pc') (w : WP l Z a0 n0 R y code mx ret cells slots pc' Ls st ((a, .inl (.byte, vs.set i (.int x.toInt8.toInt32))) :: post) Q) : WP l Z a0 n0 R y code mx ret cells slots pc Ls ((.int x) :: .int j :: .ref a :: st) ((a, .inl (.byte, vs)) :: post) Q := bastoreG [] i hd hj hi hp w
theorem bastoreZG (pre : MH) {post : MH} {a : Addr} {vs : List Value} {j : Int32} {x : Int32} {pc' : Nat} (i : Nat) (hd : decode code pc = .ok (.bastore, 1)) (hj : j.toInt = (i : Int)) (hi : i < vs.length) (hp : pc + 1 = pc') (w : WP l Z a0 n0 R y code mx ret cells slots pc' Ls st (pre ++ (a, .inl (.boolean, vs.set i (.int (x &&& 1)))) :: post) Q) : WP l Z a0 n0 R y code mx ret cells slots pc Ls ((.int x) :: .int j :: .ref a :: st) (pre ++ (a, .inl (.boolean, vs)) :: post) Q := by
  subst hp
  exact stepW (pre := pre) (fun p e s m args below meth c T locs X hx hZ hc hm ho hn hR => by
    obtain ⟨cl, A, q1, q2⟩ := hR
    have q3 : j.toNatClampNeg = i := idx_eq hj
    obtain ⟨T', h', X', e', W, st⟩ := stZ X hx hZ rfl A (x := x) (idx_ok hj (by rw [q1, List.size_toArray]; exact hi)) (g := mkF m pc ⟨Ls⟩ ((.int x) :: .int j :: .ref a :: st)) rfl rfl (hb hc hd)
    rw [q3] at W X'
    exact ⟨T', h', _, _, X', e', W, fun k => k.setArr W, st⟩) w
theorem bastoreZ_0 {post : MH} {a : Addr} {vs : List Value} {j : Int32} {x : Int32} {pc' : Nat} (i : Nat) (hd : decode code pc = .ok (.bastore, 1)) (hj : j.toInt = (i : Int)) (hi : i < vs.length) (hp : pc + 1 = pc') (w : WP l Z a0 n0 R y code mx ret cells slots pc' Ls st ((a, .inl (.boolean, vs.set i (.int (x &&& 1)))) :: post) Q) : WP l Z a0 n0 R y code mx ret cells slots pc Ls ((.int x) :: .int j :: .ref a :: st) ((a, .inl (.boolean, vs)) :: post) Q := bastoreZG [] i hd hj hi hp w
theorem newarray {aty : ArrayType} {n : Int32} {pc' : Nat} {ty : FieldType} (i cap : Nat) (vs : List Value) (hw : (Cond.arrayClass ty).before a0 Z = true) (hd : decode code pc = .ok (.newarray aty, 2)) (hn : n.toInt = (i : Int)) (hcap : i ≤ cap) (hbig : cap * 8 ≤ 536870912) (hc : cells + 1 ≤ R.cells) (hl : slots + cap ≤ R.slots) (hvs : List.replicate i (defaultValue ty) = vs) (hp : pc + 2 = pc') (hty : newarray.typeOf aty = ty) {cells' slots' : Nat} (hc' : cells + 1 = cells') (hs' : slots + cap = slots') (w : ∀ a : Addr, WP l Z a0 n0 R y code mx ret cells' slots' pc' Ls (.ref a :: st) ((a, .inl (ty, vs)) :: H) Q) : WP l Z a0 n0 R y code mx ret cells slots pc Ls (.int n :: st) H Q := by
  subst hp hvs hty hc' hs'
  intro p e s m args below meth c T locs X hx hZ hcode hm ho hnm hr hlk hF hR g1 g2
  have q3 : n.toNatClampNeg = i := idx_eq hn
  obtain ⟨T', h', cA, X', e', E, A, st⟩ := newP X hx hZ hw rfl (g := mkF m pc ⟨Ls⟩ (.int n :: st)) rfl (hb hcode hd) rfl (fun q => by rw [Int32.lt_iff_toInt_lt, hn] at q; simp at q; omega) (cap := cap) (by rw [q3]; exact hcap) hbig hc hl
  have hlt : i < 2 ^ 31 := by have := n.toInt_lt; rw [hn] at this; omega
  obtain ⟨v, H', L, s2, k1, k2⟩ := w _ p e s m args below meth c T' locs X' hx hZ hcode hm ho hnm hr hlk hF (by rw [e']; exact hR.push E ⟨_, A, by simp [newA, q3], by simpa using hlt⟩) hc hl
  exact ⟨v, H', L, s2, st _ k1, k2⟩
theorem topI {z : Int32} (P : Int32 → Prop) (h : P z) (w : ∀ z' : Int32, P z' → WP l Z a0 n0 R y code mx ret cells slots pc Ls (.int z' :: st) H Q) : WP l Z a0 n0 R y code mx ret cells slots pc Ls (.int z :: st) H Q := w z h
theorem leaveW {v : Option Value} {st : List Value} (hv : ret = none → v = none) (q : Q v H)
    (h : ∀ (p : Program) (e : Env) (s : State) (m : MethodId) (args : Array Value) (below : List Frame) (meth : Method) (c : Code) (T : State) (locs : List Loc) (fs : List Frame), Stand p l e R s m args below meth c T locs cells slots → p.tables.exec = Jvm.exec → c.code = code → meth.sig.returnType = ret → (∀ (f : JFrame) (acts : List Action), f.method = m → f.locked = none → f.entered = [] → (doReturn e (T.setTop f) acts v).1 = T.setFrames fs) → Steps p.tables e below (T.setTop (mkF m pc ⟨Ls⟩ st)) (T.setFrames fs)) : WP l Z a0 n0 R y code mx ret cells slots pc Ls st H Q := by
  intro p e s m args below meth c T locs X hx hZ hc hm ho hn hr hl hF hR g1 g2
  obtain ⟨fs, hrr, hrun, hended, hW, hsame⟩ := X.leave (v := v) (fun k => hv (by rw [← hr]; exact k)) hl
  exact ⟨v, H, locs, _, h p e s m args below meth c T locs fs X hx hc hr hrr, hrun, hended, hF, hR, q, hW, hsame.mono g1 g2⟩
theorem ireturn {z : Int32} (hret : ret = some .int) (hd : decode code pc = .ok (.ireturn, 1)) (q : Q (some (.int z)) H) : WP l Z a0 n0 R y code mx ret cells slots pc Ls (.int z :: st) H Q :=
  leaveW (fun k => by rw [hret] at k; cases k) q fun p e s m args below meth c T locs fs X hx hc hr hrr => retI X hx (hr.trans hret) (hb hc hd) hrr
theorem zreturn {z : Int32} (hret : ret = some .boolean) (hd : decode code pc = .ok (.ireturn, 1)) (q : Q (some (.int (z &&& 1))) H) : WP l Z a0 n0 R y code mx ret cells slots pc Ls (.int z :: st) H Q :=
  leaveW (fun k => by rw [hret] at k; cases k) q fun p e s m args below meth c T locs fs X hx hc hr hrr => retN X hx (t := .boolean) (hr.trans hret) (by simp) (hb hc hd) hrr
/-- what a call by a contract leaves -/
def After (l : Launch) (Z : State) (a0 : Array Value) (n0 : Nat) (R : Room) (y : MethodName) (code : ByteArray) (mx : Nat) (ret : Option FieldType) (cells slots pc : Nat) (Ls : List Slot) (st : List Value) (Q : Option Value → MH → Prop) : Option Value → MH → Prop
  | some r, H' => WP l Z a0 n0 R y code mx ret cells slots pc Ls (r :: st) H' Q
  | none, H' => WP l Z a0 n0 R y code mx ret cells slots pc Ls st H' Q
theorem After.to {v : Option Value} {H' : MH} (h : After l Z a0 n0 R y code mx ret cells slots pc Ls st Q v H') : WP l Z a0 n0 R y code mx ret cells slots pc Ls (v.toList ++ st) H' Q := by
  cases v <;> exact h
theorem callSG {z : MethodName} {zc : ByteArray} {zm : Nat} {zr : Option FieldType} {ps : List FieldType} {i : Nat} {rm : Room} {pc' : Nat} (W : Nat) (argsL : List Value) {rest : List Value} (w1 : (Cond.methodLink y.cls i z).before a0 Z = true) (w2 : (Cond.static z).before a0 Z = true) (w3 : (Cond.initialized z.cls).before a0 Z = true) (w4 : (Cond.code z zc zm zr).before a0 Z = true) (hy : z.cls ≠ "java/lang/invoke/MethodHandle" ∧ z.cls ≠ "java/lang/invoke/VarHandle") (hds : parseMethodDescriptor z.desc = some ⟨ps, zr⟩) (hlen : argsL.length = ps.length) (hd : decode code pc = .ok (.invokestatic i, 3)) (hs : Ls.length = mx) (hW : (rest.map fun v => v.category).sum = W) (hf : rm.frames + 1 ≤ R.frames) (hl : W + (zm + 11) + rm.locals ≤ R.locals) (hc : cells + rm.cells ≤ R.cells) (hsl : slots + rm.slots ≤ R.slots) (hp : pc + 3 = pc') {cells' slots' : Nat} (hc' : cells + rm.cells = cells') (hs' : slots + rm.slots = slots') (hst : st = argsL.reverse ++ rest)
    (k : Con l Z a0 n0 z zc zm zr rm argsL.toArray H (After l Z a0 n0 R y code mx ret cells' slots' pc' Ls rest Q)) : WP l Z a0 n0 R y code mx ret cells slots pc Ls st H Q := by
  subst hp hst hc' hs'
  intro p e s m args below meth c T locs X hx hZ hcode hm ho hnm hr hlk hF hR g1 g2
  obtain ⟨v, vm, ⟨T', L', k', n'⟩, -, X', ⟨Lc, ⟨q1, H', q2, q3⟩, e1, e2, e3⟩, st'⟩ := Jvm.LawKit.callS X hx (y := z) ho (mvT hZ w1) (mvT hZ w2) (mvT hZ w3) (mvT hZ w4) hy (backOf (W := W) (h := T.heap) (Q := fun v h L => Fr n0 L ∧ ∃ H', Rel Z a0 n0 H' h ∧ After l Z a0 n0 R y code mx ret (cells + rm.cells) (slots + rm.slots) (pc + 3) Ls rest Q v H') (k [] T.heap hR) hZ w4 w3 hf hl) (g := mkF m pc ⟨Ls⟩ (argsL.reverse ++ rest)) rfl (by rw [hm]; simpa using hs) (argsL := argsL) (rest := rest) (lenOf hds hlen) rfl (by show 2 * 0 + _ ≤ _; omega) (hb hcode hd) (fun _ _ => ⟨rfl, rfl, hc, hsl⟩)
  dsimp only [Pt.U, Pt.locs, Pt.cells, Pt.slots] at X' e1 e2 e3 st'
  subst e1 e2 e3
  obtain ⟨v2, H2, L2, s2, k1, k2⟩ := (After.to q3) p e s m args below meth c T' _ X' hx hZ hcode hm ho hnm hr hlk (Fr.app hF q1) q2 hc hsl
  exact ⟨v2, H2, L2, s2, st' _ k1, k2⟩
theorem afterS {r : Value} {H' : MH} (h : WP l Z a0 n0 R y code mx ret cells slots pc Ls (r :: st) H' Q) : After l Z a0 n0 R y code mx ret cells slots pc Ls st Q (some r) H' := h
theorem callS_3 {z : MethodName} {zc : ByteArray} {zm : Nat} {zr : Option FieldType} {ps : List FieldType} {i : Nat} {rm : Room} {pc' : Nat} (W : Nat) {v0 v1 v2 : Value} {rest : List Value} (w1 : (Cond.methodLink y.cls i z).before a0 Z = true) (w2 : (Cond.static z).before a0 Z = true) (w3 : (Cond.initialized z.cls).before a0 Z = true) (w4 : (Cond.code z zc zm zr).before a0 Z = true) (hy : z.cls ≠ "java/lang/invoke/MethodHandle" ∧ z.cls ≠ "java/lang/invoke/VarHandle") (hds : parseMethodDescriptor z.desc = some ⟨ps, zr⟩) (hlen : 3 = ps.length) (hd : decode code pc = .ok (.invokestatic i, 3)) (hs : Ls.length = mx) (hW : (rest.map fun v => v.category).sum = W) (hf : rm.frames + 1 ≤ R.frames) (hl : W + (zm + 11) + rm.locals ≤ R.locals) (hc : cells + rm.cells ≤ R.cells) (hsl : slots + rm.slots ≤ R.slots) (hp : pc + 3 = pc') {cells' slots' : Nat} (hc' : cells + rm.cells = cells') (hs' : slots + rm.slots = slots') (k : Con l Z a0 n0 z zc zm zr rm #[v0, v1, v2] H (After l Z a0 n0 R y code mx ret cells' slots' pc' Ls rest Q)) : WP l Z a0 n0 R y code mx ret cells slots pc Ls (v2 :: v1 :: v0 :: rest) H Q := callSG W [v0, v1, v2] w1 w2 w3 w4 hy hds hlen hd hs hW hf hl hc hsl hp hc' hs' rfl k
end Jvm.Wp
namespace Jvm.Pilot.@@N@@
open Jvm Jvm.ClassFile Sem Op Lib Jvm.Free Jvm.Stand Jvm.LawKit Jvm.RoadKit Bundle Jvm.Pilot.@@N@@.Jvm.D
set_option maxHeartbeats 8000000
abbrev Hw (Z : State) (a0 : Array Value) : Prop := ∀ d ∈ tables_1, d.before a0 Z = true
theorem w0 {Z : State} {a0 : Array Value} (hw : Hw Z a0) : (Jvm.Cond.arrayClass Jvm.ClassFile.FieldType.byte).before a0 Z = true := hw _ (List.mem_of_getElem? (i := 0) rfl)
theorem w1 {Z : State} {a0 : Array Value} (hw : Hw Z a0) : (Jvm.Cond.methodLink "com/example/tick6/tick6/csv/Utf8MalformedAtPinLaw" (7 : Nat) ({ cls := "com/example/tick6/tick6/csv/Utf8MalformedAtPinLaw", name := "ref", desc := "([BII)I" } : Jvm.MethodName)).before a0 Z = true := hw _ (List.mem_of_getElem? (i := 1) rfl)
theorem w2 {Z : State} {a0 : Array Value} (hw : Hw Z a0) : (Jvm.Cond.static ({ cls := "com/example/tick6/tick6/csv/Utf8MalformedAtPinLaw", name := "ref", desc := "([BII)I" } : Jvm.MethodName)).before a0 Z = true := hw _ (List.mem_of_getElem? (i := 2) rfl)
theorem w3 {Z : State} {a0 : Array Value} (hw : Hw Z a0) : (Jvm.Cond.initialized "com/example/tick6/tick6/csv/Utf8MalformedAtPinLaw").before a0 Z = true := hw _ (List.mem_of_getElem? (i := 3) rfl)
theorem w4 {Z : State} {a0 : Array Value} (hw : Hw Z a0) : (Jvm.Cond.code ({ cls := "com/example/tick6/tick6/csv/Utf8MalformedAtPinLaw", name := "ref", desc := "([BII)I" } : Jvm.MethodName) method_3_code (5 : Nat) (Option.some Jvm.ClassFile.FieldType.int)).before a0 Z = true := hw _ (List.mem_of_getElem? (i := 4) rfl)
theorem w5 {Z : State} {a0 : Array Value} (hw : Hw Z a0) : (Jvm.Cond.methodLink "com/example/tick6/tick6/csv/Utf8MalformedAtPinLaw" (13 : Nat) ({ cls := "com/example/tick6/tick6/csv/Utf8", name := "malformedAt", desc := "([BII)I" } : Jvm.MethodName)).before a0 Z = true := hw _ (List.mem_of_getElem? (i := 5) rfl)
theorem w6 {Z : State} {a0 : Array Value} (hw : Hw Z a0) : (Jvm.Cond.static ({ cls := "com/example/tick6/tick6/csv/Utf8", name := "malformedAt", desc := "([BII)I" } : Jvm.MethodName)).before a0 Z = true := hw _ (List.mem_of_getElem? (i := 6) rfl)
theorem w7 {Z : State} {a0 : Array Value} (hw : Hw Z a0) : (Jvm.Cond.initialized "com/example/tick6/tick6/csv/Utf8").before a0 Z = true := hw _ (List.mem_of_getElem? (i := 7) rfl)
theorem w8 {Z : State} {a0 : Array Value} (hw : Hw Z a0) : (Jvm.Cond.code ({ cls := "com/example/tick6/tick6/csv/Utf8", name := "malformedAt", desc := "([BII)I" } : Jvm.MethodName) prog_21_method_2_code (10 : Nat) (Option.some Jvm.ClassFile.FieldType.int)).before a0 Z = true := hw _ (List.mem_of_getElem? (i := 8) rfl)
theorem w9 {Z : State} {a0 : Array Value} (hw : Hw Z a0) : (Jvm.Cond.methodLink "com/example/tick6/tick6/csv/Utf8MalformedAtPinLaw" (18 : Nat) ({ cls := "com/example/tick6/tick6/csv/Utf8MalformedAtPinLaw", name := "step", desc := "([BII)I" } : Jvm.MethodName)).before a0 Z = true := hw _ (List.mem_of_getElem? (i := 9) rfl)
theorem w10 {Z : State} {a0 : Array Value} (hw : Hw Z a0) : (Jvm.Cond.static ({ cls := "com/example/tick6/tick6/csv/Utf8MalformedAtPinLaw", name := "step", desc := "([BII)I" } : Jvm.MethodName)).before a0 Z = true := hw _ (List.mem_of_getElem? (i := 10) rfl)
theorem w11 {Z : State} {a0 : Array Value} (hw : Hw Z a0) : (Jvm.Cond.code ({ cls := "com/example/tick6/tick6/csv/Utf8MalformedAtPinLaw", name := "step", desc := "([BII)I" } : Jvm.MethodName) method_4_code (8 : Nat) (Option.some Jvm.ClassFile.FieldType.int)).before a0 Z = true := hw _ (List.mem_of_getElem? (i := 11) rfl)
theorem w12 {Z : State} {a0 : Array Value} (hw : Hw Z a0) : (Jvm.Cond.constant "com/example/tick6/tick6/csv/Utf8MalformedAtPinLaw" (21 : Nat) (65536 : Int32)).before a0 Z = true := hw _ (List.mem_of_getElem? (i := 12) rfl)
theorem w13 {Z : State} {a0 : Array Value} (hw : Hw Z a0) : (Jvm.Cond.constant "com/example/tick6/tick6/csv/Utf8MalformedAtPinLaw" (22 : Nat) (1114111 : Int32)).before a0 Z = true := hw _ (List.mem_of_getElem? (i := 13) rfl)
theorem w14 {Z : State} {a0 : Array Value} (hw : Hw Z a0) : (Jvm.Cond.constant "com/example/tick6/tick6/csv/Utf8MalformedAtPinLaw" (23 : Nat) (55296 : Int32)).before a0 Z = true := hw _ (List.mem_of_getElem? (i := 14) rfl)
theorem w15 {Z : State} {a0 : Array Value} (hw : Hw Z a0) : (Jvm.Cond.constant "com/example/tick6/tick6/csv/Utf8MalformedAtPinLaw" (24 : Nat) (57343 : Int32)).before a0 Z = true := hw _ (List.mem_of_getElem? (i := 15) rfl)
theorem d1_0 : decode method_3_code 0 = .ok (.iload_n 1, 1) := by decide +kernel
theorem d1_1 : decode method_3_code 1 = .ok (.istore_n 3, 1) := by decide +kernel
theorem d1_2 : decode method_3_code 2 = .ok (.iload_n 3, 1) := by decide +kernel
theorem d1_3 : decode method_3_code 3 = .ok (.iload_n 2, 1) := by decide +kernel
theorem d1_4 : decode method_3_code 4 = .ok (.if_icmp .lt 5, 3) := by decide +kernel
theorem d1_7 : decode method_3_code 7 = .ok (.iconst (-1), 1) := by decide +kernel
theorem d1_8 : decode method_3_code 8 = .ok (.ireturn, 1) := by decide +kernel
theorem d1_9 : decode method_3_code 9 = .ok (.aload_n 0, 1) := by decide +kernel
theorem d1_10 : decode method_3_code 10 = .ok (.iload_n 3, 1) := by decide +kernel
theorem d1_11 : decode method_3_code 11 = .ok (.iload_n 2, 1) := by decide +kernel
theorem d1_12 : decode method_3_code 12 = .ok (.invokestatic 18, 3) := by decide +kernel
theorem d1_15 : decode method_3_code 15 = .ok (.istore 4, 2) := by decide +kernel
theorem d1_17 : decode method_3_code 17 = .ok (.iload 4, 2) := by decide +kernel
theorem d1_19 : decode method_3_code 19 = .ok (.ifCond .ne 5, 3) := by decide +kernel
theorem d1_22 : decode method_3_code 22 = .ok (.iload_n 3, 1) := by decide +kernel
theorem d1_23 : decode method_3_code 23 = .ok (.ireturn, 1) := by decide +kernel
theorem d1_24 : decode method_3_code 24 = .ok (.iload_n 3, 1) := by decide +kernel
theorem d1_25 : decode method_3_code 25 = .ok (.iload 4, 2) := by decide +kernel
theorem d1_27 : decode method_3_code 27 = .ok (.iadd, 1) := by decide +kernel
theorem d1_28 : decode method_3_code 28 = .ok (.istore_n 3, 1) := by decide +kernel
theorem d1_29 : decode method_3_code 29 = .ok (.iload_n 3, 1) := by decide +kernel
theorem d1_30 : decode method_3_code 30 = .ok (.iload_n 2, 1) := by decide +kernel
theorem d1_31 : decode method_3_code 31 = .ok (.if_icmp .lt 5, 3) := by decide +kernel
theorem d1_34 : decode method_3_code 34 = .ok (.iconst (-1), 1) := by decide +kernel
theorem d1_35 : decode method_3_code 35 = .ok (.ireturn, 1) := by decide +kernel
theorem d1_36 : decode method_3_code 36 = .ok (.aload_n 0, 1) := by decide +kernel
theorem d1_37 : decode method_3_code 37 = .ok (.iload_n 3, 1) := by decide +kernel
theorem d1_38 : decode method_3_code 38 = .ok (.iload_n 2, 1) := by decide +kernel
theorem d1_39 : decode method_3_code 39 = .ok (.invokestatic 18, 3) := by decide +kernel
theorem d1_42 : decode method_3_code 42 = .ok (.istore 4, 2) := by decide +kernel
theorem d1_44 : decode method_3_code 44 = .ok (.iload 4, 2) := by decide +kernel
theorem d1_46 : decode method_3_code 46 = .ok (.ifCond .ne 5, 3) := by decide +kernel
theorem d1_49 : decode method_3_code 49 = .ok (.iload_n 3, 1) := by decide +kernel
theorem d1_50 : decode method_3_code 50 = .ok (.ireturn, 1) := by decide +kernel
theorem d1_51 : decode method_3_code 51 = .ok (.iload_n 3, 1) := by decide +kernel
theorem d1_52 : decode method_3_code 52 = .ok (.iload 4, 2) := by decide +kernel
theorem d1_54 : decode method_3_code 54 = .ok (.iadd, 1) := by decide +kernel
theorem d1_55 : decode method_3_code 55 = .ok (.istore_n 3, 1) := by decide +kernel
theorem d1_56 : decode method_3_code 56 = .ok (.iload_n 3, 1) := by decide +kernel
theorem d1_57 : decode method_3_code 57 = .ok (.iload_n 2, 1) := by decide +kernel
theorem d1_58 : decode method_3_code 58 = .ok (.if_icmp .lt 5, 3) := by decide +kernel
theorem d1_61 : decode method_3_code 61 = .ok (.iconst (-1), 1) := by decide +kernel
theorem d1_62 : decode method_3_code 62 = .ok (.ireturn, 1) := by decide +kernel
theorem d1_63 : decode method_3_code 63 = .ok (.aload_n 0, 1) := by decide +kernel
theorem d1_64 : decode method_3_code 64 = .ok (.iload_n 3, 1) := by decide +kernel
theorem d1_65 : decode method_3_code 65 = .ok (.iload_n 2, 1) := by decide +kernel
theorem d1_66 : decode method_3_code 66 = .ok (.invokestatic 18, 3) := by decide +kernel
theorem d1_69 : decode method_3_code 69 = .ok (.istore 4, 2) := by decide +kernel
theorem d1_71 : decode method_3_code 71 = .ok (.iload 4, 2) := by decide +kernel
theorem d1_73 : decode method_3_code 73 = .ok (.ifCond .ne 5, 3) := by decide +kernel
theorem d1_76 : decode method_3_code 76 = .ok (.iload_n 3, 1) := by decide +kernel
theorem d1_77 : decode method_3_code 77 = .ok (.ireturn, 1) := by decide +kernel
theorem d1_78 : decode method_3_code 78 = .ok (.iload_n 3, 1) := by decide +kernel
theorem d1_79 : decode method_3_code 79 = .ok (.iload 4, 2) := by decide +kernel
theorem d1_81 : decode method_3_code 81 = .ok (.iadd, 1) := by decide +kernel
theorem d1_82 : decode method_3_code 82 = .ok (.istore_n 3, 1) := by decide +kernel
theorem d1_83 : decode method_3_code 83 = .ok (.iload_n 3, 1) := by decide +kernel
theorem d1_84 : decode method_3_code 84 = .ok (.iload_n 2, 1) := by decide +kernel
theorem d1_85 : decode method_3_code 85 = .ok (.if_icmp .lt 5, 3) := by decide +kernel
theorem d1_88 : decode method_3_code 88 = .ok (.iconst (-1), 1) := by decide +kernel
theorem d1_89 : decode method_3_code 89 = .ok (.ireturn, 1) := by decide +kernel
theorem d1_90 : decode method_3_code 90 = .ok (.aload_n 0, 1) := by decide +kernel
theorem d1_91 : decode method_3_code 91 = .ok (.iload_n 3, 1) := by decide +kernel
theorem d1_92 : decode method_3_code 92 = .ok (.iload_n 2, 1) := by decide +kernel
theorem d1_93 : decode method_3_code 93 = .ok (.invokestatic 18, 3) := by decide +kernel
theorem d1_96 : decode method_3_code 96 = .ok (.istore 4, 2) := by decide +kernel
theorem d1_98 : decode method_3_code 98 = .ok (.iload 4, 2) := by decide +kernel
theorem d1_100 : decode method_3_code 100 = .ok (.ifCond .ne 5, 3) := by decide +kernel
theorem d1_103 : decode method_3_code 103 = .ok (.iload_n 3, 1) := by decide +kernel
theorem d1_104 : decode method_3_code 104 = .ok (.ireturn, 1) := by decide +kernel
theorem d1_105 : decode method_3_code 105 = .ok (.iload_n 3, 1) := by decide +kernel
theorem d1_106 : decode method_3_code 106 = .ok (.iload 4, 2) := by decide +kernel
theorem d1_108 : decode method_3_code 108 = .ok (.iadd, 1) := by decide +kernel
theorem d1_109 : decode method_3_code 109 = .ok (.istore_n 3, 1) := by decide +kernel
theorem d1_110 : decode method_3_code 110 = .ok (.iload_n 3, 1) := by decide +kernel
theorem d1_111 : decode method_3_code 111 = .ok (.iload_n 2, 1) := by decide +kernel
theorem d1_112 : decode method_3_code 112 = .ok (.if_icmp .lt 5, 3) := by decide +kernel
theorem d1_115 : decode method_3_code 115 = .ok (.iconst (-1), 1) := by decide +kernel
theorem d1_116 : decode method_3_code 116 = .ok (.ireturn, 1) := by decide +kernel
theorem d1_117 : decode method_3_code 117 = .ok (.aload_n 0, 1) := by decide +kernel
theorem d1_118 : decode method_3_code 118 = .ok (.iload_n 3, 1) := by decide +kernel
theorem d1_119 : decode method_3_code 119 = .ok (.iload_n 2, 1) := by decide +kernel
theorem d1_120 : decode method_3_code 120 = .ok (.invokestatic 18, 3) := by decide +kernel
theorem d1_123 : decode method_3_code 123 = .ok (.istore 4, 2) := by decide +kernel
theorem d1_125 : decode method_3_code 125 = .ok (.iload 4, 2) := by decide +kernel
theorem d1_127 : decode method_3_code 127 = .ok (.ifCond .ne 5, 3) := by decide +kernel
theorem d1_130 : decode method_3_code 130 = .ok (.iload_n 3, 1) := by decide +kernel
theorem d1_131 : decode method_3_code 131 = .ok (.ireturn, 1) := by decide +kernel
theorem d1_132 : decode method_3_code 132 = .ok (.iconst (-1), 1) := by decide +kernel
theorem d1_133 : decode method_3_code 133 = .ok (.ireturn, 1) := by decide +kernel
theorem d2_0 : decode prog_21_method_2_code 0 = .ok (.iload_n 1, 1) := by decide +kernel
theorem d2_1 : decode prog_21_method_2_code 1 = .ok (.istore_n 3, 1) := by decide +kernel
theorem d2_2 : decode prog_21_method_2_code 2 = .ok (.iload_n 3, 1) := by decide +kernel
theorem d2_3 : decode prog_21_method_2_code 3 = .ok (.iload_n 2, 1) := by decide +kernel
theorem d2_4 : decode prog_21_method_2_code 4 = .ok (.if_icmp .ge 264, 3) := by decide +kernel
theorem d2_7 : decode prog_21_method_2_code 7 = .ok (.aload_n 0, 1) := by decide +kernel
theorem d2_8 : decode prog_21_method_2_code 8 = .ok (.iload_n 3, 1) := by decide +kernel
theorem d2_9 : decode prog_21_method_2_code 9 = .ok (.baload, 1) := by decide +kernel
theorem d2_10 : decode prog_21_method_2_code 10 = .ok (.sipush 255, 3) := by decide +kernel
theorem d2_13 : decode prog_21_method_2_code 13 = .ok (.iand, 1) := by decide +kernel
theorem d2_14 : decode prog_21_method_2_code 14 = .ok (.istore 4, 2) := by decide +kernel
theorem d2_16 : decode prog_21_method_2_code 16 = .ok (.sipush 128, 3) := by decide +kernel
theorem d2_19 : decode prog_21_method_2_code 19 = .ok (.istore 6, 2) := by decide +kernel
theorem d2_21 : decode prog_21_method_2_code 21 = .ok (.sipush 191, 3) := by decide +kernel
theorem d2_24 : decode prog_21_method_2_code 24 = .ok (.istore 7, 2) := by decide +kernel
theorem d2_26 : decode prog_21_method_2_code 26 = .ok (.iload 4, 2) := by decide +kernel
theorem d2_28 : decode prog_21_method_2_code 28 = .ok (.sipush 128, 3) := by decide +kernel
theorem d2_31 : decode prog_21_method_2_code 31 = .ok (.if_icmp .ge 9, 3) := by decide +kernel
theorem d2_34 : decode prog_21_method_2_code 34 = .ok (.iconst 0, 1) := by decide +kernel
theorem d2_35 : decode prog_21_method_2_code 35 = .ok (.istore 5, 2) := by decide +kernel
theorem d2_37 : decode prog_21_method_2_code 37 = .ok (.goto 143, 3) := by decide +kernel
theorem d2_40 : decode prog_21_method_2_code 40 = .ok (.iload 4, 2) := by decide +kernel
theorem d2_42 : decode prog_21_method_2_code 42 = .ok (.sipush 194, 3) := by decide +kernel
theorem d2_45 : decode prog_21_method_2_code 45 = .ok (.if_icmp .lt 17, 3) := by decide +kernel
theorem d2_48 : decode prog_21_method_2_code 48 = .ok (.iload 4, 2) := by decide +kernel
theorem d2_50 : decode prog_21_method_2_code 50 = .ok (.sipush 223, 3) := by decide +kernel
theorem d2_53 : decode prog_21_method_2_code 53 = .ok (.if_icmp .gt 9, 3) := by decide +kernel
theorem d2_56 : decode prog_21_method_2_code 56 = .ok (.iconst 1, 1) := by decide +kernel
theorem d2_57 : decode prog_21_method_2_code 57 = .ok (.istore 5, 2) := by decide +kernel
theorem d2_59 : decode prog_21_method_2_code 59 = .ok (.goto 121, 3) := by decide +kernel
theorem d2_62 : decode prog_21_method_2_code 62 = .ok (.iload 4, 2) := by decide +kernel
theorem d2_64 : decode prog_21_method_2_code 64 = .ok (.sipush 224, 3) := by decide +kernel
theorem d2_67 : decode prog_21_method_2_code 67 = .ok (.if_icmp .lt 53, 3) := by decide +kernel
theorem d2_70 : decode prog_21_method_2_code 70 = .ok (.iload 4, 2) := by decide +kernel
theorem d2_72 : decode prog_21_method_2_code 72 = .ok (.sipush 239, 3) := by decide +kernel
theorem d2_75 : decode prog_21_method_2_code 75 = .ok (.if_icmp .gt 45, 3) := by decide +kernel
theorem d2_78 : decode prog_21_method_2_code 78 = .ok (.iconst 2, 1) := by decide +kernel
theorem d2_79 : decode prog_21_method_2_code 79 = .ok (.istore 5, 2) := by decide +kernel
theorem d2_81 : decode prog_21_method_2_code 81 = .ok (.iload 4, 2) := by decide +kernel
theorem d2_83 : decode prog_21_method_2_code 83 = .ok (.sipush 224, 3) := by decide +kernel
theorem d2_86 : decode prog_21_method_2_code 86 = .ok (.if_icmp .ne 9, 3) := by decide +kernel
theorem d2_89 : decode prog_21_method_2_code 89 = .ok (.sipush 160, 3) := by decide +kernel
theorem d2_92 : decode prog_21_method_2_code 92 = .ok (.goto 5, 3) := by decide +kernel
theorem d2_95 : decode prog_21_method_2_code 95 = .ok (.iload 6, 2) := by decide +kernel
theorem d2_97 : decode prog_21_method_2_code 97 = .ok (.istore 6, 2) := by decide +kernel
theorem d2_99 : decode prog_21_method_2_code 99 = .ok (.iload 4, 2) := by decide +kernel
theorem d2_101 : decode prog_21_method_2_code 101 = .ok (.sipush 237, 3) := by decide +kernel
theorem d2_104 : decode prog_21_method_2_code 104 = .ok (.if_icmp .ne 9, 3) := by decide +kernel
theorem d2_107 : decode prog_21_method_2_code 107 = .ok (.sipush 159, 3) := by decide +kernel
theorem d2_110 : decode prog_21_method_2_code 110 = .ok (.goto 5, 3) := by decide +kernel
theorem d2_113 : decode prog_21_method_2_code 113 = .ok (.iload 7, 2) := by decide +kernel
theorem d2_115 : decode prog_21_method_2_code 115 = .ok (.istore 7, 2) := by decide +kernel
theorem d2_117 : decode prog_21_method_2_code 117 = .ok (.goto 63, 3) := by decide +kernel
theorem d2_120 : decode prog_21_method_2_code 120 = .ok (.iload 4, 2) := by decide +kernel
theorem d2_122 : decode prog_21_method_2_code 122 = .ok (.sipush 240, 3) := by decide +kernel
theorem d2_125 : decode prog_21_method_2_code 125 = .ok (.if_icmp .lt 53, 3) := by decide +kernel
theorem d2_128 : decode prog_21_method_2_code 128 = .ok (.iload 4, 2) := by decide +kernel
theorem d2_130 : decode prog_21_method_2_code 130 = .ok (.sipush 244, 3) := by decide +kernel
theorem d2_133 : decode prog_21_method_2_code 133 = .ok (.if_icmp .gt 45, 3) := by decide +kernel
theorem d2_136 : decode prog_21_method_2_code 136 = .ok (.iconst 3, 1) := by decide +kernel
theorem d2_137 : decode prog_21_method_2_code 137 = .ok (.istore 5, 2) := by decide +kernel
theorem d2_139 : decode prog_21_method_2_code 139 = .ok (.iload 4, 2) := by decide +kernel
theorem d2_141 : decode prog_21_method_2_code 141 = .ok (.sipush 240, 3) := by decide +kernel
theorem d2_144 : decode prog_21_method_2_code 144 = .ok (.if_icmp .ne 9, 3) := by decide +kernel
theorem d2_147 : decode prog_21_method_2_code 147 = .ok (.sipush 144, 3) := by decide +kernel
theorem d2_150 : decode prog_21_method_2_code 150 = .ok (.goto 5, 3) := by decide +kernel
theorem d2_153 : decode prog_21_method_2_code 153 = .ok (.iload 6, 2) := by decide +kernel
theorem d2_155 : decode prog_21_method_2_code 155 = .ok (.istore 6, 2) := by decide +kernel
theorem d2_157 : decode prog_21_method_2_code 157 = .ok (.iload 4, 2) := by decide +kernel
theorem d2_159 : decode prog_21_method_2_code 159 = .ok (.sipush 244, 3) := by decide +kernel
theorem d2_162 : decode prog_21_method_2_code 162 = .ok (.if_icmp .ne 9, 3) := by decide +kernel
theorem d2_165 : decode prog_21_method_2_code 165 = .ok (.sipush 143, 3) := by decide +kernel
theorem d2_168 : decode prog_21_method_2_code 168 = .ok (.goto 5, 3) := by decide +kernel
theorem d2_171 : decode prog_21_method_2_code 171 = .ok (.iload 7, 2) := by decide +kernel
theorem d2_173 : decode prog_21_method_2_code 173 = .ok (.istore 7, 2) := by decide +kernel
theorem d2_175 : decode prog_21_method_2_code 175 = .ok (.goto 5, 3) := by decide +kernel
theorem d2_178 : decode prog_21_method_2_code 178 = .ok (.iload_n 3, 1) := by decide +kernel
theorem d2_179 : decode prog_21_method_2_code 179 = .ok (.ireturn, 1) := by decide +kernel
theorem d2_180 : decode prog_21_method_2_code 180 = .ok (.iload_n 3, 1) := by decide +kernel
theorem d2_181 : decode prog_21_method_2_code 181 = .ok (.iload 5, 2) := by decide +kernel
theorem d2_183 : decode prog_21_method_2_code 183 = .ok (.iadd, 1) := by decide +kernel
theorem d2_184 : decode prog_21_method_2_code 184 = .ok (.iload_n 2, 1) := by decide +kernel
theorem d2_185 : decode prog_21_method_2_code 185 = .ok (.if_icmp .lt 5, 3) := by decide +kernel
theorem d2_188 : decode prog_21_method_2_code 188 = .ok (.iload_n 3, 1) := by decide +kernel
theorem d2_189 : decode prog_21_method_2_code 189 = .ok (.ireturn, 1) := by decide +kernel
theorem d2_190 : decode prog_21_method_2_code 190 = .ok (.iconst 1, 1) := by decide +kernel
theorem d2_191 : decode prog_21_method_2_code 191 = .ok (.istore 8, 2) := by decide +kernel
theorem d2_193 : decode prog_21_method_2_code 193 = .ok (.iload 8, 2) := by decide +kernel
theorem d2_195 : decode prog_21_method_2_code 195 = .ok (.iload 5, 2) := by decide +kernel
theorem d2_197 : decode prog_21_method_2_code 197 = .ok (.if_icmp .gt 61, 3) := by decide +kernel
theorem d2_200 : decode prog_21_method_2_code 200 = .ok (.aload_n 0, 1) := by decide +kernel
theorem d2_201 : decode prog_21_method_2_code 201 = .ok (.iload_n 3, 1) := by decide +kernel
theorem d2_202 : decode prog_21_method_2_code 202 = .ok (.iload 8, 2) := by decide +kernel
theorem d2_204 : decode prog_21_method_2_code 204 = .ok (.iadd, 1) := by decide +kernel
theorem d2_205 : decode prog_21_method_2_code 205 = .ok (.baload, 1) := by decide +kernel
theorem d2_206 : decode prog_21_method_2_code 206 = .ok (.sipush 255, 3) := by decide +kernel
theorem d2_209 : decode prog_21_method_2_code 209 = .ok (.iand, 1) := by decide +kernel
theorem d2_210 : decode prog_21_method_2_code 210 = .ok (.istore 9, 2) := by decide +kernel
theorem d2_212 : decode prog_21_method_2_code 212 = .ok (.iload 9, 2) := by decide +kernel
theorem d2_214 : decode prog_21_method_2_code 214 = .ok (.iload 8, 2) := by decide +kernel
theorem d2_216 : decode prog_21_method_2_code 216 = .ok (.iconst 1, 1) := by decide +kernel
theorem d2_217 : decode prog_21_method_2_code 217 = .ok (.if_icmp .ne 8, 3) := by decide +kernel
theorem d2_220 : decode prog_21_method_2_code 220 = .ok (.iload 6, 2) := by decide +kernel
theorem d2_222 : decode prog_21_method_2_code 222 = .ok (.goto 6, 3) := by decide +kernel
theorem d2_225 : decode prog_21_method_2_code 225 = .ok (.sipush 128, 3) := by decide +kernel
theorem d2_228 : decode prog_21_method_2_code 228 = .ok (.if_icmp .lt 22, 3) := by decide +kernel
theorem d2_231 : decode prog_21_method_2_code 231 = .ok (.iload 9, 2) := by decide +kernel
theorem d2_233 : decode prog_21_method_2_code 233 = .ok (.iload 8, 2) := by decide +kernel
theorem d2_235 : decode prog_21_method_2_code 235 = .ok (.iconst 1, 1) := by decide +kernel
theorem d2_236 : decode prog_21_method_2_code 236 = .ok (.if_icmp .ne 8, 3) := by decide +kernel
theorem d2_239 : decode prog_21_method_2_code 239 = .ok (.iload 7, 2) := by decide +kernel
theorem d2_241 : decode prog_21_method_2_code 241 = .ok (.goto 6, 3) := by decide +kernel
theorem d2_244 : decode prog_21_method_2_code 244 = .ok (.sipush 191, 3) := by decide +kernel
theorem d2_247 : decode prog_21_method_2_code 247 = .ok (.if_icmp .le 5, 3) := by decide +kernel
theorem d2_250 : decode prog_21_method_2_code 250 = .ok (.iload_n 3, 1) := by decide +kernel
theorem d2_251 : decode prog_21_method_2_code 251 = .ok (.ireturn, 1) := by decide +kernel
theorem d2_252 : decode prog_21_method_2_code 252 = .ok (.iinc 8 1, 3) := by decide +kernel
theorem d2_255 : decode prog_21_method_2_code 255 = .ok (.goto (-62), 3) := by decide +kernel
theorem d2_258 : decode prog_21_method_2_code 258 = .ok (.iload_n 3, 1) := by decide +kernel
theorem d2_259 : decode prog_21_method_2_code 259 = .ok (.iload 5, 2) := by decide +kernel
theorem d2_261 : decode prog_21_method_2_code 261 = .ok (.iconst 1, 1) := by decide +kernel
theorem d2_262 : decode prog_21_method_2_code 262 = .ok (.iadd, 1) := by decide +kernel
theorem d2_263 : decode prog_21_method_2_code 263 = .ok (.iadd, 1) := by decide +kernel
theorem d2_264 : decode prog_21_method_2_code 264 = .ok (.istore_n 3, 1) := by decide +kernel
theorem d2_265 : decode prog_21_method_2_code 265 = .ok (.goto (-263), 3) := by decide +kernel
theorem d2_268 : decode prog_21_method_2_code 268 = .ok (.iconst (-1), 1) := by decide +kernel
theorem d2_269 : decode prog_21_method_2_code 269 = .ok (.ireturn, 1) := by decide +kernel
theorem d3_0 : decode method_4_code 0 = .ok (.aload_n 0, 1) := by decide +kernel
theorem d3_1 : decode method_4_code 1 = .ok (.iload_n 1, 1) := by decide +kernel
theorem d3_2 : decode method_4_code 2 = .ok (.baload, 1) := by decide +kernel
theorem d3_3 : decode method_4_code 3 = .ok (.sipush 255, 3) := by decide +kernel
theorem d3_6 : decode method_4_code 6 = .ok (.iand, 1) := by decide +kernel
theorem d3_7 : decode method_4_code 7 = .ok (.istore_n 3, 1) := by decide +kernel
theorem d3_8 : decode method_4_code 8 = .ok (.iload_n 3, 1) := by decide +kernel
theorem d3_9 : decode method_4_code 9 = .ok (.sipush 128, 3) := by decide +kernel
theorem d3_12 : decode method_4_code 12 = .ok (.if_icmp .ge 5, 3) := by decide +kernel
theorem d3_15 : decode method_4_code 15 = .ok (.iconst 1, 1) := by decide +kernel
theorem d3_16 : decode method_4_code 16 = .ok (.ireturn, 1) := by decide +kernel
theorem d3_17 : decode method_4_code 17 = .ok (.iload_n 3, 1) := by decide +kernel
theorem d3_18 : decode method_4_code 18 = .ok (.sipush 224, 3) := by decide +kernel
theorem d3_21 : decode method_4_code 21 = .ok (.iand, 1) := by decide +kernel
theorem d3_22 : decode method_4_code 22 = .ok (.sipush 192, 3) := by decide +kernel
theorem d3_25 : decode method_4_code 25 = .ok (.if_icmp .ne 15, 3) := by decide +kernel
theorem d3_28 : decode method_4_code 28 = .ok (.iconst 2, 1) := by decide +kernel
theorem d3_29 : decode method_4_code 29 = .ok (.istore 4, 2) := by decide +kernel
theorem d3_31 : decode method_4_code 31 = .ok (.iload_n 3, 1) := by decide +kernel
theorem d3_32 : decode method_4_code 32 = .ok (.bipush 31, 2) := by decide +kernel
theorem d3_34 : decode method_4_code 34 = .ok (.iand, 1) := by decide +kernel
theorem d3_35 : decode method_4_code 35 = .ok (.istore 5, 2) := by decide +kernel
theorem d3_37 : decode method_4_code 37 = .ok (.goto 51, 3) := by decide +kernel
theorem d3_40 : decode method_4_code 40 = .ok (.iload_n 3, 1) := by decide +kernel
theorem d3_41 : decode method_4_code 41 = .ok (.sipush 240, 3) := by decide +kernel
theorem d3_44 : decode method_4_code 44 = .ok (.iand, 1) := by decide +kernel
theorem d3_45 : decode method_4_code 45 = .ok (.sipush 224, 3) := by decide +kernel
theorem d3_48 : decode method_4_code 48 = .ok (.if_icmp .ne 15, 3) := by decide +kernel
theorem d3_51 : decode method_4_code 51 = .ok (.iconst 3, 1) := by decide +kernel
theorem d3_52 : decode method_4_code 52 = .ok (.istore 4, 2) := by decide +kernel
theorem d3_54 : decode method_4_code 54 = .ok (.iload_n 3, 1) := by decide +kernel
theorem d3_55 : decode method_4_code 55 = .ok (.bipush 15, 2) := by decide +kernel
theorem d3_57 : decode method_4_code 57 = .ok (.iand, 1) := by decide +kernel
theorem d3_58 : decode method_4_code 58 = .ok (.istore 5, 2) := by decide +kernel
theorem d3_60 : decode method_4_code 60 = .ok (.goto 28, 3) := by decide +kernel
theorem d3_63 : decode method_4_code 63 = .ok (.iload_n 3, 1) := by decide +kernel
theorem d3_64 : decode method_4_code 64 = .ok (.sipush 248, 3) := by decide +kernel
theorem d3_67 : decode method_4_code 67 = .ok (.iand, 1) := by decide +kernel
theorem d3_68 : decode method_4_code 68 = .ok (.sipush 240, 3) := by decide +kernel
theorem d3_71 : decode method_4_code 71 = .ok (.if_icmp .ne 15, 3) := by decide +kernel
theorem d3_74 : decode method_4_code 74 = .ok (.iconst 4, 1) := by decide +kernel
theorem d3_75 : decode method_4_code 75 = .ok (.istore 4, 2) := by decide +kernel
theorem d3_77 : decode method_4_code 77 = .ok (.iload_n 3, 1) := by decide +kernel
theorem d3_78 : decode method_4_code 78 = .ok (.bipush 7, 2) := by decide +kernel
theorem d3_80 : decode method_4_code 80 = .ok (.iand, 1) := by decide +kernel
theorem d3_81 : decode method_4_code 81 = .ok (.istore 5, 2) := by decide +kernel
theorem d3_83 : decode method_4_code 83 = .ok (.goto 5, 3) := by decide +kernel
theorem d3_86 : decode method_4_code 86 = .ok (.iconst 0, 1) := by decide +kernel
theorem d3_87 : decode method_4_code 87 = .ok (.ireturn, 1) := by decide +kernel
theorem d3_88 : decode method_4_code 88 = .ok (.iload_n 1, 1) := by decide +kernel
theorem d3_89 : decode method_4_code 89 = .ok (.iload 4, 2) := by decide +kernel
theorem d3_91 : decode method_4_code 91 = .ok (.iadd, 1) := by decide +kernel
theorem d3_92 : decode method_4_code 92 = .ok (.iload_n 2, 1) := by decide +kernel
theorem d3_93 : decode method_4_code 93 = .ok (.if_icmp .le 5, 3) := by decide +kernel
theorem d3_96 : decode method_4_code 96 = .ok (.iconst 0, 1) := by decide +kernel
theorem d3_97 : decode method_4_code 97 = .ok (.ireturn, 1) := by decide +kernel
theorem d3_98 : decode method_4_code 98 = .ok (.aload_n 0, 1) := by decide +kernel
theorem d3_99 : decode method_4_code 99 = .ok (.iload_n 1, 1) := by decide +kernel
theorem d3_100 : decode method_4_code 100 = .ok (.iconst 1, 1) := by decide +kernel
theorem d3_101 : decode method_4_code 101 = .ok (.iadd, 1) := by decide +kernel
theorem d3_102 : decode method_4_code 102 = .ok (.baload, 1) := by decide +kernel
theorem d3_103 : decode method_4_code 103 = .ok (.sipush 255, 3) := by decide +kernel
theorem d3_106 : decode method_4_code 106 = .ok (.iand, 1) := by decide +kernel
theorem d3_107 : decode method_4_code 107 = .ok (.istore 6, 2) := by decide +kernel
theorem d3_109 : decode method_4_code 109 = .ok (.iload 6, 2) := by decide +kernel
theorem d3_111 : decode method_4_code 111 = .ok (.sipush 192, 3) := by decide +kernel
theorem d3_114 : decode method_4_code 114 = .ok (.iand, 1) := by decide +kernel
theorem d3_115 : decode method_4_code 115 = .ok (.sipush 128, 3) := by decide +kernel
theorem d3_118 : decode method_4_code 118 = .ok (.if_icmp .eq 5, 3) := by decide +kernel
theorem d3_121 : decode method_4_code 121 = .ok (.iconst 0, 1) := by decide +kernel
theorem d3_122 : decode method_4_code 122 = .ok (.ireturn, 1) := by decide +kernel
theorem d3_123 : decode method_4_code 123 = .ok (.iload 5, 2) := by decide +kernel
theorem d3_125 : decode method_4_code 125 = .ok (.bipush 6, 2) := by decide +kernel
theorem d3_127 : decode method_4_code 127 = .ok (.ishl, 1) := by decide +kernel
theorem d3_128 : decode method_4_code 128 = .ok (.iload 6, 2) := by decide +kernel
theorem d3_130 : decode method_4_code 130 = .ok (.bipush 63, 2) := by decide +kernel
theorem d3_132 : decode method_4_code 132 = .ok (.iand, 1) := by decide +kernel
theorem d3_133 : decode method_4_code 133 = .ok (.ior, 1) := by decide +kernel
theorem d3_134 : decode method_4_code 134 = .ok (.istore 5, 2) := by decide +kernel
theorem d3_136 : decode method_4_code 136 = .ok (.iload 4, 2) := by decide +kernel
theorem d3_138 : decode method_4_code 138 = .ok (.iconst 3, 1) := by decide +kernel
theorem d3_139 : decode method_4_code 139 = .ok (.if_icmp .lt 41, 3) := by decide +kernel
theorem d3_142 : decode method_4_code 142 = .ok (.aload_n 0, 1) := by decide +kernel
theorem d3_143 : decode method_4_code 143 = .ok (.iload_n 1, 1) := by decide +kernel
theorem d3_144 : decode method_4_code 144 = .ok (.iconst 2, 1) := by decide +kernel
theorem d3_145 : decode method_4_code 145 = .ok (.iadd, 1) := by decide +kernel
theorem d3_146 : decode method_4_code 146 = .ok (.baload, 1) := by decide +kernel
theorem d3_147 : decode method_4_code 147 = .ok (.sipush 255, 3) := by decide +kernel
theorem d3_150 : decode method_4_code 150 = .ok (.iand, 1) := by decide +kernel
theorem d3_151 : decode method_4_code 151 = .ok (.istore 7, 2) := by decide +kernel
theorem d3_153 : decode method_4_code 153 = .ok (.iload 7, 2) := by decide +kernel
theorem d3_155 : decode method_4_code 155 = .ok (.sipush 192, 3) := by decide +kernel
theorem d3_158 : decode method_4_code 158 = .ok (.iand, 1) := by decide +kernel
theorem d3_159 : decode method_4_code 159 = .ok (.sipush 128, 3) := by decide +kernel
theorem d3_162 : decode method_4_code 162 = .ok (.if_icmp .eq 5, 3) := by decide +kernel
theorem d3_165 : decode method_4_code 165 = .ok (.iconst 0, 1) := by decide +kernel
theorem d3_166 : decode method_4_code 166 = .ok (.ireturn, 1) := by decide +kernel
theorem d3_167 : decode method_4_code 167 = .ok (.iload 5, 2) := by decide +kernel
theorem d3_169 : decode method_4_code 169 = .ok (.bipush 6, 2) := by decide +kernel
theorem d3_171 : decode method_4_code 171 = .ok (.ishl, 1) := by decide +kernel
theorem d3_172 : decode method_4_code 172 = .ok (.iload 7, 2) := by decide +kernel
theorem d3_174 : decode method_4_code 174 = .ok (.bipush 63, 2) := by decide +kernel
theorem d3_176 : decode method_4_code 176 = .ok (.iand, 1) := by decide +kernel
theorem d3_177 : decode method_4_code 177 = .ok (.ior, 1) := by decide +kernel
theorem d3_178 : decode method_4_code 178 = .ok (.istore 5, 2) := by decide +kernel
theorem d3_180 : decode method_4_code 180 = .ok (.iload 4, 2) := by decide +kernel
theorem d3_182 : decode method_4_code 182 = .ok (.iconst 4, 1) := by decide +kernel
theorem d3_183 : decode method_4_code 183 = .ok (.if_icmp .lt 41, 3) := by decide +kernel
theorem d3_186 : decode method_4_code 186 = .ok (.aload_n 0, 1) := by decide +kernel
theorem d3_187 : decode method_4_code 187 = .ok (.iload_n 1, 1) := by decide +kernel
theorem d3_188 : decode method_4_code 188 = .ok (.iconst 3, 1) := by decide +kernel
theorem d3_189 : decode method_4_code 189 = .ok (.iadd, 1) := by decide +kernel
theorem d3_190 : decode method_4_code 190 = .ok (.baload, 1) := by decide +kernel
theorem d3_191 : decode method_4_code 191 = .ok (.sipush 255, 3) := by decide +kernel
theorem d3_194 : decode method_4_code 194 = .ok (.iand, 1) := by decide +kernel
theorem d3_195 : decode method_4_code 195 = .ok (.istore 7, 2) := by decide +kernel
theorem d3_197 : decode method_4_code 197 = .ok (.iload 7, 2) := by decide +kernel
theorem d3_199 : decode method_4_code 199 = .ok (.sipush 192, 3) := by decide +kernel
theorem d3_202 : decode method_4_code 202 = .ok (.iand, 1) := by decide +kernel
theorem d3_203 : decode method_4_code 203 = .ok (.sipush 128, 3) := by decide +kernel
theorem d3_206 : decode method_4_code 206 = .ok (.if_icmp .eq 5, 3) := by decide +kernel
theorem d3_209 : decode method_4_code 209 = .ok (.iconst 0, 1) := by decide +kernel
theorem d3_210 : decode method_4_code 210 = .ok (.ireturn, 1) := by decide +kernel
theorem d3_211 : decode method_4_code 211 = .ok (.iload 5, 2) := by decide +kernel
theorem d3_213 : decode method_4_code 213 = .ok (.bipush 6, 2) := by decide +kernel
theorem d3_215 : decode method_4_code 215 = .ok (.ishl, 1) := by decide +kernel
theorem d3_216 : decode method_4_code 216 = .ok (.iload 7, 2) := by decide +kernel
theorem d3_218 : decode method_4_code 218 = .ok (.bipush 63, 2) := by decide +kernel
theorem d3_220 : decode method_4_code 220 = .ok (.iand, 1) := by decide +kernel
theorem d3_221 : decode method_4_code 221 = .ok (.ior, 1) := by decide +kernel
theorem d3_222 : decode method_4_code 222 = .ok (.istore 5, 2) := by decide +kernel
theorem d3_224 : decode method_4_code 224 = .ok (.iload 4, 2) := by decide +kernel
theorem d3_226 : decode method_4_code 226 = .ok (.iconst 2, 1) := by decide +kernel
theorem d3_227 : decode method_4_code 227 = .ok (.if_icmp .ne 13, 3) := by decide +kernel
theorem d3_230 : decode method_4_code 230 = .ok (.iload 5, 2) := by decide +kernel
theorem d3_232 : decode method_4_code 232 = .ok (.sipush 128, 3) := by decide +kernel
theorem d3_235 : decode method_4_code 235 = .ok (.if_icmp .ge 5, 3) := by decide +kernel
theorem d3_238 : decode method_4_code 238 = .ok (.iconst 0, 1) := by decide +kernel
theorem d3_239 : decode method_4_code 239 = .ok (.ireturn, 1) := by decide +kernel
theorem d3_240 : decode method_4_code 240 = .ok (.iload 4, 2) := by decide +kernel
theorem d3_242 : decode method_4_code 242 = .ok (.iconst 3, 1) := by decide +kernel
theorem d3_243 : decode method_4_code 243 = .ok (.if_icmp .ne 13, 3) := by decide +kernel
theorem d3_246 : decode method_4_code 246 = .ok (.iload 5, 2) := by decide +kernel
theorem d3_248 : decode method_4_code 248 = .ok (.sipush 2048, 3) := by decide +kernel
theorem d3_251 : decode method_4_code 251 = .ok (.if_icmp .ge 5, 3) := by decide +kernel
theorem d3_254 : decode method_4_code 254 = .ok (.iconst 0, 1) := by decide +kernel
theorem d3_255 : decode method_4_code 255 = .ok (.ireturn, 1) := by decide +kernel
theorem d3_256 : decode method_4_code 256 = .ok (.iload 4, 2) := by decide +kernel
theorem d3_258 : decode method_4_code 258 = .ok (.iconst 4, 1) := by decide +kernel
theorem d3_259 : decode method_4_code 259 = .ok (.if_icmp .ne 12, 3) := by decide +kernel
theorem d3_262 : decode method_4_code 262 = .ok (.iload 5, 2) := by decide +kernel
theorem d3_264 : decode method_4_code 264 = .ok (.ldc 21, 2) := by decide +kernel
theorem d3_266 : decode method_4_code 266 = .ok (.if_icmp .ge 5, 3) := by decide +kernel
theorem d3_269 : decode method_4_code 269 = .ok (.iconst 0, 1) := by decide +kernel
theorem d3_270 : decode method_4_code 270 = .ok (.ireturn, 1) := by decide +kernel
theorem d3_271 : decode method_4_code 271 = .ok (.iload 5, 2) := by decide +kernel
theorem d3_273 : decode method_4_code 273 = .ok (.ldc 22, 2) := by decide +kernel
theorem d3_275 : decode method_4_code 275 = .ok (.if_icmp .le 5, 3) := by decide +kernel
theorem d3_278 : decode method_4_code 278 = .ok (.iconst 0, 1) := by decide +kernel
theorem d3_279 : decode method_4_code 279 = .ok (.ireturn, 1) := by decide +kernel
theorem d3_280 : decode method_4_code 280 = .ok (.iload 5, 2) := by decide +kernel
theorem d3_282 : decode method_4_code 282 = .ok (.ldc 23, 2) := by decide +kernel
theorem d3_284 : decode method_4_code 284 = .ok (.if_icmp .lt 12, 3) := by decide +kernel
theorem d3_287 : decode method_4_code 287 = .ok (.iload 5, 2) := by decide +kernel
theorem d3_289 : decode method_4_code 289 = .ok (.ldc 24, 2) := by decide +kernel
theorem d3_291 : decode method_4_code 291 = .ok (.if_icmp .gt 5, 3) := by decide +kernel
theorem d3_294 : decode method_4_code 294 = .ok (.iconst 0, 1) := by decide +kernel
theorem d3_295 : decode method_4_code 295 = .ok (.ireturn, 1) := by decide +kernel
theorem d3_296 : decode method_4_code 296 = .ok (.iload 4, 2) := by decide +kernel
theorem d3_298 : decode method_4_code 298 = .ok (.ireturn, 1) := by decide +kernel
theorem pd0 : parseMethodDescriptor "([BII)I" = some ⟨[(.array .byte), .int, .int], some .int⟩ := by decide +kernel
abbrev nm0 : MethodName := x
abbrev rm0 : Room := room_1
abbrev C0 (l : Launch) (Z : State) (a0 : Array Value) (n0 : Nat) := Wp.Con l Z a0 n0 nm0 code maxLocals ret rm0
abbrev W0 (l : Launch) (Z : State) (a0 : Array Value) (n0 : Nat) := Wp.WP l Z a0 n0 rm0 nm0 code maxLocals ret
theorem pn0 : plainFor nm0 = true := by first | exact plainFor_of_name (by first | (simp [plainName, overriddenIn, nm0, x]; done) | decide +kernel) | decide +kernel
theorem ef0 (m : MethodId) (x0 : Int32) (x1 : Int32) (x2 : Int32) : entryFrame m #[(.int x0), (.int x1), (.int x2)] maxLocals = mkF m 0 ⟨[.val (.int x0), .val (.int x1), .val (.int x2), .unset, .unset, .unset, .unset, .unset]⟩ [] := by first | exact (Wp.efG m [(.int x0), (.int x1), (.int x2)] maxLocals).trans rfl | (simp [entryFrame, mkF, argsToLocals, Value.category, maxLocals]; done)
abbrev nm1 : MethodName := ⟨"com/example/tick6/tick6/csv/Utf8MalformedAtPinLaw", "ref", "([BII)I"⟩
abbrev rm1 : Room := { frames := 1, cells := 0, slots := 0, locals := 19 }
abbrev C1 (l : Launch) (Z : State) (a0 : Array Value) (n0 : Nat) := Wp.Con l Z a0 n0 nm1 method_3_code 5 (some .int) rm1
abbrev W1 (l : Launch) (Z : State) (a0 : Array Value) (n0 : Nat) := Wp.WP l Z a0 n0 rm1 nm1 method_3_code 5 (some .int)
theorem pn1 : plainFor nm1 = true := by first | exact plainFor_of_name (by first | (simp [plainName, overriddenIn, nm1, x]; done) | decide +kernel) | decide +kernel
theorem ef1 (m : MethodId) (x0 : Addr) (x1 : Int32) (x2 : Int32) : entryFrame m #[(.ref x0), (.int x1), (.int x2)] 5 = mkF m 0 ⟨[.val (.ref x0), .val (.int x1), .val (.int x2), .unset, .unset]⟩ [] := by first | exact (Wp.efG m [(.ref x0), (.int x1), (.int x2)] 5).trans rfl | (simp [entryFrame, mkF, argsToLocals, Value.category]; done)
abbrev nm2 : MethodName := ⟨"com/example/tick6/tick6/csv/Utf8", "malformedAt", "([BII)I"⟩
abbrev rm2 : Room := { frames := 0, cells := 0, slots := 0, locals := 0 }
abbrev C2 (l : Launch) (Z : State) (a0 : Array Value) (n0 : Nat) := Wp.Con l Z a0 n0 nm2 prog_21_method_2_code 10 (some .int) rm2
abbrev W2 (l : Launch) (Z : State) (a0 : Array Value) (n0 : Nat) := Wp.WP l Z a0 n0 rm2 nm2 prog_21_method_2_code 10 (some .int)
theorem pn2 : plainFor nm2 = true := by first | exact plainFor_of_name (by first | (simp [plainName, overriddenIn, nm2, x]; done) | decide +kernel) | decide +kernel
theorem ef2 (m : MethodId) (x0 : Addr) (x1 : Int32) (x2 : Int32) : entryFrame m #[(.ref x0), (.int x1), (.int x2)] 10 = mkF m 0 ⟨[.val (.ref x0), .val (.int x1), .val (.int x2), .unset, .unset, .unset, .unset, .unset, .unset, .unset]⟩ [] := by first | exact (Wp.efG m [(.ref x0), (.int x1), (.int x2)] 10).trans rfl | (simp [entryFrame, mkF, argsToLocals, Value.category]; done)
abbrev nm3 : MethodName := ⟨"com/example/tick6/tick6/csv/Utf8MalformedAtPinLaw", "step", "([BII)I"⟩
abbrev rm3 : Room := { frames := 0, cells := 0, slots := 0, locals := 0 }
abbrev C3 (l : Launch) (Z : State) (a0 : Array Value) (n0 : Nat) := Wp.Con l Z a0 n0 nm3 method_4_code 8 (some .int) rm3
abbrev W3 (l : Launch) (Z : State) (a0 : Array Value) (n0 : Nat) := Wp.WP l Z a0 n0 rm3 nm3 method_4_code 8 (some .int)
theorem pn3 : plainFor nm3 = true := by first | exact plainFor_of_name (by first | (simp [plainName, overriddenIn, nm3, x]; done) | decide +kernel) | decide +kernel
theorem ef3 (m : MethodId) (x0 : Addr) (x1 : Int32) (x2 : Int32) : entryFrame m #[(.ref x0), (.int x1), (.int x2)] 8 = mkF m 0 ⟨[.val (.ref x0), .val (.int x1), .val (.int x2), .unset, .unset, .unset, .unset, .unset]⟩ [] := by first | exact (Wp.efG m [(.ref x0), (.int x1), (.int x2)] 8).trans rfl | (simp [entryFrame, mkF, argsToLocals, Value.category]; done)
set_option maxRecDepth 65536
theorem own_low8 (x : Int32) : ∃ k : Fin 256, x &&& 255 = Int32.ofNat k.1 ∧ x.toInt8 = Int8.ofNat k.1 := by
  refine ⟨⟨x.toBitVec.toNat % 256, Nat.mod_lt _ (by decide)⟩, ?_, ?_⟩
  · apply Int32.toBitVec_inj.mp
    apply BitVec.eq_of_toNat_eq
    rw [Int32.toBitVec_and, BitVec.toNat_and]
    show x.toBitVec.toNat &&& 255 = (BitVec.ofNat 32 (x.toBitVec.toNat % 256)).toNat
    rw [show (255 : Nat) = 2 ^ 8 - 1 from rfl, Nat.and_two_pow_sub_one_eq_mod, BitVec.toNat_ofNat]
    omega
  · apply Int8.toBitVec_inj.mp
    apply BitVec.eq_of_toNat_eq
    show (x.toBitVec.signExtend 8).toNat = (BitVec.ofNat 8 (x.toBitVec.toNat % 256)).toNat
    rw [BitVec.signExtend_eq_setWidth_of_le _ (by decide), BitVec.toNat_setWidth, BitVec.toNat_ofNat]
    omega

theorem own_addN {a b : Int32} {m n : Nat} (ha : a.toInt = (m : Int)) (hb : b.toInt = (n : Int)) (h : m + n < 2147483647) : (a + b).toInt = ((m + n : Nat) : Int) := by
  have h1 := c_iadd a b
  have h2 := rng32 (a + b)
  omega
def own_B0 (z : Int32) (u : Int) : Prop := z.toInt = u ∧ 0 ≤ u ∧ u ≤ 255 ∧ ((z &&& 224).toInt = 192 ↔ 192 ≤ u ∧ u ≤ 223) ∧ ((z &&& 240).toInt = 224 ↔ 224 ≤ u ∧ u ≤ 239) ∧ ((z &&& 248).toInt = 240 ↔ 240 ≤ u ∧ u ≤ 247) ∧ (z &&& 31).toInt = u % 32 ∧ (z &&& 15).toInt = u % 16 ∧ (z &&& 7).toInt = u % 8
theorem own_B0_of (x : Int32) : own_B0 (x &&& 255) (x &&& 255).toInt := by
  obtain ⟨k, h1, -⟩ := own_low8 x
  rw [h1]
  have : ∀ k : Fin 256, own_B0 (Int32.ofNat k.1) (Int32.ofNat k.1).toInt := by unfold own_B0; decide +kernel
  exact this k
def own_B1 (z : Int32) (u : Int) : Prop := z.toInt = u ∧ 0 ≤ u ∧ u ≤ 255 ∧ ((z &&& 192).toInt = 128 ↔ 128 ≤ u ∧ u ≤ 191) ∧ (z &&& 63).toInt = u % 64
theorem own_B1_of (x : Int32) : own_B1 (x &&& 255) (x &&& 255).toInt := by
  obtain ⟨k, h1, -⟩ := own_low8 x
  rw [h1]
  have : ∀ k : Fin 256, own_B1 (Int32.ofNat k.1) (Int32.ofNat k.1).toInt := by unfold own_B1; decide +kernel
  exact this k
theorem own_out {p : Prop} {u lo hi : Int} (h : p ↔ lo ≤ u ∧ u ≤ hi) (n : ¬ p) : u < lo ∨ hi < u := by
  have q := mt h.mpr n; omega
def own_u (xs : List Int32) (k : Nat) : Int := ((xs.getD k 0) &&& 255).toInt
theorem own_cp (p q : Int32) (P Q : Int) (hp : p.toInt = P) (h0 : 0 ≤ P) (h1 : P < 1000000) (hq : (q &&& 63).toInt = Q) (q0 : 0 ≤ Q) (q1 : Q < 64) : ((p <<< ((6 : Int32) &&& 31)) ||| (q &&& 63)).toInt = P * 64 + Q := by
  have e1 := c_ishl p 6 6 (by decide)
  have r1 := rng32 (p <<< ((6 : Int32) &&& 31))
  have e2 : (p <<< ((6 : Int32) &&& 31)).toInt = P * 64 := by rw [hp] at e1; omega
  have e3 := c_or (p <<< ((6 : Int32) &&& 31)) (q &&& 63) 6 (by decide) 64 rfl (by omega) (by omega) (by omega)
  have r3 := rng32 ((p <<< ((6 : Int32) &&& 31)) ||| (q &&& 63))
  omega
def own_seq (u : Nat → Int) (at_ to : Nat) : Int :=
  if u at_ < 128 then 1
  else if 194 ≤ u at_ ∧ u at_ ≤ 223 ∧ at_ + 1 < to ∧ 128 ≤ u (at_ + 1) ∧ u (at_ + 1) ≤ 191 then 2
  else if 224 ≤ u at_ ∧ u at_ ≤ 239 ∧ at_ + 2 < to ∧ 128 ≤ u (at_ + 1) ∧ u (at_ + 1) ≤ 191 ∧ (u at_ = 224 → 160 ≤ u (at_ + 1)) ∧ (u at_ = 237 → u (at_ + 1) ≤ 159) ∧ 128 ≤ u (at_ + 2) ∧ u (at_ + 2) ≤ 191 then 3
  else if 240 ≤ u at_ ∧ u at_ ≤ 244 ∧ at_ + 3 < to ∧ 128 ≤ u (at_ + 1) ∧ u (at_ + 1) ≤ 191 ∧ (u at_ = 240 → 144 ≤ u (at_ + 1)) ∧ (u at_ = 244 → u (at_ + 1) ≤ 143) ∧ 128 ≤ u (at_ + 2) ∧ u (at_ + 2) ≤ 191 ∧ 128 ≤ u (at_ + 3) ∧ u (at_ + 3) ≤ 191 then 4
  else 0
theorem con3 {l : Launch} {Z : State} {a0 : Array Value} {n0 : Nat} (hw : Hw Z a0) (xs : List Int32) (hlen : xs.length = 5) (a : Addr) (f t : Int32) (fN tN : Nat) (hf : f.toInt = (fN : Int)) (ht : t.toInt = (tN : Int)) (hft : fN < tN) (ht5 : tN ≤ 5) (H : Wp.MH) (hk : H[0]? = some (a, .inl (.byte, xs.map Value.int))) :
    C3 l Z a0 n0 #[.ref a, .int f, .int t] H (fun v H' => (∃ r : Int32, v = some (.int r) ∧ r.toInt = own_seq (own_u xs) fN tN) ∧ H' = H) := by
  refine Wp.Con.intro pn3 (fun m => ef3 m a f t) ?_
  have hget : ∀ k, k < 5 → (xs.map Value.int)[k]? = some (.int (xs.getD k 0)) := fun k hk5 => by
    simp [List.getElem?_eq_getElem (show k < xs.length by omega)]
  have hB0 : ∀ k, own_B0 ((xs.getD k 0) &&& 255) (own_u xs k) := fun k => own_B0_of _
  have hB1 : ∀ k, own_B1 ((xs.getD k 0) &&& 255) (own_u xs k) := fun k => own_B1_of _
  have f1 : (f + 1).toInt = ((fN + 1 : Nat) : Int) := own_addN hf rfl (by omega)
  have f2 : (f + 2).toInt = ((fN + 2 : Nat) : Int) := own_addN hf rfl (by omega)
  have f3 : (f + 3).toInt = ((fN + 3 : Nat) : Int) := own_addN hf rfl (by omega)
  have f4 : (f + 4).toInt = ((fN + 4 : Nat) : Int) := own_addN hf rfl (by omega)
  generalize own_u xs = u at hB0 hB1 ⊢
  refine Wp.aloadN (pc' := 1) d3_0 rfl rfl rfl ?_
  refine Wp.iloadN (pc' := 2) d3_1 rfl rfl ?_
  refine Wp.baload 0 fN (v := .int (xs.getD fN 0)) (pc' := 3) d3_2 hk hf (hget _ (by omega)) rfl ?_
  refine Wp.sipush (255) (pc' := 6) d3_3 rfl rfl ?_
  refine Wp.iand (pc' := 7) d3_6 rfl ?_
  refine Wp.topI (fun z => own_B0 z (u fN)) (hB0 fN) (fun c0 h0 => ?_)
  obtain ⟨a1, a2, a3, a4, a5, a6, a8, a9, a10⟩ := h0
  refine Wp.istoreN_3 (pc' := 8) d3_7 rfl rfl ?_
  refine Wp.iloadN (pc' := 9) d3_8 rfl rfl ?_
  refine Wp.sipush (128) (pc' := 12) d3_9 rfl rfl ?_
  refine Wp.icmp_ge (pt := 17) (pf := 15) d3_12 (by decide) rfl (fun hc12 => ?_) (fun hc12 => ?_)
  · simp only [Int32.reduceToInt] at hc12
    refine Wp.iloadN (pc' := 18) d3_17 rfl rfl ?_
    refine Wp.sipush (224) (pc' := 21) d3_18 rfl rfl ?_
    refine Wp.iand (pc' := 22) d3_21 rfl ?_
    refine Wp.sipush (192) (pc' := 25) d3_22 rfl rfl ?_
    refine Wp.icmp_neI (pt := 40) (pf := 28) d3_25 (by decide) rfl (fun hc25 => ?_) (fun hc25 => ?_)
    · replace hc25 := own_out a4 hc25
      clear a4 a8
      refine Wp.iloadN (pc' := 41) d3_40 rfl rfl ?_
      refine Wp.sipush (240) (pc' := 44) d3_41 rfl rfl ?_
      refine Wp.iand (pc' := 45) d3_44 rfl ?_
      refine Wp.sipush (224) (pc' := 48) d3_45 rfl rfl ?_
      refine Wp.icmp_neI (pt := 63) (pf := 51) d3_48 (by decide) rfl (fun hc48 => ?_) (fun hc48 => ?_)
      · replace hc48 := own_out a5 hc48
        clear a5 a9
        refine Wp.iloadN (pc' := 64) d3_63 rfl rfl ?_
        refine Wp.sipush (248) (pc' := 67) d3_64 rfl rfl ?_
        refine Wp.iand (pc' := 68) d3_67 rfl ?_
        refine Wp.sipush (240) (pc' := 71) d3_68 rfl rfl ?_
        refine Wp.icmp_neI (pt := 86) (pf := 74) d3_71 (by decide) rfl (fun hc71 => ?_) (fun hc71 => ?_)
        · replace hc71 := own_out a6 hc71
          clear a6 a10
          refine Wp.iconst (0) (pc' := 87) d3_86 rfl rfl ?_
          refine Wp.ireturn rfl d3_87 ?_
          refine ⟨⟨_, rfl, ?_⟩, rfl⟩
          try simp only [Int32.reduceToInt] at hc12 hc25 hc48 hc71
          unfold own_seq; rw [if_neg (by omega), if_neg (by omega), if_neg (by omega), if_neg (by omega)]; rfl
        · replace hc71 := a6.mp hc71
          clear a6
          refine Wp.iconst (4) (pc' := 75) d3_74 rfl rfl ?_
          refine Wp.istore_4 (pc' := 77) d3_75 rfl rfl ?_
          refine Wp.iloadN (pc' := 78) d3_77 rfl rfl ?_
          refine Wp.bipush (7) (pc' := 80) d3_78 rfl rfl ?_
          refine Wp.iand (pc' := 81) d3_80 rfl ?_
          refine Wp.istore_5 (pc' := 83) d3_81 rfl rfl ?_
          refine Wp.goto (pc' := 88) d3_83 (by decide) ?_
          refine Wp.iloadN (pc' := 89) d3_88 rfl rfl ?_
          refine Wp.iload (pc' := 91) d3_89 rfl rfl ?_
          refine Wp.iadd (pc' := 92) d3_91 rfl ?_
          refine Wp.iloadN (pc' := 93) d3_92 rfl rfl ?_
          refine Wp.icmp_le (pt := 98) (pf := 96) d3_93 (by decide) rfl (fun hc93 => ?_) (fun hc93 => ?_)
          · refine Wp.aloadN (pc' := 99) d3_98 rfl rfl rfl ?_
            refine Wp.iloadN (pc' := 100) d3_99 rfl rfl ?_
            refine Wp.iconst (1) (pc' := 101) d3_100 rfl rfl ?_
            refine Wp.iadd (pc' := 102) d3_101 rfl ?_
            refine Wp.baload 0 (fN + 1) (v := .int (xs.getD (fN + 1) 0)) (pc' := 103) d3_102 hk f1 (hget _ (by omega)) rfl ?_
            refine Wp.sipush (255) (pc' := 106) d3_103 rfl rfl ?_
            refine Wp.iand (pc' := 107) d3_106 rfl ?_
            refine Wp.topI (fun z => own_B1 z (u (fN + 1))) (hB1 (fN + 1)) (fun c1 h1 => ?_)
            obtain ⟨b1, b2, b3, b7, b11⟩ := h1
            refine Wp.istore_6 (pc' := 109) d3_107 rfl rfl ?_
            refine Wp.iload (pc' := 111) d3_109 rfl rfl ?_
            refine Wp.sipush (192) (pc' := 114) d3_111 rfl rfl ?_
            refine Wp.iand (pc' := 115) d3_114 rfl ?_
            refine Wp.sipush (128) (pc' := 118) d3_115 rfl rfl ?_
            refine Wp.icmp_eqI (pt := 123) (pf := 121) d3_118 (by decide) rfl (fun hc118 => ?_) (fun hc118 => ?_)
            · replace hc118 := b7.mp hc118
              clear b7
              refine Wp.iload (pc' := 125) d3_123 rfl rfl ?_
              refine Wp.bipush (6) (pc' := 127) d3_125 rfl rfl ?_
              refine Wp.ishl (pc' := 128) d3_127 rfl ?_
              refine Wp.iload (pc' := 130) d3_128 rfl rfl ?_
              refine Wp.bipush (63) (pc' := 132) d3_130 rfl rfl ?_
              refine Wp.iand (pc' := 133) d3_132 rfl ?_
              refine Wp.ior (pc' := 134) d3_133 rfl ?_
              refine Wp.topI (fun z => z.toInt = _) (own_cp _ _ _ _ (by first | exact a8 | exact a9 | exact a10) (by omega) (by omega) b11 (by omega) (by omega)) (fun cp1 g1 => ?_)
              refine Wp.istore_5 (pc' := 136) d3_134 rfl rfl ?_
              refine Wp.iload (pc' := 138) d3_136 rfl rfl ?_
              refine Wp.iconst (3) (pc' := 139) d3_138 rfl rfl ?_
              refine Wp.icmp_lt (pt := 180) (pf := 142) d3_139 (by decide) rfl (fun hc139 => absurd hc139 (by decide)) (fun hc139 => ?_)
              refine Wp.aloadN (pc' := 143) d3_142 rfl rfl rfl ?_
              refine Wp.iloadN (pc' := 144) d3_143 rfl rfl ?_
              refine Wp.iconst (2) (pc' := 145) d3_144 rfl rfl ?_
              refine Wp.iadd (pc' := 146) d3_145 rfl ?_
              refine Wp.baload 0 (fN + 2) (v := .int (xs.getD (fN + 2) 0)) (pc' := 147) d3_146 hk f2 (hget _ (by omega)) rfl ?_
              refine Wp.sipush (255) (pc' := 150) d3_147 rfl rfl ?_
              refine Wp.iand (pc' := 151) d3_150 rfl ?_
              refine Wp.topI (fun z => own_B1 z (u (fN + 2))) (hB1 (fN + 2)) (fun c2 h2 => ?_)
              obtain ⟨e1, e2, e3, e7, e11⟩ := h2
              refine Wp.istore_7 (pc' := 153) d3_151 rfl rfl ?_
              refine Wp.iload (pc' := 155) d3_153 rfl rfl ?_
              refine Wp.sipush (192) (pc' := 158) d3_155 rfl rfl ?_
              refine Wp.iand (pc' := 159) d3_158 rfl ?_
              refine Wp.sipush (128) (pc' := 162) d3_159 rfl rfl ?_
              refine Wp.icmp_eqI (pt := 167) (pf := 165) d3_162 (by decide) rfl (fun hc162 => ?_) (fun hc162 => ?_)
              · replace hc162 := e7.mp hc162
                clear e7
                refine Wp.iload (pc' := 169) d3_167 rfl rfl ?_
                refine Wp.bipush (6) (pc' := 171) d3_169 rfl rfl ?_
                refine Wp.ishl (pc' := 172) d3_171 rfl ?_
                refine Wp.iload (pc' := 174) d3_172 rfl rfl ?_
                refine Wp.bipush (63) (pc' := 176) d3_174 rfl rfl ?_
                refine Wp.iand (pc' := 177) d3_176 rfl ?_
                refine Wp.ior (pc' := 178) d3_177 rfl ?_
                refine Wp.topI (fun z => z.toInt = _) (own_cp _ _ _ _ g1 (by omega) (by omega) e11 (by omega) (by omega)) (fun cp2 g2 => ?_)
                refine Wp.istore_5 (pc' := 180) d3_178 rfl rfl ?_
                refine Wp.iload (pc' := 182) d3_180 rfl rfl ?_
                refine Wp.iconst (4) (pc' := 183) d3_182 rfl rfl ?_
                refine Wp.icmp_lt (pt := 224) (pf := 186) d3_183 (by decide) rfl (fun hc183 => absurd hc183 (by decide)) (fun hc183 => ?_)
                refine Wp.aloadN (pc' := 187) d3_186 rfl rfl rfl ?_
                refine Wp.iloadN (pc' := 188) d3_187 rfl rfl ?_
                refine Wp.iconst (3) (pc' := 189) d3_188 rfl rfl ?_
                refine Wp.iadd (pc' := 190) d3_189 rfl ?_
                refine Wp.baload 0 (fN + 3) (v := .int (xs.getD (fN + 3) 0)) (pc' := 191) d3_190 hk f3 (hget _ (by omega)) rfl ?_
                refine Wp.sipush (255) (pc' := 194) d3_191 rfl rfl ?_
                refine Wp.iand (pc' := 195) d3_194 rfl ?_
                refine Wp.topI (fun z => own_B1 z (u (fN + 3))) (hB1 (fN + 3)) (fun c3 h3 => ?_)
                obtain ⟨i1, i2, i3, i7, i11⟩ := h3
                refine Wp.istore_7 (pc' := 197) d3_195 rfl rfl ?_
                refine Wp.iload (pc' := 199) d3_197 rfl rfl ?_
                refine Wp.sipush (192) (pc' := 202) d3_199 rfl rfl ?_
                refine Wp.iand (pc' := 203) d3_202 rfl ?_
                refine Wp.sipush (128) (pc' := 206) d3_203 rfl rfl ?_
                refine Wp.icmp_eqI (pt := 211) (pf := 209) d3_206 (by decide) rfl (fun hc206 => ?_) (fun hc206 => ?_)
                · replace hc206 := i7.mp hc206
                  clear i7
                  refine Wp.iload (pc' := 213) d3_211 rfl rfl ?_
                  refine Wp.bipush (6) (pc' := 215) d3_213 rfl rfl ?_
                  refine Wp.ishl (pc' := 216) d3_215 rfl ?_
                  refine Wp.iload (pc' := 218) d3_216 rfl rfl ?_
                  refine Wp.bipush (63) (pc' := 220) d3_218 rfl rfl ?_
                  refine Wp.iand (pc' := 221) d3_220 rfl ?_
                  refine Wp.ior (pc' := 222) d3_221 rfl ?_
                  refine Wp.topI (fun z => z.toInt = _) (own_cp _ _ _ _ g2 (by omega) (by omega) i11 (by omega) (by omega)) (fun cp3 g3 => ?_)
                  refine Wp.istore_5 (pc' := 224) d3_222 rfl rfl ?_
                  refine Wp.iload (pc' := 226) d3_224 rfl rfl ?_
                  refine Wp.iconst (2) (pc' := 227) d3_226 rfl rfl ?_
                  refine Wp.icmp_neI (pt := 240) (pf := 230) d3_227 (by decide) rfl (fun hc227 => ?_) (fun hc227 => absurd hc227 (by decide))
                  refine Wp.iload (pc' := 242) d3_240 rfl rfl ?_
                  refine Wp.iconst (3) (pc' := 243) d3_242 rfl rfl ?_
                  refine Wp.icmp_neI (pt := 256) (pf := 246) d3_243 (by decide) rfl (fun hc243 => ?_) (fun hc243 => absurd hc243 (by decide))
                  refine Wp.iload (pc' := 258) d3_256 rfl rfl ?_
                  refine Wp.iconst (4) (pc' := 259) d3_258 rfl rfl ?_
                  refine Wp.icmp_neI (pt := 271) (pf := 262) d3_259 (by decide) rfl (fun hc259 => absurd hc259 (by decide)) (fun hc259 => ?_)
                  refine Wp.iload (pc' := 264) d3_262 rfl rfl ?_
                  refine Wp.ldcI (pc' := 266) (w12 hw) d3_264 rfl ?_
                  refine Wp.icmp_ge (pt := 271) (pf := 269) d3_266 (by decide) rfl (fun hc266 => ?_) (fun hc266 => ?_)
                  · refine Wp.iload (pc' := 273) d3_271 rfl rfl ?_
                    refine Wp.ldcI (pc' := 275) (w13 hw) d3_273 rfl ?_
                    refine Wp.icmp_le (pt := 280) (pf := 278) d3_275 (by decide) rfl (fun hc275 => ?_) (fun hc275 => ?_)
                    · refine Wp.iload (pc' := 282) d3_280 rfl rfl ?_
                      refine Wp.ldcI (pc' := 284) (w14 hw) d3_282 rfl ?_
                      refine Wp.icmp_lt (pt := 296) (pf := 287) d3_284 (by decide) rfl (fun hc284 => ?_) (fun hc284 => ?_)
                      · refine Wp.iload (pc' := 298) d3_296 rfl rfl ?_
                        refine Wp.ireturn rfl d3_298 ?_
                        refine ⟨⟨_, rfl, ?_⟩, rfl⟩
                        try simp only [Int32.reduceToInt] at hc12 hc25 hc48 hc71 hc93 hc118 hc162 hc206 hc266 hc275 hc284
                        unfold own_seq; first | (rw [if_neg (by omega), if_pos (by omega)]; rfl) | (rw [if_neg (by omega), if_neg (by omega), if_pos (by omega)]; rfl) | (rw [if_neg (by omega), if_neg (by omega), if_neg (by omega), if_pos (by omega)]; rfl)
                      · refine Wp.iload (pc' := 289) d3_287 rfl rfl ?_
                        refine Wp.ldcI (pc' := 291) (w15 hw) d3_289 rfl ?_
                        refine Wp.icmp_gt (pt := 296) (pf := 294) d3_291 (by decide) rfl (fun hc291 => ?_) (fun hc291 => ?_)
                        · refine Wp.iload (pc' := 298) d3_296 rfl rfl ?_
                          refine Wp.ireturn rfl d3_298 ?_
                          refine ⟨⟨_, rfl, ?_⟩, rfl⟩
                          try simp only [Int32.reduceToInt] at hc12 hc25 hc48 hc71 hc93 hc118 hc162 hc206 hc266 hc275 hc284 hc291
                          unfold own_seq; first | (rw [if_neg (by omega), if_pos (by omega)]; rfl) | (rw [if_neg (by omega), if_neg (by omega), if_pos (by omega)]; rfl) | (rw [if_neg (by omega), if_neg (by omega), if_neg (by omega), if_pos (by omega)]; rfl)
                        · refine Wp.iconst (0) (pc' := 295) d3_294 rfl rfl ?_
                          refine Wp.ireturn rfl d3_295 ?_
                          refine ⟨⟨_, rfl, ?_⟩, rfl⟩
                          try simp only [Int32.reduceToInt] at hc12 hc25 hc48 hc71 hc93 hc118 hc162 hc206 hc266 hc275 hc284 hc291
                          unfold own_seq; rw [if_neg (by omega), if_neg (by omega), if_neg (by omega), if_neg (by omega)]; rfl
                    · refine Wp.iconst (0) (pc' := 279) d3_278 rfl rfl ?_
                      refine Wp.ireturn rfl d3_279 ?_
                      refine ⟨⟨_, rfl, ?_⟩, rfl⟩
                      try simp only [Int32.reduceToInt] at hc12 hc25 hc48 hc71 hc93 hc118 hc162 hc206 hc266 hc275
                      unfold own_seq; rw [if_neg (by omega), if_neg (by omega), if_neg (by omega), if_neg (by omega)]; rfl
                  · refine Wp.iconst (0) (pc' := 270) d3_269 rfl rfl ?_
                    refine Wp.ireturn rfl d3_270 ?_
                    refine ⟨⟨_, rfl, ?_⟩, rfl⟩
                    try simp only [Int32.reduceToInt] at hc12 hc25 hc48 hc71 hc93 hc118 hc162 hc206 hc266
                    unfold own_seq; rw [if_neg (by omega), if_neg (by omega), if_neg (by omega), if_neg (by omega)]; rfl
                · replace hc206 := own_out i7 hc206
                  clear i7 i11
                  refine Wp.iconst (0) (pc' := 210) d3_209 rfl rfl ?_
                  refine Wp.ireturn rfl d3_210 ?_
                  refine ⟨⟨_, rfl, ?_⟩, rfl⟩
                  try simp only [Int32.reduceToInt] at hc12 hc25 hc48 hc71 hc93 hc118 hc162 hc206
                  unfold own_seq; rw [if_neg (by omega), if_neg (by omega), if_neg (by omega), if_neg (by omega)]; rfl
              · replace hc162 := own_out e7 hc162
                clear e7 e11
                refine Wp.iconst (0) (pc' := 166) d3_165 rfl rfl ?_
                refine Wp.ireturn rfl d3_166 ?_
                refine ⟨⟨_, rfl, ?_⟩, rfl⟩
                try simp only [Int32.reduceToInt] at hc12 hc25 hc48 hc71 hc93 hc118 hc162
                unfold own_seq; rw [if_neg (by omega), if_neg (by omega), if_neg (by omega), if_neg (by omega)]; rfl
            · replace hc118 := own_out b7 hc118
              clear b7 b11
              refine Wp.iconst (0) (pc' := 122) d3_121 rfl rfl ?_
              refine Wp.ireturn rfl d3_122 ?_
              refine ⟨⟨_, rfl, ?_⟩, rfl⟩
              try simp only [Int32.reduceToInt] at hc12 hc25 hc48 hc71 hc93 hc118
              unfold own_seq; rw [if_neg (by omega), if_neg (by omega), if_neg (by omega), if_neg (by omega)]; rfl
          · refine Wp.iconst (0) (pc' := 97) d3_96 rfl rfl ?_
            refine Wp.ireturn rfl d3_97 ?_
            refine ⟨⟨_, rfl, ?_⟩, rfl⟩
            try simp only [Int32.reduceToInt] at hc12 hc25 hc48 hc71 hc93
            unfold own_seq; rw [if_neg (by omega), if_neg (by omega), if_neg (by omega), if_neg (by omega)]; rfl
      · replace hc48 := a5.mp hc48
        clear a5 a6 a10
        refine Wp.iconst (3) (pc' := 52) d3_51 rfl rfl ?_
        refine Wp.istore_4 (pc' := 54) d3_52 rfl rfl ?_
        refine Wp.iloadN (pc' := 55) d3_54 rfl rfl ?_
        refine Wp.bipush (15) (pc' := 57) d3_55 rfl rfl ?_
        refine Wp.iand (pc' := 58) d3_57 rfl ?_
        refine Wp.istore_5 (pc' := 60) d3_58 rfl rfl ?_
        refine Wp.goto (pc' := 88) d3_60 (by decide) ?_
        refine Wp.iloadN (pc' := 89) d3_88 rfl rfl ?_
        refine Wp.iload (pc' := 91) d3_89 rfl rfl ?_
        refine Wp.iadd (pc' := 92) d3_91 rfl ?_
        refine Wp.iloadN (pc' := 93) d3_92 rfl rfl ?_
        refine Wp.icmp_le (pt := 98) (pf := 96) d3_93 (by decide) rfl (fun hc93 => ?_) (fun hc93 => ?_)
        · refine Wp.aloadN (pc' := 99) d3_98 rfl rfl rfl ?_
          refine Wp.iloadN (pc' := 100) d3_99 rfl rfl ?_
          refine Wp.iconst (1) (pc' := 101) d3_100 rfl rfl ?_
          refine Wp.iadd (pc' := 102) d3_101 rfl ?_
          refine Wp.baload 0 (fN + 1) (v := .int (xs.getD (fN + 1) 0)) (pc' := 103) d3_102 hk f1 (hget _ (by omega)) rfl ?_
          refine Wp.sipush (255) (pc' := 106) d3_103 rfl rfl ?_
          refine Wp.iand (pc' := 107) d3_106 rfl ?_
          refine Wp.topI (fun z => own_B1 z (u (fN + 1))) (hB1 (fN + 1)) (fun c1 h1 => ?_)
          obtain ⟨b1, b2, b3, b7, b11⟩ := h1
          refine Wp.istore_6 (pc' := 109) d3_107 rfl rfl ?_
          refine Wp.iload (pc' := 111) d3_109 rfl rfl ?_
          refine Wp.sipush (192) (pc' := 114) d3_111 rfl rfl ?_
          refine Wp.iand (pc' := 115) d3_114 rfl ?_
          refine Wp.sipush (128) (pc' := 118) d3_115 rfl rfl ?_
          refine Wp.icmp_eqI (pt := 123) (pf := 121) d3_118 (by decide) rfl (fun hc118 => ?_) (fun hc118 => ?_)
          · replace hc118 := b7.mp hc118
            clear b7
            refine Wp.iload (pc' := 125) d3_123 rfl rfl ?_
            refine Wp.bipush (6) (pc' := 127) d3_125 rfl rfl ?_
            refine Wp.ishl (pc' := 128) d3_127 rfl ?_
            refine Wp.iload (pc' := 130) d3_128 rfl rfl ?_
            refine Wp.bipush (63) (pc' := 132) d3_130 rfl rfl ?_
            refine Wp.iand (pc' := 133) d3_132 rfl ?_
            refine Wp.ior (pc' := 134) d3_133 rfl ?_
            refine Wp.topI (fun z => z.toInt = _) (own_cp _ _ _ _ (by first | exact a8 | exact a9 | exact a10) (by omega) (by omega) b11 (by omega) (by omega)) (fun cp1 g1 => ?_)
            refine Wp.istore_5 (pc' := 136) d3_134 rfl rfl ?_
            refine Wp.iload (pc' := 138) d3_136 rfl rfl ?_
            refine Wp.iconst (3) (pc' := 139) d3_138 rfl rfl ?_
            refine Wp.icmp_lt (pt := 180) (pf := 142) d3_139 (by decide) rfl (fun hc139 => absurd hc139 (by decide)) (fun hc139 => ?_)
            refine Wp.aloadN (pc' := 143) d3_142 rfl rfl rfl ?_
            refine Wp.iloadN (pc' := 144) d3_143 rfl rfl ?_
            refine Wp.iconst (2) (pc' := 145) d3_144 rfl rfl ?_
            refine Wp.iadd (pc' := 146) d3_145 rfl ?_
            refine Wp.baload 0 (fN + 2) (v := .int (xs.getD (fN + 2) 0)) (pc' := 147) d3_146 hk f2 (hget _ (by omega)) rfl ?_
            refine Wp.sipush (255) (pc' := 150) d3_147 rfl rfl ?_
            refine Wp.iand (pc' := 151) d3_150 rfl ?_
            refine Wp.topI (fun z => own_B1 z (u (fN + 2))) (hB1 (fN + 2)) (fun c2 h2 => ?_)
            obtain ⟨e1, e2, e3, e7, e11⟩ := h2
            refine Wp.istore_7 (pc' := 153) d3_151 rfl rfl ?_
            refine Wp.iload (pc' := 155) d3_153 rfl rfl ?_
            refine Wp.sipush (192) (pc' := 158) d3_155 rfl rfl ?_
            refine Wp.iand (pc' := 159) d3_158 rfl ?_
            refine Wp.sipush (128) (pc' := 162) d3_159 rfl rfl ?_
            refine Wp.icmp_eqI (pt := 167) (pf := 165) d3_162 (by decide) rfl (fun hc162 => ?_) (fun hc162 => ?_)
            · replace hc162 := e7.mp hc162
              clear e7
              refine Wp.iload (pc' := 169) d3_167 rfl rfl ?_
              refine Wp.bipush (6) (pc' := 171) d3_169 rfl rfl ?_
              refine Wp.ishl (pc' := 172) d3_171 rfl ?_
              refine Wp.iload (pc' := 174) d3_172 rfl rfl ?_
              refine Wp.bipush (63) (pc' := 176) d3_174 rfl rfl ?_
              refine Wp.iand (pc' := 177) d3_176 rfl ?_
              refine Wp.ior (pc' := 178) d3_177 rfl ?_
              refine Wp.topI (fun z => z.toInt = _) (own_cp _ _ _ _ g1 (by omega) (by omega) e11 (by omega) (by omega)) (fun cp2 g2 => ?_)
              refine Wp.istore_5 (pc' := 180) d3_178 rfl rfl ?_
              refine Wp.iload (pc' := 182) d3_180 rfl rfl ?_
              refine Wp.iconst (4) (pc' := 183) d3_182 rfl rfl ?_
              refine Wp.icmp_lt (pt := 224) (pf := 186) d3_183 (by decide) rfl (fun hc183 => ?_) (fun hc183 => absurd hc183 (by decide))
              refine Wp.iload (pc' := 226) d3_224 rfl rfl ?_
              refine Wp.iconst (2) (pc' := 227) d3_226 rfl rfl ?_
              refine Wp.icmp_neI (pt := 240) (pf := 230) d3_227 (by decide) rfl (fun hc227 => ?_) (fun hc227 => absurd hc227 (by decide))
              refine Wp.iload (pc' := 242) d3_240 rfl rfl ?_
              refine Wp.iconst (3) (pc' := 243) d3_242 rfl rfl ?_
              refine Wp.icmp_neI (pt := 256) (pf := 246) d3_243 (by decide) rfl (fun hc243 => absurd hc243 (by decide)) (fun hc243 => ?_)
              refine Wp.iload (pc' := 248) d3_246 rfl rfl ?_
              refine Wp.sipush (2048) (pc' := 251) d3_248 rfl rfl ?_
              refine Wp.icmp_ge (pt := 256) (pf := 254) d3_251 (by decide) rfl (fun hc251 => ?_) (fun hc251 => ?_)
              · refine Wp.iload (pc' := 258) d3_256 rfl rfl ?_
                refine Wp.iconst (4) (pc' := 259) d3_258 rfl rfl ?_
                refine Wp.icmp_neI (pt := 271) (pf := 262) d3_259 (by decide) rfl (fun hc259 => ?_) (fun hc259 => absurd hc259 (by decide))
                refine Wp.iload (pc' := 273) d3_271 rfl rfl ?_
                refine Wp.ldcI (pc' := 275) (w13 hw) d3_273 rfl ?_
                refine Wp.icmp_le (pt := 280) (pf := 278) d3_275 (by decide) rfl (fun hc275 => ?_) (fun hc275 => ?_)
                · refine Wp.iload (pc' := 282) d3_280 rfl rfl ?_
                  refine Wp.ldcI (pc' := 284) (w14 hw) d3_282 rfl ?_
                  refine Wp.icmp_lt (pt := 296) (pf := 287) d3_284 (by decide) rfl (fun hc284 => ?_) (fun hc284 => ?_)
                  · refine Wp.iload (pc' := 298) d3_296 rfl rfl ?_
                    refine Wp.ireturn rfl d3_298 ?_
                    refine ⟨⟨_, rfl, ?_⟩, rfl⟩
                    try simp only [Int32.reduceToInt] at hc12 hc25 hc48 hc93 hc118 hc162 hc251 hc275 hc284
                    unfold own_seq; first | (rw [if_neg (by omega), if_pos (by omega)]; rfl) | (rw [if_neg (by omega), if_neg (by omega), if_pos (by omega)]; rfl) | (rw [if_neg (by omega), if_neg (by omega), if_neg (by omega), if_pos (by omega)]; rfl)
                  · refine Wp.iload (pc' := 289) d3_287 rfl rfl ?_
                    refine Wp.ldcI (pc' := 291) (w15 hw) d3_289 rfl ?_
                    refine Wp.icmp_gt (pt := 296) (pf := 294) d3_291 (by decide) rfl (fun hc291 => ?_) (fun hc291 => ?_)
                    · refine Wp.iload (pc' := 298) d3_296 rfl rfl ?_
                      refine Wp.ireturn rfl d3_298 ?_
                      refine ⟨⟨_, rfl, ?_⟩, rfl⟩
                      try simp only [Int32.reduceToInt] at hc12 hc25 hc48 hc93 hc118 hc162 hc251 hc275 hc284 hc291
                      unfold own_seq; first | (rw [if_neg (by omega), if_pos (by omega)]; rfl) | (rw [if_neg (by omega), if_neg (by omega), if_pos (by omega)]; rfl) | (rw [if_neg (by omega), if_neg (by omega), if_neg (by omega), if_pos (by omega)]; rfl)
                    · refine Wp.iconst (0) (pc' := 295) d3_294 rfl rfl ?_
                      refine Wp.ireturn rfl d3_295 ?_
                      refine ⟨⟨_, rfl, ?_⟩, rfl⟩
                      try simp only [Int32.reduceToInt] at hc12 hc25 hc48 hc93 hc118 hc162 hc251 hc275 hc284 hc291
                      unfold own_seq; rw [if_neg (by omega), if_neg (by omega), if_neg (by omega), if_neg (by omega)]; rfl
                · refine Wp.iconst (0) (pc' := 279) d3_278 rfl rfl ?_
                  refine Wp.ireturn rfl d3_279 ?_
                  refine ⟨⟨_, rfl, ?_⟩, rfl⟩
                  try simp only [Int32.reduceToInt] at hc12 hc25 hc48 hc93 hc118 hc162 hc251 hc275
                  unfold own_seq; rw [if_neg (by omega), if_neg (by omega), if_neg (by omega), if_neg (by omega)]; rfl
              · refine Wp.iconst (0) (pc' := 255) d3_254 rfl rfl ?_
                refine Wp.ireturn rfl d3_255 ?_
                refine ⟨⟨_, rfl, ?_⟩, rfl⟩
                try simp only [Int32.reduceToInt] at hc12 hc25 hc48 hc93 hc118 hc162 hc251
                unfold own_seq; rw [if_neg (by omega), if_neg (by omega), if_neg (by omega), if_neg (by omega)]; rfl
            · replace hc162 := own_out e7 hc162
              clear e7 e11
              refine Wp.iconst (0) (pc' := 166) d3_165 rfl rfl ?_
              refine Wp.ireturn rfl d3_166 ?_
              refine ⟨⟨_, rfl, ?_⟩, rfl⟩
              try simp only [Int32.reduceToInt] at hc12 hc25 hc48 hc93 hc118 hc162
              unfold own_seq; rw [if_neg (by omega), if_neg (by omega), if_neg (by omega), if_neg (by omega)]; rfl
          · replace hc118 := own_out b7 hc118
            clear b7 b11
            refine Wp.iconst (0) (pc' := 122) d3_121 rfl rfl ?_
            refine Wp.ireturn rfl d3_122 ?_
            refine ⟨⟨_, rfl, ?_⟩, rfl⟩
            try simp only [Int32.reduceToInt] at hc12 hc25 hc48 hc93 hc118
            unfold own_seq; rw [if_neg (by omega), if_neg (by omega), if_neg (by omega), if_neg (by omega)]; rfl
        · refine Wp.iconst (0) (pc' := 97) d3_96 rfl rfl ?_
          refine Wp.ireturn rfl d3_97 ?_
          refine ⟨⟨_, rfl, ?_⟩, rfl⟩
          try simp only [Int32.reduceToInt] at hc12 hc25 hc48 hc93
          unfold own_seq; rw [if_neg (by omega), if_neg (by omega), if_neg (by omega), if_neg (by omega)]; rfl
    · replace hc25 := a4.mp hc25
      clear a4 a5 a6 a9 a10
      refine Wp.iconst (2) (pc' := 29) d3_28 rfl rfl ?_
      refine Wp.istore_4 (pc' := 31) d3_29 rfl rfl ?_
      refine Wp.iloadN (pc' := 32) d3_31 rfl rfl ?_
      refine Wp.bipush (31) (pc' := 34) d3_32 rfl rfl ?_
      refine Wp.iand (pc' := 35) d3_34 rfl ?_
      refine Wp.istore_5 (pc' := 37) d3_35 rfl rfl ?_
      refine Wp.goto (pc' := 88) d3_37 (by decide) ?_
      refine Wp.iloadN (pc' := 89) d3_88 rfl rfl ?_
      refine Wp.iload (pc' := 91) d3_89 rfl rfl ?_
      refine Wp.iadd (pc' := 92) d3_91 rfl ?_
      refine Wp.iloadN (pc' := 93) d3_92 rfl rfl ?_
      refine Wp.icmp_le (pt := 98) (pf := 96) d3_93 (by decide) rfl (fun hc93 => ?_) (fun hc93 => ?_)
      · refine Wp.aloadN (pc' := 99) d3_98 rfl rfl rfl ?_
        refine Wp.iloadN (pc' := 100) d3_99 rfl rfl ?_
        refine Wp.iconst (1) (pc' := 101) d3_100 rfl rfl ?_
        refine Wp.iadd (pc' := 102) d3_101 rfl ?_
        refine Wp.baload 0 (fN + 1) (v := .int (xs.getD (fN + 1) 0)) (pc' := 103) d3_102 hk f1 (hget _ (by omega)) rfl ?_
        refine Wp.sipush (255) (pc' := 106) d3_103 rfl rfl ?_
        refine Wp.iand (pc' := 107) d3_106 rfl ?_
        refine Wp.topI (fun z => own_B1 z (u (fN + 1))) (hB1 (fN + 1)) (fun c1 h1 => ?_)
        obtain ⟨b1, b2, b3, b7, b11⟩ := h1
        refine Wp.istore_6 (pc' := 109) d3_107 rfl rfl ?_
        refine Wp.iload (pc' := 111) d3_109 rfl rfl ?_
        refine Wp.sipush (192) (pc' := 114) d3_111 rfl rfl ?_
        refine Wp.iand (pc' := 115) d3_114 rfl ?_
        refine Wp.sipush (128) (pc' := 118) d3_115 rfl rfl ?_
        refine Wp.icmp_eqI (pt := 123) (pf := 121) d3_118 (by decide) rfl (fun hc118 => ?_) (fun hc118 => ?_)
        · replace hc118 := b7.mp hc118
          clear b7
          refine Wp.iload (pc' := 125) d3_123 rfl rfl ?_
          refine Wp.bipush (6) (pc' := 127) d3_125 rfl rfl ?_
          refine Wp.ishl (pc' := 128) d3_127 rfl ?_
          refine Wp.iload (pc' := 130) d3_128 rfl rfl ?_
          refine Wp.bipush (63) (pc' := 132) d3_130 rfl rfl ?_
          refine Wp.iand (pc' := 133) d3_132 rfl ?_
          refine Wp.ior (pc' := 134) d3_133 rfl ?_
          refine Wp.topI (fun z => z.toInt = _) (own_cp _ _ _ _ (by first | exact a8 | exact a9 | exact a10) (by omega) (by omega) b11 (by omega) (by omega)) (fun cp1 g1 => ?_)
          refine Wp.istore_5 (pc' := 136) d3_134 rfl rfl ?_
          refine Wp.iload (pc' := 138) d3_136 rfl rfl ?_
          refine Wp.iconst (3) (pc' := 139) d3_138 rfl rfl ?_
          refine Wp.icmp_lt (pt := 180) (pf := 142) d3_139 (by decide) rfl (fun hc139 => ?_) (fun hc139 => absurd hc139 (by decide))
          refine Wp.iload (pc' := 182) d3_180 rfl rfl ?_
          refine Wp.iconst (4) (pc' := 183) d3_182 rfl rfl ?_
          refine Wp.icmp_lt (pt := 224) (pf := 186) d3_183 (by decide) rfl (fun hc183 => ?_) (fun hc183 => absurd hc183 (by decide))
          refine Wp.iload (pc' := 226) d3_224 rfl rfl ?_
          refine Wp.iconst (2) (pc' := 227) d3_226 rfl rfl ?_
          refine Wp.icmp_neI (pt := 240) (pf := 230) d3_227 (by decide) rfl (fun hc227 => absurd hc227 (by decide)) (fun hc227 => ?_)
          refine Wp.iload (pc' := 232) d3_230 rfl rfl ?_
          refine Wp.sipush (128) (pc' := 235) d3_232 rfl rfl ?_
          refine Wp.icmp_ge (pt := 240) (pf := 238) d3_235 (by decide) rfl (fun hc235 => ?_) (fun hc235 => ?_)
          · refine Wp.iload (pc' := 242) d3_240 rfl rfl ?_
            refine Wp.iconst (3) (pc' := 243) d3_242 rfl rfl ?_
            refine Wp.icmp_neI (pt := 256) (pf := 246) d3_243 (by decide) rfl (fun hc243 => ?_) (fun hc243 => absurd hc243 (by decide))
            refine Wp.iload (pc' := 258) d3_256 rfl rfl ?_
            refine Wp.iconst (4) (pc' := 259) d3_258 rfl rfl ?_
            refine Wp.icmp_neI (pt := 271) (pf := 262) d3_259 (by decide) rfl (fun hc259 => ?_) (fun hc259 => absurd hc259 (by decide))
            refine Wp.iload (pc' := 273) d3_271 rfl rfl ?_
            refine Wp.ldcI (pc' := 275) (w13 hw) d3_273 rfl ?_
            refine Wp.icmp_le (pt := 280) (pf := 278) d3_275 (by decide) rfl (fun hc275 => ?_) (fun hc275 => ?_)
            · refine Wp.iload (pc' := 282) d3_280 rfl rfl ?_
              refine Wp.ldcI (pc' := 284) (w14 hw) d3_282 rfl ?_
              refine Wp.icmp_lt (pt := 296) (pf := 287) d3_284 (by decide) rfl (fun hc284 => ?_) (fun hc284 => ?_)
              · refine Wp.iload (pc' := 298) d3_296 rfl rfl ?_
                refine Wp.ireturn rfl d3_298 ?_
                refine ⟨⟨_, rfl, ?_⟩, rfl⟩
                try simp only [Int32.reduceToInt] at hc12 hc25 hc93 hc118 hc235 hc275 hc284
                unfold own_seq; first | (rw [if_neg (by omega), if_pos (by omega)]; rfl) | (rw [if_neg (by omega), if_neg (by omega), if_pos (by omega)]; rfl) | (rw [if_neg (by omega), if_neg (by omega), if_neg (by omega), if_pos (by omega)]; rfl)
              · refine Wp.iload (pc' := 289) d3_287 rfl rfl ?_
                refine Wp.ldcI (pc' := 291) (w15 hw) d3_289 rfl ?_
                refine Wp.icmp_gt (pt := 296) (pf := 294) d3_291 (by decide) rfl (fun hc291 => ?_) (fun hc291 => ?_)
                · refine Wp.iload (pc' := 298) d3_296 rfl rfl ?_
                  refine Wp.ireturn rfl d3_298 ?_
                  refine ⟨⟨_, rfl, ?_⟩, rfl⟩
                  try simp only [Int32.reduceToInt] at hc12 hc25 hc93 hc118 hc235 hc275 hc284 hc291
                  unfold own_seq; first | (rw [if_neg (by omega), if_pos (by omega)]; rfl) | (rw [if_neg (by omega), if_neg (by omega), if_pos (by omega)]; rfl) | (rw [if_neg (by omega), if_neg (by omega), if_neg (by omega), if_pos (by omega)]; rfl)
                · refine Wp.iconst (0) (pc' := 295) d3_294 rfl rfl ?_
                  refine Wp.ireturn rfl d3_295 ?_
                  refine ⟨⟨_, rfl, ?_⟩, rfl⟩
                  try simp only [Int32.reduceToInt] at hc12 hc25 hc93 hc118 hc235 hc275 hc284 hc291
                  unfold own_seq; rw [if_neg (by omega), if_neg (by omega), if_neg (by omega), if_neg (by omega)]; rfl
            · refine Wp.iconst (0) (pc' := 279) d3_278 rfl rfl ?_
              refine Wp.ireturn rfl d3_279 ?_
              refine ⟨⟨_, rfl, ?_⟩, rfl⟩
              try simp only [Int32.reduceToInt] at hc12 hc25 hc93 hc118 hc235 hc275
              unfold own_seq; rw [if_neg (by omega), if_neg (by omega), if_neg (by omega), if_neg (by omega)]; rfl
          · refine Wp.iconst (0) (pc' := 239) d3_238 rfl rfl ?_
            refine Wp.ireturn rfl d3_239 ?_
            refine ⟨⟨_, rfl, ?_⟩, rfl⟩
            try simp only [Int32.reduceToInt] at hc12 hc25 hc93 hc118 hc235
            unfold own_seq; rw [if_neg (by omega), if_neg (by omega), if_neg (by omega), if_neg (by omega)]; rfl
        · replace hc118 := own_out b7 hc118
          clear b7 b11
          refine Wp.iconst (0) (pc' := 122) d3_121 rfl rfl ?_
          refine Wp.ireturn rfl d3_122 ?_
          refine ⟨⟨_, rfl, ?_⟩, rfl⟩
          try simp only [Int32.reduceToInt] at hc12 hc25 hc93 hc118
          unfold own_seq; rw [if_neg (by omega), if_neg (by omega), if_neg (by omega), if_neg (by omega)]; rfl
      · refine Wp.iconst (0) (pc' := 97) d3_96 rfl rfl ?_
        refine Wp.ireturn rfl d3_97 ?_
        refine ⟨⟨_, rfl, ?_⟩, rfl⟩
        try simp only [Int32.reduceToInt] at hc12 hc25 hc93
        unfold own_seq; rw [if_neg (by omega), if_neg (by omega), if_neg (by omega), if_neg (by omega)]; rfl
  · simp only [Int32.reduceToInt] at hc12
    refine Wp.iconst (1) (pc' := 16) d3_15 rfl rfl ?_
    refine Wp.ireturn rfl d3_16 ?_
    refine ⟨⟨_, rfl, ?_⟩, rfl⟩
    unfold own_seq; rw [if_pos (by omega)]; rfl
def own_run (u : Nat → Int) (to : Nat) : Nat → Nat → Int
  | 0, _ => -1
  | f + 1, at_ => if to ≤ at_ then -1 else if own_seq u at_ to = 0 then at_ else own_run u to f (at_ + (own_seq u at_ to).toNat)
theorem own_seq_rng (u : Nat → Int) (p to : Nat) : 0 ≤ own_seq u p to ∧ own_seq u p to ≤ 4 := by
  unfold own_seq; split <;> (try split) <;> (try split) <;> (try split) <;> decide
theorem con1 {l : Launch} {Z : State} {a0 : Array Value} {n0 : Nat} (hw : Hw Z a0) (xs : List Int32) (hlen : xs.length = 5) (a : Addr) (f t : Int32) (fN tN : Nat) (hf : f.toInt = (fN : Int)) (ht : t.toInt = (tN : Int)) (hf5 : fN ≤ 5) (ht5 : tN ≤ 5) (H : Wp.MH) (hk : H[0]? = some (a, .inl (.byte, xs.map Value.int))) :
    C1 l Z a0 n0 #[.ref a, .int f, .int t] H (fun v H' => (∃ r : Int32, v = some (.int r) ∧ r.toInt = own_run (own_u xs) tN 5 fN) ∧ H' = H) := by
  refine Wp.Con.intro pn1 (fun m => ef1 m a f t) ?_
  generalize hu : own_u xs = u
  generalize hR : own_run u tN 5 fN = R
  generalize hQ : (fun (v : Option Value) (H' : Wp.MH) => (∃ r : Int32, v = some (.int r) ∧ r.toInt = R) ∧ H' = H) = Q
  have K110 : ∀ (p : Int32) (pN : Nat) (o : Slot), Wp.ok1 o = true → p.toInt = (pN : Int) → pN < 90 → own_run u tN 1 pN = R → W1 l Z a0 n0 0 0 110 [.val (.ref a), .val (.int f), .val (.int t), .val (.int p), o] [] H Q := by
    intro p pN o ho hp hp1 hr
    rw [own_run] at hr
    refine Wp.iloadN (pc' := 111) d1_110 rfl rfl ?_
    refine Wp.iloadN (pc' := 112) d1_111 rfl rfl ?_
    refine Wp.icmp_lt (pt := 117) (pf := 115) d1_112 (by decide) rfl (fun hc112 => ?_) (fun hc112 => ?_)
    · refine Wp.aloadN (pc' := 118) d1_117 rfl rfl rfl ?_
      refine Wp.iloadN (pc' := 119) d1_118 rfl rfl ?_
      refine Wp.iloadN (pc' := 120) d1_119 rfl rfl ?_
      refine Wp.callS_3 0 (pc' := 123) (cells' := 0) (slots' := 0)  (rm := rm3) (w9 hw) (w10 hw) (w3 hw) (w11 hw) (by decide) pd0 rfl d1_120 rfl rfl (by decide) (by decide) (by decide) (by decide) rfl rfl rfl ?_
      refine (con3 hw xs hlen a p t pN tN hp ht (by omega) ht5 _ hk).mono ?_
      rintro _ _ ⟨⟨s, rfl, hs⟩, rfl⟩
      rw [hu] at hs
      rw [if_neg (by omega)] at hr
      have hrg := own_seq_rng u pN tN
      refine Wp.afterS ?_
      refine Wp.istore_4 (pc' := 125) d1_123 ho rfl ?_
      refine Wp.iload (pc' := 127) d1_125 rfl rfl ?_
      refine Wp.if_ne (pt := 132) (pf := 130) d1_127 (by decide) rfl (fun hc127 => ?_) (fun hc127 => ?_)
      · refine Wp.iconst (-1) (pc' := 133) d1_132 rfl rfl ?_
        refine Wp.ireturn rfl d1_133 ?_
        subst hQ
        rw [if_neg (fun e => hc127 (Int32.toInt_inj.mp (by rw [hs, e]; rfl)))] at hr
        exact ⟨⟨_, rfl, hr⟩, rfl⟩
      · refine Wp.iloadN (pc' := 131) d1_130 rfl rfl ?_
        refine Wp.ireturn rfl d1_131 ?_
        subst hQ
        rw [if_pos (by rw [← hs, hc127]; rfl)] at hr
        exact ⟨⟨_, rfl, by rw [hp]; exact hr⟩, rfl⟩
    · refine Wp.iconst (-1) (pc' := 116) d1_115 rfl rfl ?_
      refine Wp.ireturn rfl d1_116 ?_
      subst hQ
      rw [if_pos (by omega)] at hr
      exact ⟨⟨_, rfl, hr⟩, rfl⟩
  have K83 : ∀ (p : Int32) (pN : Nat) (o : Slot), Wp.ok1 o = true → p.toInt = (pN : Int) → pN < 80 → own_run u tN 2 pN = R → W1 l Z a0 n0 0 0 83 [.val (.ref a), .val (.int f), .val (.int t), .val (.int p), o] [] H Q := by
    intro p pN o ho hp hp1 hr
    rw [own_run] at hr
    refine Wp.iloadN (pc' := 84) d1_83 rfl rfl ?_
    refine Wp.iloadN (pc' := 85) d1_84 rfl rfl ?_
    refine Wp.icmp_lt (pt := 90) (pf := 88) d1_85 (by decide) rfl (fun hc85 => ?_) (fun hc85 => ?_)
    · refine Wp.aloadN (pc' := 91) d1_90 rfl rfl rfl ?_
      refine Wp.iloadN (pc' := 92) d1_91 rfl rfl ?_
      refine Wp.iloadN (pc' := 93) d1_92 rfl rfl ?_
      refine Wp.callS_3 0 (pc' := 96) (cells' := 0) (slots' := 0)  (rm := rm3) (w9 hw) (w10 hw) (w3 hw) (w11 hw) (by decide) pd0 rfl d1_93 rfl rfl (by decide) (by decide) (by decide) (by decide) rfl rfl rfl ?_
      refine (con3 hw xs hlen a p t pN tN hp ht (by omega) ht5 _ hk).mono ?_
      rintro _ _ ⟨⟨s, rfl, hs⟩, rfl⟩
      rw [hu] at hs
      rw [if_neg (by omega)] at hr
      have hrg := own_seq_rng u pN tN
      refine Wp.afterS ?_
      refine Wp.istore_4 (pc' := 98) d1_96 ho rfl ?_
      refine Wp.iload (pc' := 100) d1_98 rfl rfl ?_
      refine Wp.if_ne (pt := 105) (pf := 103) d1_100 (by decide) rfl (fun hc100 => ?_) (fun hc100 => ?_)
      · refine Wp.iloadN (pc' := 106) d1_105 rfl rfl ?_
        refine Wp.iload (pc' := 108) d1_106 rfl rfl ?_
        refine Wp.iadd (pc' := 109) d1_108 rfl ?_
        refine Wp.istoreN_3 (pc' := 110) d1_109 rfl rfl ?_
        rw [if_neg (fun e => hc100 (Int32.toInt_inj.mp (by rw [hs, e]; rfl)))] at hr
        exact K110 _ (pN + (own_seq u pN tN).toNat) _ rfl (own_addN hp (by rw [hs]; omega) (by omega)) (by omega) hr
      · refine Wp.iloadN (pc' := 104) d1_103 rfl rfl ?_
        refine Wp.ireturn rfl d1_104 ?_
        subst hQ
        rw [if_pos (by rw [← hs, hc100]; rfl)] at hr
        exact ⟨⟨_, rfl, by rw [hp]; exact hr⟩, rfl⟩
    · refine Wp.iconst (-1) (pc' := 89) d1_88 rfl rfl ?_
      refine Wp.ireturn rfl d1_89 ?_
      subst hQ
      rw [if_pos (by omega)] at hr
      exact ⟨⟨_, rfl, hr⟩, rfl⟩
  have K56 : ∀ (p : Int32) (pN : Nat) (o : Slot), Wp.ok1 o = true → p.toInt = (pN : Int) → pN < 70 → own_run u tN 3 pN = R → W1 l Z a0 n0 0 0 56 [.val (.ref a), .val (.int f), .val (.int t), .val (.int p), o] [] H Q := by
    intro p pN o ho hp hp1 hr
    rw [own_run] at hr
    refine Wp.iloadN (pc' := 57) d1_56 rfl rfl ?_
    refine Wp.iloadN (pc' := 58) d1_57 rfl rfl ?_
    refine Wp.icmp_lt (pt := 63) (pf := 61) d1_58 (by decide) rfl (fun hc58 => ?_) (fun hc58 => ?_)
    · refine Wp.aloadN (pc' := 64) d1_63 rfl rfl rfl ?_
      refine Wp.iloadN (pc' := 65) d1_64 rfl rfl ?_
      refine Wp.iloadN (pc' := 66) d1_65 rfl rfl ?_
      refine Wp.callS_3 0 (pc' := 69) (cells' := 0) (slots' := 0)  (rm := rm3) (w9 hw) (w10 hw) (w3 hw) (w11 hw) (by decide) pd0 rfl d1_66 rfl rfl (by decide) (by decide) (by decide) (by decide) rfl rfl rfl ?_
      refine (con3 hw xs hlen a p t pN tN hp ht (by omega) ht5 _ hk).mono ?_
      rintro _ _ ⟨⟨s, rfl, hs⟩, rfl⟩
      rw [hu] at hs
      rw [if_neg (by omega)] at hr
      have hrg := own_seq_rng u pN tN
      refine Wp.afterS ?_
      refine Wp.istore_4 (pc' := 71) d1_69 ho rfl ?_
      refine Wp.iload (pc' := 73) d1_71 rfl rfl ?_
      refine Wp.if_ne (pt := 78) (pf := 76) d1_73 (by decide) rfl (fun hc73 => ?_) (fun hc73 => ?_)
      · refine Wp.iloadN (pc' := 79) d1_78 rfl rfl ?_
        refine Wp.iload (pc' := 81) d1_79 rfl rfl ?_
        refine Wp.iadd (pc' := 82) d1_81 rfl ?_
        refine Wp.istoreN_3 (pc' := 83) d1_82 rfl rfl ?_
        rw [if_neg (fun e => hc73 (Int32.toInt_inj.mp (by rw [hs, e]; rfl)))] at hr
        exact K83 _ (pN + (own_seq u pN tN).toNat) _ rfl (own_addN hp (by rw [hs]; omega) (by omega)) (by omega) hr
      · refine Wp.iloadN (pc' := 77) d1_76 rfl rfl ?_
        refine Wp.ireturn rfl d1_77 ?_
        subst hQ
        rw [if_pos (by rw [← hs, hc73]; rfl)] at hr
        exact ⟨⟨_, rfl, by rw [hp]; exact hr⟩, rfl⟩
    · refine Wp.iconst (-1) (pc' := 62) d1_61 rfl rfl ?_
      refine Wp.ireturn rfl d1_62 ?_
      subst hQ
      rw [if_pos (by omega)] at hr
      exact ⟨⟨_, rfl, hr⟩, rfl⟩
  have K29 : ∀ (p : Int32) (pN : Nat) (o : Slot), Wp.ok1 o = true → p.toInt = (pN : Int) → pN < 60 → own_run u tN 4 pN = R → W1 l Z a0 n0 0 0 29 [.val (.ref a), .val (.int f), .val (.int t), .val (.int p), o] [] H Q := by
    intro p pN o ho hp hp1 hr
    rw [own_run] at hr
    refine Wp.iloadN (pc' := 30) d1_29 rfl rfl ?_
    refine Wp.iloadN (pc' := 31) d1_30 rfl rfl ?_
    refine Wp.icmp_lt (pt := 36) (pf := 34) d1_31 (by decide) rfl (fun hc31 => ?_) (fun hc31 => ?_)
    · refine Wp.aloadN (pc' := 37) d1_36 rfl rfl rfl ?_
      refine Wp.iloadN (pc' := 38) d1_37 rfl rfl ?_
      refine Wp.iloadN (pc' := 39) d1_38 rfl rfl ?_
      refine Wp.callS_3 0 (pc' := 42) (cells' := 0) (slots' := 0)  (rm := rm3) (w9 hw) (w10 hw) (w3 hw) (w11 hw) (by decide) pd0 rfl d1_39 rfl rfl (by decide) (by decide) (by decide) (by decide) rfl rfl rfl ?_
      refine (con3 hw xs hlen a p t pN tN hp ht (by omega) ht5 _ hk).mono ?_
      rintro _ _ ⟨⟨s, rfl, hs⟩, rfl⟩
      rw [hu] at hs
      rw [if_neg (by omega)] at hr
      have hrg := own_seq_rng u pN tN
      refine Wp.afterS ?_
      refine Wp.istore_4 (pc' := 44) d1_42 ho rfl ?_
      refine Wp.iload (pc' := 46) d1_44 rfl rfl ?_
      refine Wp.if_ne (pt := 51) (pf := 49) d1_46 (by decide) rfl (fun hc46 => ?_) (fun hc46 => ?_)
      · refine Wp.iloadN (pc' := 52) d1_51 rfl rfl ?_
        refine Wp.iload (pc' := 54) d1_52 rfl rfl ?_
        refine Wp.iadd (pc' := 55) d1_54 rfl ?_
        refine Wp.istoreN_3 (pc' := 56) d1_55 rfl rfl ?_
        rw [if_neg (fun e => hc46 (Int32.toInt_inj.mp (by rw [hs, e]; rfl)))] at hr
        exact K56 _ (pN + (own_seq u pN tN).toNat) _ rfl (own_addN hp (by rw [hs]; omega) (by omega)) (by omega) hr
      · refine Wp.iloadN (pc' := 50) d1_49 rfl rfl ?_
        refine Wp.ireturn rfl d1_50 ?_
        subst hQ
        rw [if_pos (by rw [← hs, hc46]; rfl)] at hr
        exact ⟨⟨_, rfl, by rw [hp]; exact hr⟩, rfl⟩
    · refine Wp.iconst (-1) (pc' := 35) d1_34 rfl rfl ?_
      refine Wp.ireturn rfl d1_35 ?_
      subst hQ
      rw [if_pos (by omega)] at hr
      exact ⟨⟨_, rfl, hr⟩, rfl⟩
  have K2 : ∀ (p : Int32) (pN : Nat) (o : Slot), Wp.ok1 o = true → p.toInt = (pN : Int) → pN < 50 → own_run u tN 5 pN = R → W1 l Z a0 n0 0 0 2 [.val (.ref a), .val (.int f), .val (.int t), .val (.int p), o] [] H Q := by
    intro p pN o ho hp hp1 hr
    rw [own_run] at hr
    refine Wp.iloadN (pc' := 3) d1_2 rfl rfl ?_
    refine Wp.iloadN (pc' := 4) d1_3 rfl rfl ?_
    refine Wp.icmp_lt (pt := 9) (pf := 7) d1_4 (by decide) rfl (fun hc4 => ?_) (fun hc4 => ?_)
    · refine Wp.aloadN (pc' := 10) d1_9 rfl rfl rfl ?_
      refine Wp.iloadN (pc' := 11) d1_10 rfl rfl ?_
      refine Wp.iloadN (pc' := 12) d1_11 rfl rfl ?_
      refine Wp.callS_3 0 (pc' := 15) (cells' := 0) (slots' := 0)  (rm := rm3) (w9 hw) (w10 hw) (w3 hw) (w11 hw) (by decide) pd0 rfl d1_12 rfl rfl (by decide) (by decide) (by decide) (by decide) rfl rfl rfl ?_
      refine (con3 hw xs hlen a p t pN tN hp ht (by omega) ht5 _ hk).mono ?_
      rintro _ _ ⟨⟨s, rfl, hs⟩, rfl⟩
      rw [hu] at hs
      rw [if_neg (by omega)] at hr
      have hrg := own_seq_rng u pN tN
      refine Wp.afterS ?_
      refine Wp.istore_4 (pc' := 17) d1_15 ho rfl ?_
      refine Wp.iload (pc' := 19) d1_17 rfl rfl ?_
      refine Wp.if_ne (pt := 24) (pf := 22) d1_19 (by decide) rfl (fun hc19 => ?_) (fun hc19 => ?_)
      · refine Wp.iloadN (pc' := 25) d1_24 rfl rfl ?_
        refine Wp.iload (pc' := 27) d1_25 rfl rfl ?_
        refine Wp.iadd (pc' := 28) d1_27 rfl ?_
        refine Wp.istoreN_3 (pc' := 29) d1_28 rfl rfl ?_
        rw [if_neg (fun e => hc19 (Int32.toInt_inj.mp (by rw [hs, e]; rfl)))] at hr
        exact K29 _ (pN + (own_seq u pN tN).toNat) _ rfl (own_addN hp (by rw [hs]; omega) (by omega)) (by omega) hr
      · refine Wp.iloadN (pc' := 23) d1_22 rfl rfl ?_
        refine Wp.ireturn rfl d1_23 ?_
        subst hQ
        rw [if_pos (by rw [← hs, hc19]; rfl)] at hr
        exact ⟨⟨_, rfl, by rw [hp]; exact hr⟩, rfl⟩
    · refine Wp.iconst (-1) (pc' := 8) d1_7 rfl rfl ?_
      refine Wp.ireturn rfl d1_8 ?_
      subst hQ
      rw [if_pos (by omega)] at hr
      exact ⟨⟨_, rfl, hr⟩, rfl⟩
  refine Wp.iloadN (pc' := 1) d1_0 rfl rfl ?_
  refine Wp.istoreN_3 (pc' := 2) d1_1 rfl rfl ?_
  exact K2 _ fN _ rfl hf (by omega) hR
theorem con2 {l : Launch} {Z : State} {a0 : Array Value} {n0 : Nat} (hw : Hw Z a0) (xs : List Int32) (hlen : xs.length = 5) (a : Addr) (f t : Int32) (fN tN : Nat) (hf : f.toInt = (fN : Int)) (ht : t.toInt = (tN : Int)) (hf5 : fN ≤ 5) (ht5 : tN ≤ 5) (H : Wp.MH) (hk : H[0]? = some (a, .inl (.byte, xs.map Value.int))) :
    C2 l Z a0 n0 #[.ref a, .int f, .int t] H (fun v H' => (∃ r : Int32, v = some (.int r) ∧ r.toInt = own_run (own_u xs) tN 5 fN) ∧ H' = H) := by
  refine Wp.Con.intro pn2 (fun m => ef2 m a f t) ?_
  have hget : ∀ k, k < 5 → (xs.map Value.int)[k]? = some (.int (xs.getD k 0)) := fun k hk5 => by
    simp [List.getElem?_eq_getElem (show k < xs.length by omega)]
  have hB : ∀ k, ((xs.getD k 0) &&& 255).toInt = own_u xs k ∧ 0 ≤ own_u xs k ∧ own_u xs k ≤ 255 := fun k => ⟨rfl, (own_B0_of _).2.1, (own_B0_of _).2.2.1⟩
  generalize own_u xs = u at hB ⊢
  generalize hR : own_run u tN 5 fN = R
  generalize hQ : (fun (v : Option Value) (H' : Wp.MH) => (∃ r : Int32, v = some (.int r) ∧ r.toInt = R) ∧ H' = H) = Q
  have K : ∀ (fu : Nat) (p : Int32) (pN : Nat) (o4 o5 o6 o7 o8 o9 : Slot), Wp.ok1 o4 = true → Wp.ok1 o5 = true → Wp.ok1 o6 = true → Wp.ok1 o7 = true → Wp.ok1 o8 = true → Wp.ok1 o9 = true → p.toInt = (pN : Int) → tN ≤ pN + fu → own_run u tN fu pN = R →
      W2 l Z a0 n0 0 0 2 [.val (.ref a), .val (.int f), .val (.int t), .val (.int p), o4, o5, o6, o7, o8, o9] [] H Q := by
    intro fu
    induction fu with
    | zero =>
      intro p pN o4 o5 o6 o7 o8 o9 h4 h5 h6 h7 h8 h9 hp hle hr
      refine Wp.iloadN (pc' := 3) d2_2 rfl rfl ?_
      refine Wp.iloadN (pc' := 4) d2_3 rfl rfl ?_
      refine Wp.icmp_ge (pt := 268) (pf := 7) d2_4 (by decide) rfl (fun hc4 => ?_) (fun hc4 => ?_)
      · refine Wp.iconst (-1) (pc' := 269) d2_268 rfl rfl ?_
        refine Wp.ireturn rfl d2_269 ?_
        subst hQ; exact ⟨⟨_, rfl, hr⟩, rfl⟩
      · exfalso; omega
    | succ fu ih =>
      intro p pN o4 o5 o6 o7 o8 o9 h4 h5 h6 h7 h8 h9 hp hle hr
      rw [own_run] at hr
      have K7 : pN < tN → W2 l Z a0 n0 0 0 7 [.val (.ref a), .val (.int f), .val (.int t), .val (.int p), o4, o5, o6, o7, o8, o9] [] H Q := by
        intro hlt
        rw [if_neg (by omega)] at hr
        have g1 : (p + 1).toInt = ((pN + 1 : Nat) : Int) := own_addN hp rfl (by omega)
        have g2 : (p + (1 + 1)).toInt = ((pN + 2 : Nat) : Int) := own_addN hp rfl (by omega)
        have g3 : (p + (1 + 1 + 1)).toInt = ((pN + 3 : Nat) : Int) := own_addN hp rfl (by omega)
        have j0 : (p + 0).toInt = ((pN + 0 : Nat) : Int) := own_addN hp rfl (by omega)
        have j2 : (p + 2).toInt = ((pN + 2 : Nat) : Int) := own_addN hp rfl (by omega)
        have j3 : (p + 3).toInt = ((pN + 3 : Nat) : Int) := own_addN hp rfl (by omega)
        have k0 : (p + (0 + 1)).toInt = ((pN + 1 : Nat) : Int) := own_addN hp rfl (by omega)
        have k1 : (p + (1 + 1)).toInt = ((pN + 2 : Nat) : Int) := own_addN hp rfl (by omega)
        have k2 : (p + (2 + 1)).toInt = ((pN + 3 : Nat) : Int) := own_addN hp rfl (by omega)
        have k3 : (p + (3 + 1)).toInt = ((pN + 4 : Nat) : Int) := own_addN hp rfl (by omega)
        have hz : own_seq u pN tN = 0 → (pN : Int) = R := fun e => by rw [if_pos e] at hr; exact hr
        have hs : ∀ n : Nat, own_seq u pN tN = (n : Int) → n ≠ 0 → own_run u tN fu (pN + n) = R := fun n e hn => by
          rw [if_neg (by omega), e] at hr; exact hr
        clear hr
        have K180_0 : ∀ (c0 lo hi : Int32), u pN < 128 → True → W2 l Z a0 n0 0 0 180 [.val (.ref a), .val (.int f), .val (.int t), .val (.int p), .val (.int c0), .val (.int 0), .val (.int lo), .val (.int hi), o8, o9] [] H Q := by
          intro c0 lo hi hu hlh
          refine Wp.iloadN (pc' := 181) d2_180 rfl rfl ?_
          refine Wp.iload (pc' := 183) d2_181 rfl rfl ?_
          refine Wp.iadd (pc' := 184) d2_183 rfl ?_
          refine Wp.iloadN (pc' := 185) d2_184 rfl rfl ?_
          refine Wp.icmp_lt (pt := 190) (pf := 188) d2_185 (by decide) rfl (fun hc185 => ?_) (fun hc185 => ?_)
          · try simp only [Int32.reduceToInt] at hc185
            refine Wp.iconst (1) (pc' := 191) d2_190 rfl rfl ?_
            refine Wp.istore_8 (pc' := 193) d2_191 h8 rfl ?_
            refine Wp.iload (pc' := 195) d2_193 rfl rfl ?_
            refine Wp.iload (pc' := 197) d2_195 rfl rfl ?_
            refine Wp.icmp_gt (pt := 258) (pf := 200) d2_197 (by decide) rfl (fun hc197 => ?_) (fun hc197 => absurd hc197 (by decide))
            refine Wp.iloadN (pc' := 259) d2_258 rfl rfl ?_
            refine Wp.iload (pc' := 261) d2_259 rfl rfl ?_
            refine Wp.iconst (1) (pc' := 262) d2_261 rfl rfl ?_
            refine Wp.iadd (pc' := 263) d2_262 rfl ?_
            refine Wp.iadd (pc' := 264) d2_263 rfl ?_
            refine Wp.istoreN_3 (pc' := 265) d2_264 rfl rfl ?_
            refine Wp.goto (pc' := 2) d2_265 (by decide) ?_
            refine ih _ (pN + 1) _ _ _ _ _ _ rfl rfl rfl rfl rfl h9 k0 (by omega) (hs 1 ?_ (by decide))
            unfold own_seq; rw [if_pos (by omega)]; rfl
          · try simp only [Int32.reduceToInt] at hc185
            refine Wp.iloadN (pc' := 189) d2_188 rfl rfl ?_
            refine Wp.ireturn rfl d2_189 ?_
            subst hQ; refine ⟨⟨_, rfl, ?_⟩, rfl⟩
            rw [hp]; apply hz
            unfold own_seq; rw [if_neg (by omega), if_neg (by omega), if_neg (by omega), if_neg (by omega)]
        have K180_1 : ∀ (c0 lo hi : Int32), 194 ≤ u pN ∧ u pN ≤ 223 → lo.toInt = 128 ∧ hi.toInt = 191 → W2 l Z a0 n0 0 0 180 [.val (.ref a), .val (.int f), .val (.int t), .val (.int p), .val (.int c0), .val (.int 1), .val (.int lo), .val (.int hi), o8, o9] [] H Q := by
          intro c0 lo hi hu hlh
          refine Wp.iloadN (pc' := 181) d2_180 rfl rfl ?_
          refine Wp.iload (pc' := 183) d2_181 rfl rfl ?_
          refine Wp.iadd (pc' := 184) d2_183 rfl ?_
          refine Wp.iloadN (pc' := 185) d2_184 rfl rfl ?_
          refine Wp.icmp_lt (pt := 190) (pf := 188) d2_185 (by decide) rfl (fun hc185 => ?_) (fun hc185 => ?_)
          · try simp only [Int32.reduceToInt] at hc185
            refine Wp.iconst (1) (pc' := 191) d2_190 rfl rfl ?_
            refine Wp.istore_8 (pc' := 193) d2_191 h8 rfl ?_
            refine Wp.iload (pc' := 195) d2_193 rfl rfl ?_
            refine Wp.iload (pc' := 197) d2_195 rfl rfl ?_
            refine Wp.icmp_gt (pt := 258) (pf := 200) d2_197 (by decide) rfl (fun hc197 => absurd hc197 (by decide)) (fun hc197 => ?_)
            refine Wp.aloadN (pc' := 201) d2_200 rfl rfl rfl ?_
            refine Wp.iloadN (pc' := 202) d2_201 rfl rfl ?_
            refine Wp.iload (pc' := 204) d2_202 rfl rfl ?_
            refine Wp.iadd (pc' := 205) d2_204 rfl ?_
            refine Wp.baload 0 (pN + 1) (v := .int (xs.getD (pN + 1) 0)) (pc' := 206) d2_205 hk g1 (hget _ (by omega)) rfl ?_
            refine Wp.sipush (255) (pc' := 209) d2_206 rfl rfl ?_
            refine Wp.iand (pc' := 210) d2_209 rfl ?_
            refine Wp.topI (fun z => z.toInt = u (pN + 1) ∧ 0 ≤ u (pN + 1) ∧ u (pN + 1) ≤ 255) (hB (pN + 1)) (fun cb1 hcb => ?_)
            obtain ⟨q11, q21, q31⟩ := hcb
            refine Wp.istore_9 (pc' := 212) d2_210 h9 rfl ?_
            refine Wp.iload (pc' := 214) d2_212 rfl rfl ?_
            refine Wp.iload (pc' := 216) d2_214 rfl rfl ?_
            refine Wp.iconst (1) (pc' := 217) d2_216 rfl rfl ?_
            refine Wp.icmp_neI (pt := 225) (pf := 220) d2_217 (by decide) rfl (fun hc217 => absurd hc217 (by decide)) (fun hc217 => ?_)
            refine Wp.iload (pc' := 222) d2_220 rfl rfl ?_
            refine Wp.goto (pc' := 228) d2_222 (by decide) ?_
            refine Wp.icmp_lt (pt := 250) (pf := 231) d2_228 (by decide) rfl (fun hc228 => ?_) (fun hc228 => ?_)
            · try simp only [Int32.reduceToInt] at hc228
              refine Wp.iloadN (pc' := 251) d2_250 rfl rfl ?_
              refine Wp.ireturn rfl d2_251 ?_
              subst hQ; refine ⟨⟨_, rfl, ?_⟩, rfl⟩
              rw [hp]; apply hz
              unfold own_seq; rw [if_neg (by omega), if_neg (by omega), if_neg (by omega), if_neg (by omega)]
            · try simp only [Int32.reduceToInt] at hc228
              refine Wp.iload (pc' := 233) d2_231 rfl rfl ?_
              refine Wp.iload (pc' := 235) d2_233 rfl rfl ?_
              refine Wp.iconst (1) (pc' := 236) d2_235 rfl rfl ?_
              refine Wp.icmp_neI (pt := 244) (pf := 239) d2_236 (by decide) rfl (fun hc236 => absurd hc236 (by decide)) (fun hc236 => ?_)
              refine Wp.iload (pc' := 241) d2_239 rfl rfl ?_
              refine Wp.goto (pc' := 247) d2_241 (by decide) ?_
              refine Wp.icmp_le (pt := 252) (pf := 250) d2_247 (by decide) rfl (fun hc247 => ?_) (fun hc247 => ?_)
              · try simp only [Int32.reduceToInt] at hc247
                refine Wp.iinc_8 (1) (pc' := 255) d2_252 rfl rfl ?_
                refine Wp.goto (pc' := 193) d2_255 (by decide) ?_
                refine Wp.iload (pc' := 195) d2_193 rfl rfl ?_
                refine Wp.iload (pc' := 197) d2_195 rfl rfl ?_
                refine Wp.icmp_gt (pt := 258) (pf := 200) d2_197 (by decide) rfl (fun hc197 => ?_) (fun hc197 => absurd hc197 (by decide))
                refine Wp.iloadN (pc' := 259) d2_258 rfl rfl ?_
                refine Wp.iload (pc' := 261) d2_259 rfl rfl ?_
                refine Wp.iconst (1) (pc' := 262) d2_261 rfl rfl ?_
                refine Wp.iadd (pc' := 263) d2_262 rfl ?_
                refine Wp.iadd (pc' := 264) d2_263 rfl ?_
                refine Wp.istoreN_3 (pc' := 265) d2_264 rfl rfl ?_
                refine Wp.goto (pc' := 2) d2_265 (by decide) ?_
                refine ih _ (pN + 2) _ _ _ _ _ _ rfl rfl rfl rfl rfl rfl k1 (by omega) (hs 2 ?_ (by decide))
                unfold own_seq; rw [if_neg (by omega), if_pos (by omega)]; rfl
              · try simp only [Int32.reduceToInt] at hc247
                refine Wp.iloadN (pc' := 251) d2_250 rfl rfl ?_
                refine Wp.ireturn rfl d2_251 ?_
                subst hQ; refine ⟨⟨_, rfl, ?_⟩, rfl⟩
                rw [hp]; apply hz
                unfold own_seq; rw [if_neg (by omega), if_neg (by omega), if_neg (by omega), if_neg (by omega)]
          · try simp only [Int32.reduceToInt] at hc185
            refine Wp.iloadN (pc' := 189) d2_188 rfl rfl ?_
            refine Wp.ireturn rfl d2_189 ?_
            subst hQ; refine ⟨⟨_, rfl, ?_⟩, rfl⟩
            rw [hp]; apply hz
            unfold own_seq; rw [if_neg (by omega), if_neg (by omega), if_neg (by omega), if_neg (by omega)]
        have K180_2 : ∀ (c0 lo hi : Int32), 224 ≤ u pN ∧ u pN ≤ 239 → (lo.toInt = if u pN = 224 then 160 else 128) ∧ (hi.toInt = if u pN = 237 then 159 else 191) → W2 l Z a0 n0 0 0 180 [.val (.ref a), .val (.int f), .val (.int t), .val (.int p), .val (.int c0), .val (.int 2), .val (.int lo), .val (.int hi), o8, o9] [] H Q := by
          intro c0 lo hi hu hlh
          refine Wp.iloadN (pc' := 181) d2_180 rfl rfl ?_
          refine Wp.iload (pc' := 183) d2_181 rfl rfl ?_
          refine Wp.iadd (pc' := 184) d2_183 rfl ?_
          refine Wp.iloadN (pc' := 185) d2_184 rfl rfl ?_
          refine Wp.icmp_lt (pt := 190) (pf := 188) d2_185 (by decide) rfl (fun hc185 => ?_) (fun hc185 => ?_)
          · try simp only [Int32.reduceToInt] at hc185
            refine Wp.iconst (1) (pc' := 191) d2_190 rfl rfl ?_
            refine Wp.istore_8 (pc' := 193) d2_191 h8 rfl ?_
            refine Wp.iload (pc' := 195) d2_193 rfl rfl ?_
            refine Wp.iload (pc' := 197) d2_195 rfl rfl ?_
            refine Wp.icmp_gt (pt := 258) (pf := 200) d2_197 (by decide) rfl (fun hc197 => absurd hc197 (by decide)) (fun hc197 => ?_)
            refine Wp.aloadN (pc' := 201) d2_200 rfl rfl rfl ?_
            refine Wp.iloadN (pc' := 202) d2_201 rfl rfl ?_
            refine Wp.iload (pc' := 204) d2_202 rfl rfl ?_
            refine Wp.iadd (pc' := 205) d2_204 rfl ?_
            refine Wp.baload 0 (pN + 1) (v := .int (xs.getD (pN + 1) 0)) (pc' := 206) d2_205 hk g1 (hget _ (by omega)) rfl ?_
            refine Wp.sipush (255) (pc' := 209) d2_206 rfl rfl ?_
            refine Wp.iand (pc' := 210) d2_209 rfl ?_
            refine Wp.topI (fun z => z.toInt = u (pN + 1) ∧ 0 ≤ u (pN + 1) ∧ u (pN + 1) ≤ 255) (hB (pN + 1)) (fun cb1 hcb => ?_)
            obtain ⟨q11, q21, q31⟩ := hcb
            refine Wp.istore_9 (pc' := 212) d2_210 h9 rfl ?_
            refine Wp.iload (pc' := 214) d2_212 rfl rfl ?_
            refine Wp.iload (pc' := 216) d2_214 rfl rfl ?_
            refine Wp.iconst (1) (pc' := 217) d2_216 rfl rfl ?_
            refine Wp.icmp_neI (pt := 225) (pf := 220) d2_217 (by decide) rfl (fun hc217 => absurd hc217 (by decide)) (fun hc217 => ?_)
            refine Wp.iload (pc' := 222) d2_220 rfl rfl ?_
            refine Wp.goto (pc' := 228) d2_222 (by decide) ?_
            refine Wp.icmp_lt (pt := 250) (pf := 231) d2_228 (by decide) rfl (fun hc228 => ?_) (fun hc228 => ?_)
            · try simp only [Int32.reduceToInt] at hc228
              refine Wp.iloadN (pc' := 251) d2_250 rfl rfl ?_
              refine Wp.ireturn rfl d2_251 ?_
              subst hQ; refine ⟨⟨_, rfl, ?_⟩, rfl⟩
              rw [hp]; apply hz
              unfold own_seq; rw [if_neg (by omega), if_neg (by omega), if_neg (by omega), if_neg (by omega)]
            · try simp only [Int32.reduceToInt] at hc228
              refine Wp.iload (pc' := 233) d2_231 rfl rfl ?_
              refine Wp.iload (pc' := 235) d2_233 rfl rfl ?_
              refine Wp.iconst (1) (pc' := 236) d2_235 rfl rfl ?_
              refine Wp.icmp_neI (pt := 244) (pf := 239) d2_236 (by decide) rfl (fun hc236 => absurd hc236 (by decide)) (fun hc236 => ?_)
              refine Wp.iload (pc' := 241) d2_239 rfl rfl ?_
              refine Wp.goto (pc' := 247) d2_241 (by decide) ?_
              refine Wp.icmp_le (pt := 252) (pf := 250) d2_247 (by decide) rfl (fun hc247 => ?_) (fun hc247 => ?_)
              · try simp only [Int32.reduceToInt] at hc247
                refine Wp.iinc_8 (1) (pc' := 255) d2_252 rfl rfl ?_
                refine Wp.goto (pc' := 193) d2_255 (by decide) ?_
                refine Wp.iload (pc' := 195) d2_193 rfl rfl ?_
                refine Wp.iload (pc' := 197) d2_195 rfl rfl ?_
                refine Wp.icmp_gt (pt := 258) (pf := 200) d2_197 (by decide) rfl (fun hc197 => absurd hc197 (by decide)) (fun hc197 => ?_)
                refine Wp.aloadN (pc' := 201) d2_200 rfl rfl rfl ?_
                refine Wp.iloadN (pc' := 202) d2_201 rfl rfl ?_
                refine Wp.iload (pc' := 204) d2_202 rfl rfl ?_
                refine Wp.iadd (pc' := 205) d2_204 rfl ?_
                refine Wp.baload 0 (pN + 2) (v := .int (xs.getD (pN + 2) 0)) (pc' := 206) d2_205 hk g2 (hget _ (by omega)) rfl ?_
                refine Wp.sipush (255) (pc' := 209) d2_206 rfl rfl ?_
                refine Wp.iand (pc' := 210) d2_209 rfl ?_
                refine Wp.topI (fun z => z.toInt = u (pN + 2) ∧ 0 ≤ u (pN + 2) ∧ u (pN + 2) ≤ 255) (hB (pN + 2)) (fun cb2 hcb => ?_)
                obtain ⟨q12, q22, q32⟩ := hcb
                refine Wp.istore_9 (pc' := 212) d2_210 rfl rfl ?_
                refine Wp.iload (pc' := 214) d2_212 rfl rfl ?_
                refine Wp.iload (pc' := 216) d2_214 rfl rfl ?_
                refine Wp.iconst (1) (pc' := 217) d2_216 rfl rfl ?_
                refine Wp.icmp_neI (pt := 225) (pf := 220) d2_217 (by decide) rfl (fun hc217 => ?_) (fun hc217 => absurd hc217 (by decide))
                refine Wp.sipush (128) (pc' := 228) d2_225 rfl rfl ?_
                refine Wp.icmp_lt (pt := 250) (pf := 231) d2_228 (by decide) rfl (fun hc228 => ?_) (fun hc228 => ?_)
                · try simp only [Int32.reduceToInt] at hc228
                  refine Wp.iloadN (pc' := 251) d2_250 rfl rfl ?_
                  refine Wp.ireturn rfl d2_251 ?_
                  subst hQ; refine ⟨⟨_, rfl, ?_⟩, rfl⟩
                  rw [hp]; apply hz
                  unfold own_seq; rw [if_neg (by omega), if_neg (by omega), if_neg (by omega), if_neg (by omega)]
                · try simp only [Int32.reduceToInt] at hc228
                  refine Wp.iload (pc' := 233) d2_231 rfl rfl ?_
                  refine Wp.iload (pc' := 235) d2_233 rfl rfl ?_
                  refine Wp.iconst (1) (pc' := 236) d2_235 rfl rfl ?_
                  refine Wp.icmp_neI (pt := 244) (pf := 239) d2_236 (by decide) rfl (fun hc236 => ?_) (fun hc236 => absurd hc236 (by decide))
                  refine Wp.sipush (191) (pc' := 247) d2_244 rfl rfl ?_
                  refine Wp.icmp_le (pt := 252) (pf := 250) d2_247 (by decide) rfl (fun hc247 => ?_) (fun hc247 => ?_)
                  · try simp only [Int32.reduceToInt] at hc247
                    refine Wp.iinc_8 (1) (pc' := 255) d2_252 rfl rfl ?_
                    refine Wp.goto (pc' := 193) d2_255 (by decide) ?_
                    refine Wp.iload (pc' := 195) d2_193 rfl rfl ?_
                    refine Wp.iload (pc' := 197) d2_195 rfl rfl ?_
                    refine Wp.icmp_gt (pt := 258) (pf := 200) d2_197 (by decide) rfl (fun hc197 => ?_) (fun hc197 => absurd hc197 (by decide))
                    refine Wp.iloadN (pc' := 259) d2_258 rfl rfl ?_
                    refine Wp.iload (pc' := 261) d2_259 rfl rfl ?_
                    refine Wp.iconst (1) (pc' := 262) d2_261 rfl rfl ?_
                    refine Wp.iadd (pc' := 263) d2_262 rfl ?_
                    refine Wp.iadd (pc' := 264) d2_263 rfl ?_
                    refine Wp.istoreN_3 (pc' := 265) d2_264 rfl rfl ?_
                    refine Wp.goto (pc' := 2) d2_265 (by decide) ?_
                    refine ih _ (pN + 3) _ _ _ _ _ _ rfl rfl rfl rfl rfl rfl k2 (by omega) (hs 3 ?_ (by decide))
                    unfold own_seq; rw [if_neg (by omega), if_neg (by omega), if_pos (by omega)]; rfl
                  · try simp only [Int32.reduceToInt] at hc247
                    refine Wp.iloadN (pc' := 251) d2_250 rfl rfl ?_
                    refine Wp.ireturn rfl d2_251 ?_
                    subst hQ; refine ⟨⟨_, rfl, ?_⟩, rfl⟩
                    rw [hp]; apply hz
                    unfold own_seq; rw [if_neg (by omega), if_neg (by omega), if_neg (by omega), if_neg (by omega)]
              · try simp only [Int32.reduceToInt] at hc247
                refine Wp.iloadN (pc' := 251) d2_250 rfl rfl ?_
                refine Wp.ireturn rfl d2_251 ?_
                subst hQ; refine ⟨⟨_, rfl, ?_⟩, rfl⟩
                rw [hp]; apply hz
                unfold own_seq; rw [if_neg (by omega), if_neg (by omega), if_neg (by omega), if_neg (by omega)]
          · try simp only [Int32.reduceToInt] at hc185
            refine Wp.iloadN (pc' := 189) d2_188 rfl rfl ?_
            refine Wp.ireturn rfl d2_189 ?_
            subst hQ; refine ⟨⟨_, rfl, ?_⟩, rfl⟩
            rw [hp]; apply hz
            unfold own_seq; rw [if_neg (by omega), if_neg (by omega), if_neg (by omega), if_neg (by omega)]
        have K180_3 : ∀ (c0 lo hi : Int32), 240 ≤ u pN ∧ u pN ≤ 244 → (lo.toInt = if u pN = 240 then 144 else 128) ∧ (hi.toInt = if u pN = 244 then 143 else 191) → W2 l Z a0 n0 0 0 180 [.val (.ref a), .val (.int f), .val (.int t), .val (.int p), .val (.int c0), .val (.int 3), .val (.int lo), .val (.int hi), o8, o9] [] H Q := by
          intro c0 lo hi hu hlh
          refine Wp.iloadN (pc' := 181) d2_180 rfl rfl ?_
          refine Wp.iload (pc' := 183) d2_181 rfl rfl ?_
          refine Wp.iadd (pc' := 184) d2_183 rfl ?_
          refine Wp.iloadN (pc' := 185) d2_184 rfl rfl ?_
          refine Wp.icmp_lt (pt := 190) (pf := 188) d2_185 (by decide) rfl (fun hc185 => ?_) (fun hc185 => ?_)
          · try simp only [Int32.reduceToInt] at hc185
            refine Wp.iconst (1) (pc' := 191) d2_190 rfl rfl ?_
            refine Wp.istore_8 (pc' := 193) d2_191 h8 rfl ?_
            refine Wp.iload (pc' := 195) d2_193 rfl rfl ?_
            refine Wp.iload (pc' := 197) d2_195 rfl rfl ?_
            refine Wp.icmp_gt (pt := 258) (pf := 200) d2_197 (by decide) rfl (fun hc197 => absurd hc197 (by decide)) (fun hc197 => ?_)
            refine Wp.aloadN (pc' := 201) d2_200 rfl rfl rfl ?_
            refine Wp.iloadN (pc' := 202) d2_201 rfl rfl ?_
            refine Wp.iload (pc' := 204) d2_202 rfl rfl ?_
            refine Wp.iadd (pc' := 205) d2_204 rfl ?_
            refine Wp.baload 0 (pN + 1) (v := .int (xs.getD (pN + 1) 0)) (pc' := 206) d2_205 hk g1 (hget _ (by omega)) rfl ?_
            refine Wp.sipush (255) (pc' := 209) d2_206 rfl rfl ?_
            refine Wp.iand (pc' := 210) d2_209 rfl ?_
            refine Wp.topI (fun z => z.toInt = u (pN + 1) ∧ 0 ≤ u (pN + 1) ∧ u (pN + 1) ≤ 255) (hB (pN + 1)) (fun cb1 hcb => ?_)
            obtain ⟨q11, q21, q31⟩ := hcb
            refine Wp.istore_9 (pc' := 212) d2_210 h9 rfl ?_
            refine Wp.iload (pc' := 214) d2_212 rfl rfl ?_
            refine Wp.iload (pc' := 216) d2_214 rfl rfl ?_
            refine Wp.iconst (1) (pc' := 217) d2_216 rfl rfl ?_
            refine Wp.icmp_neI (pt := 225) (pf := 220) d2_217 (by decide) rfl (fun hc217 => absurd hc217 (by decide)) (fun hc217 => ?_)
            refine Wp.iload (pc' := 222) d2_220 rfl rfl ?_
            refine Wp.goto (pc' := 228) d2_222 (by decide) ?_
            refine Wp.icmp_lt (pt := 250) (pf := 231) d2_228 (by decide) rfl (fun hc228 => ?_) (fun hc228 => ?_)
            · try simp only [Int32.reduceToInt] at hc228
              refine Wp.iloadN (pc' := 251) d2_250 rfl rfl ?_
              refine Wp.ireturn rfl d2_251 ?_
              subst hQ; refine ⟨⟨_, rfl, ?_⟩, rfl⟩
              rw [hp]; apply hz
              unfold own_seq; rw [if_neg (by omega), if_neg (by omega), if_neg (by omega), if_neg (by omega)]
            · try simp only [Int32.reduceToInt] at hc228
              refine Wp.iload (pc' := 233) d2_231 rfl rfl ?_
              refine Wp.iload (pc' := 235) d2_233 rfl rfl ?_
              refine Wp.iconst (1) (pc' := 236) d2_235 rfl rfl ?_
              refine Wp.icmp_neI (pt := 244) (pf := 239) d2_236 (by decide) rfl (fun hc236 => absurd hc236 (by decide)) (fun hc236 => ?_)
              refine Wp.iload (pc' := 241) d2_239 rfl rfl ?_
              refine Wp.goto (pc' := 247) d2_241 (by decide) ?_
              refine Wp.icmp_le (pt := 252) (pf := 250) d2_247 (by decide) rfl (fun hc247 => ?_) (fun hc247 => ?_)
              · try simp only [Int32.reduceToInt] at hc247
                refine Wp.iinc_8 (1) (pc' := 255) d2_252 rfl rfl ?_
                refine Wp.goto (pc' := 193) d2_255 (by decide) ?_
                refine Wp.iload (pc' := 195) d2_193 rfl rfl ?_
                refine Wp.iload (pc' := 197) d2_195 rfl rfl ?_
                refine Wp.icmp_gt (pt := 258) (pf := 200) d2_197 (by decide) rfl (fun hc197 => absurd hc197 (by decide)) (fun hc197 => ?_)
                refine Wp.aloadN (pc' := 201) d2_200 rfl rfl rfl ?_
                refine Wp.iloadN (pc' := 202) d2_201 rfl rfl ?_
                refine Wp.iload (pc' := 204) d2_202 rfl rfl ?_
                refine Wp.iadd (pc' := 205) d2_204 rfl ?_
                refine Wp.baload 0 (pN + 2) (v := .int (xs.getD (pN + 2) 0)) (pc' := 206) d2_205 hk g2 (hget _ (by omega)) rfl ?_
                refine Wp.sipush (255) (pc' := 209) d2_206 rfl rfl ?_
                refine Wp.iand (pc' := 210) d2_209 rfl ?_
                refine Wp.topI (fun z => z.toInt = u (pN + 2) ∧ 0 ≤ u (pN + 2) ∧ u (pN + 2) ≤ 255) (hB (pN + 2)) (fun cb2 hcb => ?_)
                obtain ⟨q12, q22, q32⟩ := hcb
                refine Wp.istore_9 (pc' := 212) d2_210 rfl rfl ?_
                refine Wp.iload (pc' := 214) d2_212 rfl rfl ?_
                refine Wp.iload (pc' := 216) d2_214 rfl rfl ?_
                refine Wp.iconst (1) (pc' := 217) d2_216 rfl rfl ?_
                refine Wp.icmp_neI (pt := 225) (pf := 220) d2_217 (by decide) rfl (fun hc217 => ?_) (fun hc217 => absurd hc217 (by decide))
                refine Wp.sipush (128) (pc' := 228) d2_225 rfl rfl ?_
                refine Wp.icmp_lt (pt := 250) (pf := 231) d2_228 (by decide) rfl (fun hc228 => ?_) (fun hc228 => ?_)
                · try simp only [Int32.reduceToInt] at hc228
                  refine Wp.iloadN (pc' := 251) d2_250 rfl rfl ?_
                  refine Wp.ireturn rfl d2_251 ?_
                  subst hQ; refine ⟨⟨_, rfl, ?_⟩, rfl⟩
                  rw [hp]; apply hz
                  unfold own_seq; rw [if_neg (by omega), if_neg (by omega), if_neg (by omega), if_neg (by omega)]
                · try simp only [Int32.reduceToInt] at hc228
                  refine Wp.iload (pc' := 233) d2_231 rfl rfl ?_
                  refine Wp.iload (pc' := 235) d2_233 rfl rfl ?_
                  refine Wp.iconst (1) (pc' := 236) d2_235 rfl rfl ?_
                  refine Wp.icmp_neI (pt := 244) (pf := 239) d2_236 (by decide) rfl (fun hc236 => ?_) (fun hc236 => absurd hc236 (by decide))
                  refine Wp.sipush (191) (pc' := 247) d2_244 rfl rfl ?_
                  refine Wp.icmp_le (pt := 252) (pf := 250) d2_247 (by decide) rfl (fun hc247 => ?_) (fun hc247 => ?_)
                  · try simp only [Int32.reduceToInt] at hc247
                    refine Wp.iinc_8 (1) (pc' := 255) d2_252 rfl rfl ?_
                    refine Wp.goto (pc' := 193) d2_255 (by decide) ?_
                    refine Wp.iload (pc' := 195) d2_193 rfl rfl ?_
                    refine Wp.iload (pc' := 197) d2_195 rfl rfl ?_
                    refine Wp.icmp_gt (pt := 258) (pf := 200) d2_197 (by decide) rfl (fun hc197 => absurd hc197 (by decide)) (fun hc197 => ?_)
                    refine Wp.aloadN (pc' := 201) d2_200 rfl rfl rfl ?_
                    refine Wp.iloadN (pc' := 202) d2_201 rfl rfl ?_
                    refine Wp.iload (pc' := 204) d2_202 rfl rfl ?_
                    refine Wp.iadd (pc' := 205) d2_204 rfl ?_
                    refine Wp.baload 0 (pN + 3) (v := .int (xs.getD (pN + 3) 0)) (pc' := 206) d2_205 hk g3 (hget _ (by omega)) rfl ?_
                    refine Wp.sipush (255) (pc' := 209) d2_206 rfl rfl ?_
                    refine Wp.iand (pc' := 210) d2_209 rfl ?_
                    refine Wp.topI (fun z => z.toInt = u (pN + 3) ∧ 0 ≤ u (pN + 3) ∧ u (pN + 3) ≤ 255) (hB (pN + 3)) (fun cb3 hcb => ?_)
                    obtain ⟨q13, q23, q33⟩ := hcb
                    refine Wp.istore_9 (pc' := 212) d2_210 rfl rfl ?_
                    refine Wp.iload (pc' := 214) d2_212 rfl rfl ?_
                    refine Wp.iload (pc' := 216) d2_214 rfl rfl ?_
                    refine Wp.iconst (1) (pc' := 217) d2_216 rfl rfl ?_
                    refine Wp.icmp_neI (pt := 225) (pf := 220) d2_217 (by decide) rfl (fun hc217 => ?_) (fun hc217 => absurd hc217 (by decide))
                    refine Wp.sipush (128) (pc' := 228) d2_225 rfl rfl ?_
                    refine Wp.icmp_lt (pt := 250) (pf := 231) d2_228 (by decide) rfl (fun hc228 => ?_) (fun hc228 => ?_)
                    · try simp only [Int32.reduceToInt] at hc228
                      refine Wp.iloadN (pc' := 251) d2_250 rfl rfl ?_
                      refine Wp.ireturn rfl d2_251 ?_
                      subst hQ; refine ⟨⟨_, rfl, ?_⟩, rfl⟩
                      rw [hp]; apply hz
                      unfold own_seq; rw [if_neg (by omega), if_neg (by omega), if_neg (by omega), if_neg (by omega)]
                    · try simp only [Int32.reduceToInt] at hc228
                      refine Wp.iload (pc' := 233) d2_231 rfl rfl ?_
                      refine Wp.iload (pc' := 235) d2_233 rfl rfl ?_
                      refine Wp.iconst (1) (pc' := 236) d2_235 rfl rfl ?_
                      refine Wp.icmp_neI (pt := 244) (pf := 239) d2_236 (by decide) rfl (fun hc236 => ?_) (fun hc236 => absurd hc236 (by decide))
                      refine Wp.sipush (191) (pc' := 247) d2_244 rfl rfl ?_
                      refine Wp.icmp_le (pt := 252) (pf := 250) d2_247 (by decide) rfl (fun hc247 => ?_) (fun hc247 => ?_)
                      · try simp only [Int32.reduceToInt] at hc247
                        refine Wp.iinc_8 (1) (pc' := 255) d2_252 rfl rfl ?_
                        refine Wp.goto (pc' := 193) d2_255 (by decide) ?_
                        refine Wp.iload (pc' := 195) d2_193 rfl rfl ?_
                        refine Wp.iload (pc' := 197) d2_195 rfl rfl ?_
                        refine Wp.icmp_gt (pt := 258) (pf := 200) d2_197 (by decide) rfl (fun hc197 => ?_) (fun hc197 => absurd hc197 (by decide))
                        refine Wp.iloadN (pc' := 259) d2_258 rfl rfl ?_
                        refine Wp.iload (pc' := 261) d2_259 rfl rfl ?_
                        refine Wp.iconst (1) (pc' := 262) d2_261 rfl rfl ?_
                        refine Wp.iadd (pc' := 263) d2_262 rfl ?_
                        refine Wp.iadd (pc' := 264) d2_263 rfl ?_
                        refine Wp.istoreN_3 (pc' := 265) d2_264 rfl rfl ?_
                        refine Wp.goto (pc' := 2) d2_265 (by decide) ?_
                        refine ih _ (pN + 4) _ _ _ _ _ _ rfl rfl rfl rfl rfl rfl k3 (by omega) (hs 4 ?_ (by decide))
                        unfold own_seq; rw [if_neg (by omega), if_neg (by omega), if_neg (by omega), if_pos (by omega)]; rfl
                      · try simp only [Int32.reduceToInt] at hc247
                        refine Wp.iloadN (pc' := 251) d2_250 rfl rfl ?_
                        refine Wp.ireturn rfl d2_251 ?_
                        subst hQ; refine ⟨⟨_, rfl, ?_⟩, rfl⟩
                        rw [hp]; apply hz
                        unfold own_seq; rw [if_neg (by omega), if_neg (by omega), if_neg (by omega), if_neg (by omega)]
                  · try simp only [Int32.reduceToInt] at hc247
                    refine Wp.iloadN (pc' := 251) d2_250 rfl rfl ?_
                    refine Wp.ireturn rfl d2_251 ?_
                    subst hQ; refine ⟨⟨_, rfl, ?_⟩, rfl⟩
                    rw [hp]; apply hz
                    unfold own_seq; rw [if_neg (by omega), if_neg (by omega), if_neg (by omega), if_neg (by omega)]
              · try simp only [Int32.reduceToInt] at hc247
                refine Wp.iloadN (pc' := 251) d2_250 rfl rfl ?_
                refine Wp.ireturn rfl d2_251 ?_
                subst hQ; refine ⟨⟨_, rfl, ?_⟩, rfl⟩
                rw [hp]; apply hz
                unfold own_seq; rw [if_neg (by omega), if_neg (by omega), if_neg (by omega), if_neg (by omega)]
          · try simp only [Int32.reduceToInt] at hc185
            refine Wp.iloadN (pc' := 189) d2_188 rfl rfl ?_
            refine Wp.ireturn rfl d2_189 ?_
            subst hQ; refine ⟨⟨_, rfl, ?_⟩, rfl⟩
            rw [hp]; apply hz
            unfold own_seq; rw [if_neg (by omega), if_neg (by omega), if_neg (by omega), if_neg (by omega)]
        have K120 : ∀ c0 : Int32, c0.toInt = u pN → 128 ≤ u pN ∧ (u pN < 194 ∨ 239 < u pN ∨ (223 < u pN ∧ u pN < 224)) → W2 l Z a0 n0 0 0 120 [.val (.ref a), .val (.int f), .val (.int t), .val (.int p), .val (.int c0), o5, .val (.int 128), .val (.int 191), o8, o9] [] H Q := by
          intro c0 a1 hu
          refine Wp.iload (pc' := 122) d2_120 rfl rfl ?_
          refine Wp.sipush (240) (pc' := 125) d2_122 rfl rfl ?_
          refine Wp.icmp_lt (pt := 178) (pf := 128) d2_125 (by decide) rfl (fun hc125 => ?_) (fun hc125 => ?_)
          · try simp only [Int32.reduceToInt] at hc125
            refine Wp.iloadN (pc' := 179) d2_178 rfl rfl ?_
            refine Wp.ireturn rfl d2_179 ?_
            subst hQ; refine ⟨⟨_, rfl, ?_⟩, rfl⟩
            rw [hp]; apply hz
            unfold own_seq; rw [if_neg (by omega), if_neg (by omega), if_neg (by omega), if_neg (by omega)]
          · try simp only [Int32.reduceToInt] at hc125
            refine Wp.iload (pc' := 130) d2_128 rfl rfl ?_
            refine Wp.sipush (244) (pc' := 133) d2_130 rfl rfl ?_
            refine Wp.icmp_gt (pt := 178) (pf := 136) d2_133 (by decide) rfl (fun hc133 => ?_) (fun hc133 => ?_)
            · try simp only [Int32.reduceToInt] at hc133
              refine Wp.iloadN (pc' := 179) d2_178 rfl rfl ?_
              refine Wp.ireturn rfl d2_179 ?_
              subst hQ; refine ⟨⟨_, rfl, ?_⟩, rfl⟩
              rw [hp]; apply hz
              unfold own_seq; rw [if_neg (by omega), if_neg (by omega), if_neg (by omega), if_neg (by omega)]
            · try simp only [Int32.reduceToInt] at hc133
              refine Wp.iconst (3) (pc' := 137) d2_136 rfl rfl ?_
              refine Wp.istore_5 (pc' := 139) d2_137 h5 rfl ?_
              refine Wp.iload (pc' := 141) d2_139 rfl rfl ?_
              refine Wp.sipush (240) (pc' := 144) d2_141 rfl rfl ?_
              refine Wp.icmp_neI (pt := 153) (pf := 147) d2_144 (by decide) rfl (fun hc144 => ?_) (fun hc144 => ?_)
              · try simp only [Int32.reduceToInt] at hc144
                refine Wp.iload (pc' := 155) d2_153 rfl rfl ?_
                refine Wp.istore_6 (pc' := 157) d2_155 rfl rfl ?_
                refine Wp.iload (pc' := 159) d2_157 rfl rfl ?_
                refine Wp.sipush (244) (pc' := 162) d2_159 rfl rfl ?_
                refine Wp.icmp_neI (pt := 171) (pf := 165) d2_162 (by decide) rfl (fun hc162 => ?_) (fun hc162 => ?_)
                · try simp only [Int32.reduceToInt] at hc162
                  refine Wp.iload (pc' := 173) d2_171 rfl rfl ?_
                  refine Wp.istore_7 (pc' := 175) d2_173 rfl rfl ?_
                  refine Wp.goto (pc' := 180) d2_175 (by decide) ?_
                  exact K180_3 _ _ _ (by omega) (by simp only [Int32.reduceToInt]; constructor <;> split <;> omega)
                · try simp only [Int32.reduceToInt] at hc162
                  refine Wp.sipush (143) (pc' := 168) d2_165 rfl rfl ?_
                  refine Wp.goto (pc' := 173) d2_168 (by decide) ?_
                  refine Wp.istore_7 (pc' := 175) d2_173 rfl rfl ?_
                  refine Wp.goto (pc' := 180) d2_175 (by decide) ?_
                  exact K180_3 _ _ _ (by omega) (by simp only [Int32.reduceToInt]; constructor <;> split <;> omega)
              · try simp only [Int32.reduceToInt] at hc144
                refine Wp.sipush (144) (pc' := 150) d2_147 rfl rfl ?_
                refine Wp.goto (pc' := 155) d2_150 (by decide) ?_
                refine Wp.istore_6 (pc' := 157) d2_155 rfl rfl ?_
                refine Wp.iload (pc' := 159) d2_157 rfl rfl ?_
                refine Wp.sipush (244) (pc' := 162) d2_159 rfl rfl ?_
                refine Wp.icmp_neI (pt := 171) (pf := 165) d2_162 (by decide) rfl (fun hc162 => ?_) (fun hc162 => ?_)
                · try simp only [Int32.reduceToInt] at hc162
                  refine Wp.iload (pc' := 173) d2_171 rfl rfl ?_
                  refine Wp.istore_7 (pc' := 175) d2_173 rfl rfl ?_
                  refine Wp.goto (pc' := 180) d2_175 (by decide) ?_
                  exact K180_3 _ _ _ (by omega) (by simp only [Int32.reduceToInt]; constructor <;> split <;> omega)
                · try simp only [Int32.reduceToInt] at hc162
                  refine Wp.sipush (143) (pc' := 168) d2_165 rfl rfl ?_
                  refine Wp.goto (pc' := 173) d2_168 (by decide) ?_
                  refine Wp.istore_7 (pc' := 175) d2_173 rfl rfl ?_
                  refine Wp.goto (pc' := 180) d2_175 (by decide) ?_
                  exact K180_3 _ _ _ (by omega) (by simp only [Int32.reduceToInt]; constructor <;> split <;> omega)
        have K62 : ∀ c0 : Int32, c0.toInt = u pN → 128 ≤ u pN ∧ (u pN < 194 ∨ 223 < u pN) → W2 l Z a0 n0 0 0 62 [.val (.ref a), .val (.int f), .val (.int t), .val (.int p), .val (.int c0), o5, .val (.int 128), .val (.int 191), o8, o9] [] H Q := by
          intro c0 a1 hu
          refine Wp.iload (pc' := 64) d2_62 rfl rfl ?_
          refine Wp.sipush (224) (pc' := 67) d2_64 rfl rfl ?_
          refine Wp.icmp_lt (pt := 120) (pf := 70) d2_67 (by decide) rfl (fun hc67 => ?_) (fun hc67 => ?_)
          · try simp only [Int32.reduceToInt] at hc67
            exact K120 _ a1 (by omega)
          · try simp only [Int32.reduceToInt] at hc67
            refine Wp.iload (pc' := 72) d2_70 rfl rfl ?_
            refine Wp.sipush (239) (pc' := 75) d2_72 rfl rfl ?_
            refine Wp.icmp_gt (pt := 120) (pf := 78) d2_75 (by decide) rfl (fun hc75 => ?_) (fun hc75 => ?_)
            · try simp only [Int32.reduceToInt] at hc75
              exact K120 _ a1 (by omega)
            · try simp only [Int32.reduceToInt] at hc75
              refine Wp.iconst (2) (pc' := 79) d2_78 rfl rfl ?_
              refine Wp.istore_5 (pc' := 81) d2_79 h5 rfl ?_
              refine Wp.iload (pc' := 83) d2_81 rfl rfl ?_
              refine Wp.sipush (224) (pc' := 86) d2_83 rfl rfl ?_
              refine Wp.icmp_neI (pt := 95) (pf := 89) d2_86 (by decide) rfl (fun hc86 => ?_) (fun hc86 => ?_)
              · try simp only [Int32.reduceToInt] at hc86
                refine Wp.iload (pc' := 97) d2_95 rfl rfl ?_
                refine Wp.istore_6 (pc' := 99) d2_97 rfl rfl ?_
                refine Wp.iload (pc' := 101) d2_99 rfl rfl ?_
                refine Wp.sipush (237) (pc' := 104) d2_101 rfl rfl ?_
                refine Wp.icmp_neI (pt := 113) (pf := 107) d2_104 (by decide) rfl (fun hc104 => ?_) (fun hc104 => ?_)
                · try simp only [Int32.reduceToInt] at hc104
                  refine Wp.iload (pc' := 115) d2_113 rfl rfl ?_
                  refine Wp.istore_7 (pc' := 117) d2_115 rfl rfl ?_
                  refine Wp.goto (pc' := 180) d2_117 (by decide) ?_
                  exact K180_2 _ _ _ (by omega) (by simp only [Int32.reduceToInt]; constructor <;> split <;> omega)
                · try simp only [Int32.reduceToInt] at hc104
                  refine Wp.sipush (159) (pc' := 110) d2_107 rfl rfl ?_
                  refine Wp.goto (pc' := 115) d2_110 (by decide) ?_
                  refine Wp.istore_7 (pc' := 117) d2_115 rfl rfl ?_
                  refine Wp.goto (pc' := 180) d2_117 (by decide) ?_
                  exact K180_2 _ _ _ (by omega) (by simp only [Int32.reduceToInt]; constructor <;> split <;> omega)
              · try simp only [Int32.reduceToInt] at hc86
                refine Wp.sipush (160) (pc' := 92) d2_89 rfl rfl ?_
                refine Wp.goto (pc' := 97) d2_92 (by decide) ?_
                refine Wp.istore_6 (pc' := 99) d2_97 rfl rfl ?_
                refine Wp.iload (pc' := 101) d2_99 rfl rfl ?_
                refine Wp.sipush (237) (pc' := 104) d2_101 rfl rfl ?_
                refine Wp.icmp_neI (pt := 113) (pf := 107) d2_104 (by decide) rfl (fun hc104 => ?_) (fun hc104 => ?_)
                · try simp only [Int32.reduceToInt] at hc104
                  refine Wp.iload (pc' := 115) d2_113 rfl rfl ?_
                  refine Wp.istore_7 (pc' := 117) d2_115 rfl rfl ?_
                  refine Wp.goto (pc' := 180) d2_117 (by decide) ?_
                  exact K180_2 _ _ _ (by omega) (by simp only [Int32.reduceToInt]; constructor <;> split <;> omega)
                · try simp only [Int32.reduceToInt] at hc104
                  refine Wp.sipush (159) (pc' := 110) d2_107 rfl rfl ?_
                  refine Wp.goto (pc' := 115) d2_110 (by decide) ?_
                  refine Wp.istore_7 (pc' := 117) d2_115 rfl rfl ?_
                  refine Wp.goto (pc' := 180) d2_117 (by decide) ?_
                  exact K180_2 _ _ _ (by omega) (by simp only [Int32.reduceToInt]; constructor <;> split <;> omega)
        refine Wp.aloadN (pc' := 8) d2_7 rfl rfl rfl ?_
        refine Wp.iloadN (pc' := 9) d2_8 rfl rfl ?_
        refine Wp.baload 0 pN (v := .int (xs.getD pN 0)) (pc' := 10) d2_9 hk hp (hget _ (by omega)) rfl ?_
        refine Wp.sipush (255) (pc' := 13) d2_10 rfl rfl ?_
        refine Wp.iand (pc' := 14) d2_13 rfl ?_
        refine Wp.topI (fun z => z.toInt = u pN ∧ 0 ≤ u pN ∧ u pN ≤ 255) (hB pN) (fun c0 hc0 => ?_)
        obtain ⟨a1, a2, a3⟩ := hc0
        refine Wp.istore_4 (pc' := 16) d2_14 h4 rfl ?_
        refine Wp.sipush (128) (pc' := 19) d2_16 rfl rfl ?_
        refine Wp.istore_6 (pc' := 21) d2_19 h6 rfl ?_
        refine Wp.sipush (191) (pc' := 24) d2_21 rfl rfl ?_
        refine Wp.istore_7 (pc' := 26) d2_24 h7 rfl ?_
        refine Wp.iload (pc' := 28) d2_26 rfl rfl ?_
        refine Wp.sipush (128) (pc' := 31) d2_28 rfl rfl ?_
        refine Wp.icmp_ge (pt := 40) (pf := 34) d2_31 (by decide) rfl (fun hc31 => ?_) (fun hc31 => ?_)
        · try simp only [Int32.reduceToInt] at hc31
          refine Wp.iload (pc' := 42) d2_40 rfl rfl ?_
          refine Wp.sipush (194) (pc' := 45) d2_42 rfl rfl ?_
          refine Wp.icmp_lt (pt := 62) (pf := 48) d2_45 (by decide) rfl (fun hc45 => ?_) (fun hc45 => ?_)
          · try simp only [Int32.reduceToInt] at hc45
            exact K62 _ a1 (by omega)
          · try simp only [Int32.reduceToInt] at hc45
            refine Wp.iload (pc' := 50) d2_48 rfl rfl ?_
            refine Wp.sipush (223) (pc' := 53) d2_50 rfl rfl ?_
            refine Wp.icmp_gt (pt := 62) (pf := 56) d2_53 (by decide) rfl (fun hc53 => ?_) (fun hc53 => ?_)
            · try simp only [Int32.reduceToInt] at hc53
              exact K62 _ a1 (by omega)
            · try simp only [Int32.reduceToInt] at hc53
              refine Wp.iconst (1) (pc' := 57) d2_56 rfl rfl ?_
              refine Wp.istore_5 (pc' := 59) d2_57 h5 rfl ?_
              refine Wp.goto (pc' := 180) d2_59 (by decide) ?_
              exact K180_1 _ _ _ (by omega) ⟨rfl, rfl⟩
        · try simp only [Int32.reduceToInt] at hc31
          refine Wp.iconst (0) (pc' := 35) d2_34 rfl rfl ?_
          refine Wp.istore_5 (pc' := 37) d2_35 h5 rfl ?_
          refine Wp.goto (pc' := 180) d2_37 (by decide) ?_
          exact K180_0 _ _ _ (by omega) trivial
      refine Wp.iloadN (pc' := 3) d2_2 rfl rfl ?_
      refine Wp.iloadN (pc' := 4) d2_3 rfl rfl ?_
      refine Wp.icmp_ge (pt := 268) (pf := 7) d2_4 (by decide) rfl (fun hc4 => ?_) (fun hc4 => ?_)
      · refine Wp.iconst (-1) (pc' := 269) d2_268 rfl rfl ?_
        refine Wp.ireturn rfl d2_269 ?_
        subst hQ; rw [if_pos (by omega)] at hr; exact ⟨⟨_, rfl, hr⟩, rfl⟩
      · exact K7 (by omega)
  refine Wp.iloadN (pc' := 1) d2_0 rfl rfl ?_
  refine Wp.istoreN_3 (pc' := 2) d2_1 rfl rfl ?_
  exact K 5 _ fN _ _ _ _ _ _ rfl rfl rfl rfl rfl rfl hf (by omega) hR
theorem law_con (l : Launch) (Z : State) (a0 : Array Value) (n0 : Nat) (hw : Hw Z a0) (w v ft : Int32) :
    C0 l Z a0 n0 #[.int w, .int v, .int ft] [] (fun r _ => r = some (.int 1)) := by
  refine Wp.Con.intro pn0 (fun m => ef0 m w v ft) ?_
  have hd : ∀ s : Int32, ∃ k : Nat, ((s &&& 255) % 6).toInt = (k : Int) ∧ k ≤ 5 := by
    intro s
    have h1 : (s &&& 255).toInt = s.toInt % (2 ^ 8 : Nat) := c_mask s 255 8 (by decide) (by decide)
    have h2 := (c_irem (s &&& 255) 6 6 (by decide)).1 (by omega)
    exact ⟨((s &&& 255) % 6).toInt.toNat, by omega, by omega⟩
  obtain ⟨fN, hf, hf5⟩ := hd ft
  obtain ⟨tN, ht, ht5⟩ := hd (ft.toUInt32 >>> ((8 : Int32) &&& 31).toUInt32).toInt32
  have main : ∀ (xs : List Int32) (f t : Int32) (a : Addr), xs.length = 5 → f.toInt = (fN : Int) → t.toInt = (tN : Int) →
      W0 l Z a0 n0 1 5 61 [.val (.int w), .val (.int v), .val (.int ft), .val (.ref a), .val (.int f), .val (.int t), .unset, .unset] [] [(a, .inl (.byte, xs.map Value.int))] (fun r _ => r = some (.int 1)) := by
    intro xs f t a hx hf ht
    refine Wp.aloadN (pc' := 62) at_61 rfl rfl rfl ?_
    refine Wp.iload (pc' := 64) at_62 rfl rfl ?_
    refine Wp.iload (pc' := 66) at_64 rfl rfl ?_
    refine Wp.callS_3 0 (pc' := 69) (cells' := 1) (slots' := 5)  (rm := rm1) (w1 hw) (w2 hw) (w3 hw) (w4 hw) (by decide) pd0 rfl at_66 rfl rfl (by decide) (by decide) (by decide) (by decide) rfl rfl rfl ?_
    refine (con1 hw xs hx a f t fN tN hf ht hf5 ht5 _ rfl).mono ?_
    rintro _ _ ⟨⟨r1, rfl, e1⟩, rfl⟩
    refine Wp.afterS ?_
    refine Wp.istore_6 (pc' := 71) at_69 rfl rfl ?_
    refine Wp.aloadN (pc' := 72) at_71 rfl rfl rfl ?_
    refine Wp.iload (pc' := 74) at_72 rfl rfl ?_
    refine Wp.iload (pc' := 76) at_74 rfl rfl ?_
    refine Wp.callS_3 0 (pc' := 79) (cells' := 1) (slots' := 5)  (rm := rm2) (w5 hw) (w6 hw) (w7 hw) (w8 hw) (by decide) pd0 rfl at_76 rfl rfl (by decide) (by decide) (by decide) (by decide) rfl rfl rfl ?_
    refine (con2 hw xs hx a f t fN tN hf ht hf5 ht5 _ rfl).mono ?_
    rintro _ _ ⟨⟨r2, rfl, e2⟩, rfl⟩
    refine Wp.afterS ?_
    refine Wp.istore_7 (pc' := 81) at_79 rfl rfl ?_
    refine Wp.iload (pc' := 83) at_81 rfl rfl ?_
    refine Wp.iload (pc' := 85) at_83 rfl rfl ?_
    refine Wp.icmp_ne (pt := 92) (pf := 88) at_85 (by decide) rfl (fun hc85 => ?_) (fun hc85 => ?_)
    · exact absurd (Int32.toInt_inj.mp (e2.trans e1.symm)) hc85
    · refine Wp.iconst (1) (pc' := 89) at_88 rfl rfl ?_
      refine Wp.goto (pc' := 93) at_89 (by decide) ?_
      refine Wp.zreturn rfl at_93 ?_
      rfl
  refine Wp.iconst (5) (pc' := 1) at_0 rfl rfl ?_
  refine Wp.newarray 5 5 [.int 0, .int 0, .int 0, .int 0, .int 0] (pc' := 3) (cells' := 1) (slots' := 5) (ty := .byte) (w0 hw) at_1 rfl (by decide) (by decide) (by decide) (by decide) rfl rfl rfl rfl rfl (fun a1 => ?_)
  refine Wp.astoreN_3 (pc' := 4) at_3 rfl rfl rfl rfl ?_
  refine Wp.aloadN (pc' := 5) at_4 rfl rfl rfl ?_
  refine Wp.iconst (0) (pc' := 6) at_5 rfl rfl ?_
  refine Wp.iloadN (pc' := 7) at_6 rfl rfl ?_
  refine Wp.i2b (pc' := 8) at_7 rfl ?_
  first | (refine Wp.bastore_0 0 (pc' := 9) at_8 rfl (by simp) rfl ?_) | (refine Wp.bastoreZ_0 0 (pc' := 9) at_8 rfl (by simp) rfl ?_)
  try simp only [List.set_cons_zero, List.set_cons_succ]
  refine Wp.aloadN (pc' := 10) at_9 rfl rfl rfl ?_
  refine Wp.iconst (1) (pc' := 11) at_10 rfl rfl ?_
  refine Wp.iloadN (pc' := 12) at_11 rfl rfl ?_
  refine Wp.bipush (8) (pc' := 14) at_12 rfl rfl ?_
  refine Wp.ishr (pc' := 15) at_14 rfl ?_
  refine Wp.i2b (pc' := 16) at_15 rfl ?_
  first | (refine Wp.bastore_0 1 (pc' := 17) at_16 rfl (by simp) rfl ?_) | (refine Wp.bastoreZ_0 1 (pc' := 17) at_16 rfl (by simp) rfl ?_)
  try simp only [List.set_cons_zero, List.set_cons_succ]
  refine Wp.aloadN (pc' := 18) at_17 rfl rfl rfl ?_
  refine Wp.iconst (2) (pc' := 19) at_18 rfl rfl ?_
  refine Wp.iloadN (pc' := 20) at_19 rfl rfl ?_
  refine Wp.bipush (16) (pc' := 22) at_20 rfl rfl ?_
  refine Wp.ishr (pc' := 23) at_22 rfl ?_
  refine Wp.i2b (pc' := 24) at_23 rfl ?_
  first | (refine Wp.bastore_0 2 (pc' := 25) at_24 rfl (by simp) rfl ?_) | (refine Wp.bastoreZ_0 2 (pc' := 25) at_24 rfl (by simp) rfl ?_)
  try simp only [List.set_cons_zero, List.set_cons_succ]
  refine Wp.aloadN (pc' := 26) at_25 rfl rfl rfl ?_
  refine Wp.iconst (3) (pc' := 27) at_26 rfl rfl ?_
  refine Wp.iloadN (pc' := 28) at_27 rfl rfl ?_
  refine Wp.bipush (24) (pc' := 30) at_28 rfl rfl ?_
  refine Wp.iushr (pc' := 31) at_30 rfl ?_
  refine Wp.i2b (pc' := 32) at_31 rfl ?_
  first | (refine Wp.bastore_0 3 (pc' := 33) at_32 rfl (by simp) rfl ?_) | (refine Wp.bastoreZ_0 3 (pc' := 33) at_32 rfl (by simp) rfl ?_)
  try simp only [List.set_cons_zero, List.set_cons_succ]
  refine Wp.aloadN (pc' := 34) at_33 rfl rfl rfl ?_
  refine Wp.iconst (4) (pc' := 35) at_34 rfl rfl ?_
  refine Wp.iloadN (pc' := 36) at_35 rfl rfl ?_
  refine Wp.i2b (pc' := 37) at_36 rfl ?_
  first | (refine Wp.bastore_0 4 (pc' := 38) at_37 rfl (by simp) rfl ?_) | (refine Wp.bastoreZ_0 4 (pc' := 38) at_37 rfl (by simp) rfl ?_)
  try simp only [List.set_cons_zero, List.set_cons_succ]
  refine Wp.iloadN (pc' := 39) at_38 rfl rfl ?_
  refine Wp.sipush (255) (pc' := 42) at_39 rfl rfl ?_
  refine Wp.iand (pc' := 43) at_42 rfl ?_
  refine Wp.bipush (6) (pc' := 45) at_43 rfl rfl ?_
  refine Wp.irem (pc' := 46) at_45 (by decide) rfl ?_
  refine Wp.istore_4 (pc' := 48) at_46 rfl rfl ?_
  refine Wp.iloadN (pc' := 49) at_48 rfl rfl ?_
  refine Wp.bipush (8) (pc' := 51) at_49 rfl rfl ?_
  refine Wp.iushr (pc' := 52) at_51 rfl ?_
  refine Wp.sipush (255) (pc' := 55) at_52 rfl rfl ?_
  refine Wp.iand (pc' := 56) at_55 rfl ?_
  refine Wp.bipush (6) (pc' := 58) at_56 rfl rfl ?_
  refine Wp.irem (pc' := 59) at_58 (by decide) rfl ?_
  refine Wp.istore_5 (pc' := 61) at_59 rfl rfl ?_
  exact main [_, _, _, _, _] _ _ _ rfl hf ht
set_option maxRecDepth 65536 in
theorem comes_1 {Post : Tables → Env → Array Value → State → Outcome → State → Prop} (hpost : ∀ tb e args s v u, (limb_1_1.after args s (.returned v) u = true ∧ limb_1_2.after args s (.returned v) u = true ∧ True) → FrameEnd s (.returned v) u (Jvm.fieldLocs frame_1_writes args s ++ Jvm.arrayLocs frame_1_arrays args s ++ Jvm.staticLocs frame_1_statics s) room_1.cells room_1.slots → Post tb e args s (.returned v) u) :
    ArmFor flags0 classFile x code maxLocals ret World_1 tables_1 room_1 Calls_1 rest_1 Pre_1 Post := by
  intro l hfl _ _ p e ha hc hk s m args below hf hA hF happ hP
  obtain ⟨hcalls, hrest, hpre⟩ := hP
  obtain ⟨-, -, -, hnamed, -, -, -, hat⟩ := (Spec.applies_iff hf).mp happ
  obtain ⟨hg, hn⟩ := and_e (Cond.before_iff.mp (show (Jvm.Cond.and given_1 narrow_1).before args s = true from hpre))
  obtain ⟨hcnt, g0⟩ := and_e hg
  obtain ⟨y0, y1, y2, rfl⟩ : ∃ y0 y1 y2 : Value, args = #[y0, y1, y2] := by
    have hs : args.size = 3 := by simpa [Cond.value, given_1] using hcnt
    obtain ⟨L⟩ := args
    match L, hs with
    | [y0, y1, y2], _ => exact ⟨y0, y1, y2, rfl⟩
  have hw := fun d (hd : d ∈ tables_1) => atoms_spec (ws := Jvm.Cond.code x code maxLocals ret :: tables_1) hat d (List.mem_cons_of_mem _ hd)
  obtain ⟨g0a, g1⟩ := and_e g0
  obtain ⟨i0, e0⟩ := is_v g0a
  obtain rfl : y0 = .int i0 := Option.some.inj e0
  obtain ⟨g1a, g2⟩ := and_e g1
  obtain ⟨i1, e1⟩ := is_v g1a
  obtain rfl : y1 = .int i1 := Option.some.inj e1
  obtain ⟨i2, e2⟩ := is_v g2
  obtain rfl : y2 = .int i2 := Option.some.inj e2
  obtain ⟨n, o, h1, h2, h3, v, L, rfl, ⟨N, H', hR', rfl⟩, hq⟩ := law_con l s _ s.heap.size hw i0 i1 i2 tables_1 s.heap ⟨Nat.le_refl _, List.nodup_nil, fun _ q => nomatch q⟩ p e ha hc hk s m _ below hf ((Spec.applies_iff_loose hf).mp happ).1 ⟨rfl, State.Warmed39.refl s, rfl⟩ trivial
  refine ⟨n, _, h1, h2, h3, hpost _ _ _ _ _ _ ⟨Cond.after_iff.mpr rfl, Cond.after_iff.mpr (eq_i res_at (Term.int_eval (1)) rfl), trivial⟩ ⟨hq.1, hq.2.1, (hq.2.2.sift fun y hy => Or.inr (N y hy)).mono (by decide) (by decide)⟩⟩
theorem main_1_1 : Claimed_1_1 := comes_1 fun _ _ _ _ _ _ h hF => ⟨h.1, hF⟩
theorem main_1_2 : Claimed_1_2 := comes_1 fun _ _ _ _ _ _ h hF => ⟨h.2.1, hF⟩
end Jvm.Pilot.@@N@@
namespace Jvm.Pilot.@@N@@
open Jvm Jvm.ClassFile Sem Op Lib Jvm.Free Jvm.Stand Jvm.Pilot.@@N@@.Jvm.D
/-! MADE BY PROGRAM (witnessworld.py) out of the Statement's table words and the real class files: 9 classes; the members and pool entries that the words name. The judged class is class 1, her method 1. -/
namespace start1
open Jvm.ClassFile
def u (s : String) : CpInfo := .utf8 (stringToUtf16 s)
/-- a pool by its gaps: so many unusable entries, then the entry; so many at the end -/
def gap : Nat → List CpInfo → List CpInfo
  | 0, r => r
  | n + 1, r => .unusable :: gap n r
def poolList (es : List (Nat × CpInfo)) (last : Nat) : List CpInfo := es.foldr (fun e r => gap e.1 (e.2 :: r)) (gap last [])
def pool (es : List (Nat × CpInfo)) (last : Nat) : Array CpInfo := ⟨poolList es last⟩
def fileOf (pool : Array CpInfo) (this : Nat) (attrs : Array Attribute := #[]) (ms : Array MethodInfo := #[]) (fl : Nat := 33) (sup : Nat := 0) (ifs : Array Nat := #[]) (fds : Array FieldInfo := #[]) : ClassFile where
  minorVersion := 0
  majorVersion := 65
  constantPool := pool
  accessFlags := fl
  thisClass := this
  superClass := sup
  interfaces := ifs
  fields := fds
  methods := ms
  attributes := attrs
def plain (name : String) (sup : Option ClassId) : Class where
  name := name
  kind := .ordinary
  loader := none
  accessFlags := 33
  super := sup
  interfaces := #[]
  cf := none
  fields := #[]
  methods := #[]
  instanceTypes := #[]
  staticTypes := #[]
  resolved := #[]
  callSites := []
  init := .initialized
  statics := none
  mirror := none

def pool0 : Array CpInfo := pool [(5, u "<init>"), (0, u "()V"), (1, .class_ 10), (1, u "java/lang/Object")] 113

def k0m0 : Method := { name := "<init>", desc := "()V", sig := { parameters := [], returnType := none }, accessFlags := 1, code := none }
/-- java/lang/Object -/
def k0 : Class := { plain "java/lang/Object" none with
  accessFlags := 33
  interfaces := #[]
  cf := some (fileOf pool0 8 #[] #[{ accessFlags := 1, nameIndex := 5, descriptorIndex := 6, attributes := #[] }] 33 0 #[] #[])
  fields := #[]
  methods := #[k0m0]
  instanceTypes := #[]
  staticTypes := #[]
  resolved := Array.replicate 124 none
  statics := none }

def pool1 : Array CpInfo := pool [(2, .class_ 4), (1, u "java/lang/Object"), (0, u "<init>"), (0, u "()V"), (0, .methodref 8 9), (0, .class_ 10), (0, .nameAndType 11 12), (0, u "com/example/tick6/tick6/csv/Utf8MalformedAtPinLaw"), (0, u "ref"), (0, u "([BII)I"), (0, .methodref 14 15), (0, .class_ 16), (0, .nameAndType 17 12), (0, u "com/example/tick6/tick6/csv/Utf8"), (0, u "malformedAt"), (0, .methodref 8 19), (0, .nameAndType 20 12), (0, u "step"), (0, .integer 65536), (0, .integer 1114111), (0, .integer 55296), (0, .integer 57343), (2, u "law"), (0, u "(III)Z")] 5

def k1m0 : Method := { name := "<init>", desc := "()V", sig := { parameters := [], returnType := none }, accessFlags := 2, code := none }
def k1c1 : Code := { maxStack := 4, maxLocals := 8, code := code, exceptionTable := #[], attributes := #[] }
def k1m1 : Method := { name := "law", desc := "(III)Z", sig := { parameters := [.int, .int, .int], returnType := some .boolean }, accessFlags := 9, code := some k1c1 }
def k1c2 : Code := { maxStack := 3, maxLocals := 5, code := method_3_code, exceptionTable := #[], attributes := #[] }
def k1m2 : Method := { name := "ref", desc := "([BII)I", sig := { parameters := [(.array .byte), .int, .int], returnType := some .int }, accessFlags := 10, code := some k1c2 }
def k1c3 : Code := { maxStack := 3, maxLocals := 8, code := method_4_code, exceptionTable := #[], attributes := #[] }
def k1m3 : Method := { name := "step", desc := "([BII)I", sig := { parameters := [(.array .byte), .int, .int], returnType := some .int }, accessFlags := 10, code := some k1c3 }
/-- com/example/tick6/tick6/csv/Utf8MalformedAtPinLaw -/
def k1 : Class := { plain "com/example/tick6/tick6/csv/Utf8MalformedAtPinLaw" (some 0) with
  accessFlags := 49
  interfaces := #[]
  cf := some (fileOf pool1 8 #[] #[{ accessFlags := 2, nameIndex := 5, descriptorIndex := 6, attributes := #[] }, { accessFlags := 9, nameIndex := 27, descriptorIndex := 28, attributes := #[] }, { accessFlags := 10, nameIndex := 11, descriptorIndex := 12, attributes := #[] }, { accessFlags := 10, nameIndex := 20, descriptorIndex := 12, attributes := #[] }] 49 2 #[] #[])
  fields := #[]
  methods := #[k1m0, k1m1, k1m2, k1m3]
  instanceTypes := #[]
  staticTypes := #[]
  resolved := Array.replicate 34 none
  statics := none }

def pool2 : Array CpInfo := pool [(2, .class_ 4), (1, u "java/lang/Object"), (0, u "<init>"), (0, u "()V"), (0, .class_ 8), (0, u "com/example/tick6/tick6/csv/Utf8$ByteOrder"), (2, .class_ 13), (1, u "com/example/tick6/tick6/csv/Utf8"), (0, u "BYTE_ORDER"), (0, u "Ljava/util/Comparator;"), (4, u "malformedAt"), (0, u "([BII)I")] 9

def k2m0 : Method := { name := "<init>", desc := "()V", sig := { parameters := [], returnType := none }, accessFlags := 2, code := none }
def k2c1 : Code := { maxStack := 3, maxLocals := 10, code := prog_21_method_2_code, exceptionTable := #[], attributes := #[] }
def k2m1 : Method := { name := "malformedAt", desc := "([BII)I", sig := { parameters := [(.array .byte), .int, .int], returnType := some .int }, accessFlags := 8, code := some k2c1 }
/-- com/example/tick6/tick6/csv/Utf8 -/
def k2 : Class := { plain "com/example/tick6/tick6/csv/Utf8" (some 0) with
  accessFlags := 49
  interfaces := #[]
  cf := some (fileOf pool2 11 #[.nestMembers #[7]] #[{ accessFlags := 2, nameIndex := 5, descriptorIndex := 6, attributes := #[] }, { accessFlags := 8, nameIndex := 20, descriptorIndex := 21, attributes := #[] }] 49 2 #[] #[{ accessFlags := 25, nameIndex := 14, descriptorIndex := 15, attributes := #[] }])
  fields := #[{ name := "BYTE_ORDER", type := (.object "java/util/Comparator"), accessFlags := 25, slot := 0, constantValue := 0 }]
  methods := #[k2m0, k2m1]
  instanceTypes := #[]
  staticTypes := #[(.object "java/util/Comparator")]
  resolved := Array.replicate 31 none
  statics := none }

def pool3 : Array CpInfo := pool [(1, u "java/lang/Cloneable"), (0, .class_ 1), (0, u "java/lang/Object"), (0, .class_ 3)] 3

/-- java/lang/Cloneable -/
def k3 : Class := { plain "java/lang/Cloneable" (some 0) with
  accessFlags := 1537
  interfaces := #[]
  cf := some (fileOf pool3 2 #[] #[] 1537 4 #[] #[])
  fields := #[]
  methods := #[]
  instanceTypes := #[]
  staticTypes := #[]
  resolved := Array.replicate 8 none
  statics := none }

def pool4 : Array CpInfo := pool [(1, u "java/io/Serializable"), (0, .class_ 1), (0, u "java/lang/Object"), (0, .class_ 3)] 3

/-- java/io/Serializable -/
def k4 : Class := { plain "java/io/Serializable" (some 0) with
  accessFlags := 1537
  interfaces := #[]
  cf := some (fileOf pool4 2 #[] #[] 1537 4 #[] #[])
  fields := #[]
  methods := #[]
  instanceTypes := #[]
  staticTypes := #[]
  resolved := Array.replicate 8 none
  statics := none }

/-- the primitive byte -/
def k5 : Class := { plain "byte" none with kind := .primitive 'B', accessFlags := 0x411 }
/-- [B -/
def k6 : Class := { plain "[B" (some 0) with kind := .array 5 .byte, interfaces := #[3, 4], accessFlags := 1041 }

/-- the primitive int -/
def k7 : Class := { plain "int" none with kind := .primitive 'I', accessFlags := 0x411 }
/-- [I -/
def k8 : Class := { plain "[I" (some 0) with kind := .array 7 .int, interfaces := #[3, 4], accessFlags := 1041 }

def heap : Heap := #[]
def classes : Array Class := #[k0, k1, k2, k3, k4, k5, k6, k7, k8]
def interned : List (Array UInt16 × Addr) := []
def slotsUsed : Nat := 0
def theMethod : MethodId := ⟨1, 1⟩
def args0 : Array Value := #[.int 5, .int 5, .int 5]
def aboutOver (below : List Frame) : State where
  vm := { classes := classes, interned := interned.toArray }
  heap := heap
  slotsUsed := slotsUsed
  threads := #[{ frames := .invoking theMethod args0 :: below }]
def below0 : List Frame := [.native { method := ⟨0, 0⟩, args := #[] }]
def about1 : State := aboutOver below0
def p0 : Program := .bare "" "" ""
def e0 : Env := launch0.env 0 0 0
theorem w_frames : about1.frames = Frame.invoking theMethod args0 :: below0 := rfl
set_option maxRecDepth 65536 in
theorem w_args : argsFit about1.vm theMethod args0 = true := by decide +kernel
set_option maxRecDepth 65536 in
theorem w_heap : heapFits about1 = true := by decide +kernel
set_option maxRecDepth 65536 in
theorem w_runnable : about1.curStatus? = some .runnable := by decide +kernel
set_option maxRecDepth 65536 in
theorem w_alone : about1.alone = true := by decide +kernel
set_option maxRecDepth 65536 in
theorem w_named : about1.methodNamed? x = some theMethod := by decide +kernel
set_option maxRecDepth 65536 in
theorem w_hears : about1.hears theMethod below0 = true := by decide +kernel
set_option maxRecDepth 65536 in
theorem w_ripe : about1.ripe theMethod args0 below0 = true := by decide +kernel
theorem w_running : about1.status = .running := rfl
set_option maxRecDepth 65536 in
theorem w_room : about1.hasRoom e0.platform room_1 = true :=
  launch0.hasRoom_least _ room_1 (by decide +kernel) (by decide +kernel) (by decide +kernel) (by decide +kernel) (by decide +kernel) (by decide +kernel)
theorem allAtoms_all (ts : List Jvm.Cond) (a : Array Jvm.Value) (st : Jvm.State) : (allAtoms ts).before a st = ts.all (fun c => c.before a st) := by
  induction ts with
  | nil => rfl
  | cons c t ih =>
    show (Jvm.Cond.and c (allAtoms t)).before a st = _
    rw [Jvm.Cond.before_and, ih, List.all_cons]
def words1 : List Jvm.Cond := Jvm.Cond.code x code maxLocals ret :: tables_1
/-- a 'code' word, met by the world's own term for the bytes: nothing is compared byte by byte -/
theorem code_word {y : MethodName} {bytes : ByteArray} {mx : Nat} {rt : Option FieldType} {a : Array Value} {s : State} {m : MethodId} {meth : Method} {c : Code} (h1 : s.methodNamed? y = some m) (h2 : s.vm.method? m = some meth) (h3 : meth.code = some c) (h4 : c.code = bytes)
    (h5 : (c.maxLocals == mx && c.exceptionTable.isEmpty && decide (c.maxStack ≤ mostOperands) && decide (meth.sig.returnType = rt) && !meth.locks && decide (parseMethodDescriptor y.desc = some meth.sig)) = true) : (Jvm.Cond.code y bytes mx rt).before a s = true := by
  simp only [Bool.and_eq_true, beq_iff_eq, Bool.not_eq_true', decide_eq_true_eq] at h5
  obtain ⟨⟨⟨⟨⟨g1, g2⟩, g3⟩, g4⟩, g5⟩, g6⟩ := h5
  simp [Cond.before, Cond.holds, Cond.value, h1, h2, h3, h4, g1, g2, g3, g4, g5, g6]
def isCode : Jvm.Cond → Bool
  | .code _ _ _ _ => true
  | _ => false
theorem all_split {L : List Jvm.Cond} {P : Jvm.Cond → Bool} (h1 : L.all (fun c => isCode c || P c) = true) (h2 : ∀ c ∈ L.filter isCode, P c = true) : L.all P = true := by
  refine List.all_eq_true.mpr fun c hc => ?_
  have h := List.all_eq_true.mp h1 c hc
  rcases Bool.eq_false_or_eq_true (isCode c) with hi | hi
  · exact h2 c (List.mem_filter.mpr ⟨hc, hi⟩)
  · simpa [hi] using h
set_option maxRecDepth 65536 in
theorem w_c0 : (Jvm.Cond.code x code maxLocals ret).before args0 about1 = true := code_word (m := ⟨1, 1⟩) (meth := k1m1) (c := k1c1) (by decide +kernel) rfl rfl rfl (by decide +kernel)
set_option maxRecDepth 65536 in
theorem w_c1 : (Jvm.Cond.code ({ cls := "com/example/tick6/tick6/csv/Utf8MalformedAtPinLaw", name := "ref", desc := "([BII)I" } : Jvm.MethodName) method_3_code (5 : Nat) (Option.some Jvm.ClassFile.FieldType.int)).before args0 about1 = true := code_word (m := ⟨1, 2⟩) (meth := k1m2) (c := k1c2) (by decide +kernel) rfl rfl rfl (by decide +kernel)
set_option maxRecDepth 65536 in
theorem w_c2 : (Jvm.Cond.code ({ cls := "com/example/tick6/tick6/csv/Utf8", name := "malformedAt", desc := "([BII)I" } : Jvm.MethodName) prog_21_method_2_code (10 : Nat) (Option.some Jvm.ClassFile.FieldType.int)).before args0 about1 = true := code_word (m := ⟨2, 1⟩) (meth := k2m1) (c := k2c1) (by decide +kernel) rfl rfl rfl (by decide +kernel)
set_option maxRecDepth 65536 in
theorem w_c3 : (Jvm.Cond.code ({ cls := "com/example/tick6/tick6/csv/Utf8MalformedAtPinLaw", name := "step", desc := "([BII)I" } : Jvm.MethodName) method_4_code (8 : Nat) (Option.some Jvm.ClassFile.FieldType.int)).before args0 about1 = true := code_word (m := ⟨1, 3⟩) (meth := k1m3) (c := k1c3) (by decide +kernel) rfl rfl rfl (by decide +kernel)
def codes1 : List Jvm.Cond := [Jvm.Cond.code x code maxLocals ret, Jvm.Cond.code ({ cls := "com/example/tick6/tick6/csv/Utf8MalformedAtPinLaw", name := "ref", desc := "([BII)I" } : Jvm.MethodName) method_3_code (5 : Nat) (Option.some Jvm.ClassFile.FieldType.int), Jvm.Cond.code ({ cls := "com/example/tick6/tick6/csv/Utf8", name := "malformedAt", desc := "([BII)I" } : Jvm.MethodName) prog_21_method_2_code (10 : Nat) (Option.some Jvm.ClassFile.FieldType.int), Jvm.Cond.code ({ cls := "com/example/tick6/tick6/csv/Utf8MalformedAtPinLaw", name := "step", desc := "([BII)I" } : Jvm.MethodName) method_4_code (8 : Nat) (Option.some Jvm.ClassFile.FieldType.int)]
set_option maxRecDepth 65536 in
theorem codes_eq : words1.filter isCode = codes1 := rfl
theorem w_codes : ∀ c ∈ words1.filter isCode, c.before args0 about1 = true := by
  rw [codes_eq]
  intro c hc
  simp only [codes1, List.mem_cons, List.not_mem_nil, or_false] at hc
  rcases hc with rfl | rfl | rfl | rfl
  · exact w_c0
  · exact w_c1
  · exact w_c2
  · exact w_c3
set_option maxRecDepth 65536 in
theorem w_t1 : words1.all (fun c => isCode c || c.before args0 about1) = true := by decide +kernel
theorem w_tables : (allAtoms (Jvm.Cond.code x code maxLocals ret :: tables_1)).before args0 about1 = true := by
  rw [allAtoms_all]
  show words1.all (fun c => c.before args0 about1) = true
  refine all_split ?_ w_codes
  rw [w_t1]
set_option maxRecDepth 65536 in
theorem w_case : (Jvm.Cond.and given_1 narrow_1).before args0 about1 = true := by decide +kernel
theorem w_applies : (headSpec (Jvm.Cond.code x code maxLocals ret :: tables_1) room_1).applies x e0.platform about1 = true :=
  (Spec.applies_iff w_frames).mpr ⟨w_running, w_runnable, w_alone, w_named, w_hears, w_ripe, w_room, w_tables⟩
theorem atStart : AtStart classFile x code maxLocals ret World_1 tables_1 room_1 Calls_1 rest_1 Pre_1 launch0 p0 e0 about1 theMethod args0 below0 :=
  ⟨lists_1, trivial, launch0.admits_env _ _ _, launch0.least_env, fairChoices_fair.cas, fairChoices_fair.clock, w_frames, w_args, w_heap, w_applies, trivial, trivial, w_case⟩
end start1
theorem witness_1 : WitnessClaimed_1 := ⟨start1.p0, start1.e0, start1.about1, start1.theMethod, start1.args0, start1.below0, start1.atStart⟩
end Jvm.Pilot.@@N@@
