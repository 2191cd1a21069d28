import JvmDerived
import JvmDerived.Pilot.@@N@@Statement
import JvmDerived.Pilot.@@N@@Code
set_option linter.unusedVariables false
set_option linter.unusedSimpArgs false

namespace Jvm.OwnW
open Sem ClassFile Op Lib Jvm.Stand Jvm.Free Jvm.LawKit Jvm.RoadKit
/-! THE LAYER: a walk's state is (cells, slots, what is known of the new cells, pc, locals, stack); 'Go' says that from there the body returns with Q. -/
abbrev Fds := List (String × String × String × Value)
abbrev Desc := (String × Fds) ⊕ (FieldType × List Value)
abbrev Mem := List (Addr × Desc)
abbrev Bdy := MethodName × ByteArray × Nat × Option FieldType × Room
abbrev ob (a : Addr) (C : String) (fs : Fds) : Addr × Desc := (a, .inl (C, fs))
abbrev ar (a : Addr) (ty : FieldType) (vs : List Value) : Addr × Desc := (a, .inr (ty, vs))
def Holds (Z : State) (a0 : Array Value) (h : Heap) (a : Addr) : Desc → Prop
  | .inl (C, fs) => Exa Z h a C ∧ (∀ f ∈ fs, Fld Z h a f.1 f.2.1 f.2.2.1 f.2.2.2 ∧ Laid Z a0 C f.1 f.2.1 f.2.2.1 ∧ ∃ ty, parseFieldDescriptor f.2.2.1 = some ty) ∧ (fs.map (·.2.1)).Nodup
  | .inr (ty, vs) => ∃ c : Cell, Arr Z h a c ty ∧ c.slots.toList = vs ∧ (∀ C, ty = .object C → Ovr Z c.cls C)
def Mo (Z : State) (a0 : Array Value) (h0 : Heap) (ds : Mem) (h : Heap) : Prop :=
  Ext h0 h ∧ (∀ q ∈ ds, h0.size ≤ q.1 ∧ Holds Z a0 h q.1 q.2) ∧ ds.Pairwise (fun q r => q.1 ≠ r.1)
section Facts
variable {Z : State} {a0 : Array Value} {h h' h0 : Heap} {a b : Addr} {D D' : Desc} {ds : Mem} {i : Nat} {sl : Nat} {v : Value}
theorem Holds.lt (H : Holds Z a0 h a D) : a < h.size := by
  rcases D with ⟨C, fs⟩ | ⟨ty, vs⟩
  · exact H.1.lt
  · obtain ⟨c, A, -⟩ := H; exact A.lt
theorem Holds.ext (E : Ext h h') (H : Holds Z a0 h a D) : Holds Z a0 h' a D := by
  rcases D with ⟨C, fs⟩ | ⟨ty, vs⟩
  · exact ⟨H.1.ext E, fun f hf => ⟨(H.2.1 f hf).1.ext E, (H.2.1 f hf).2⟩, H.2.2⟩
  · obtain ⟨c, A, r⟩ := H; exact ⟨c, A.ext E, r⟩
theorem Holds.other (W : Wr h h' a sl v) (H : Holds Z a0 h b D) (q : b ≠ a) : Holds Z a0 h' b D := by
  rcases D with ⟨C, fs⟩ | ⟨ty, vs⟩
  · exact ⟨H.1.wr W, fun f hf => ⟨(H.2.1 f hf).1.other W (Or.inl q), (H.2.1 f hf).2⟩, H.2.2⟩
  · obtain ⟨c, A, r⟩ := H; exact ⟨c, A.other W q, r⟩
theorem Holds.frame {as : List Addr} (K : ∀ (x : Addr) (c : Cell), h[x]? = some c → x ∉ as → h'[x]? = some c) (q : a ∉ as) (H : Holds Z a0 h a D) : Holds Z a0 h' a D := by
  rcases D with ⟨C, fs⟩ | ⟨ty, vs⟩
  · obtain ⟨⟨cell, k, h1, r⟩, F, nd⟩ := H
    refine ⟨⟨cell, k, K _ _ h1 q, r⟩, fun f hf => ?_, nd⟩
    obtain ⟨⟨cell, cf, k, i, f', g1, g⟩, L⟩ := F f hf
    exact ⟨⟨cell, cf, k, i, f', K _ _ g1 q, g⟩, L⟩
  · obtain ⟨c, A, r⟩ := H; exact ⟨c, ⟨K _ _ A.1 q, A.2⟩, r⟩
theorem Ext.refl (h : Heap) : Ext h h := ⟨Nat.le_refl _, fun _ _ q => q⟩
theorem Ext.trans {h1 h2 h3 : Heap} (E : Ext h1 h2) (F : Ext h2 h3) : Ext h1 h3 := ⟨Nat.le_trans E.1 F.1, fun x c q => F.2 x c (E.2 x c q)⟩
theorem Mo.start (Z : State) (a0 : Array Value) (h : Heap) : Mo Z a0 h [] h := ⟨Ext.refl h, fun _ q => (nomatch q), List.Pairwise.nil⟩
theorem Mo.ext (M : Mo Z a0 h0 ds h) (E : Ext h h') : Mo Z a0 h0 ds h' := ⟨Ext.trans M.1 E, fun q hq => ⟨(M.2.1 q hq).1, (M.2.1 q hq).2.ext E⟩, M.2.2⟩
theorem Mo.add (M : Mo Z a0 h0 ds h) (E : Ext h h') (H : Holds Z a0 h' h.size D) : Mo Z a0 h0 (ds ++ [(h.size, D)]) h' := by
  have M' := M.ext E
  refine ⟨M'.1, fun q hq => ?_, List.pairwise_append.mpr ⟨M.2.2, List.pairwise_singleton _ _, fun q hq r hr => ?_⟩⟩
  · rcases List.mem_append.mp hq with hq | hq
    · exact M'.2.1 q hq
    · cases List.mem_singleton.mp hq; exact ⟨M.1.1, H⟩
  · cases List.mem_singleton.mp hr
    exact Nat.ne_of_lt (M.2.1 q hq).2.lt
theorem Mo.at (M : Mo Z a0 h0 ds h) (hi : ds[i]? = some (a, D)) : Holds Z a0 h a D := (M.2.1 _ (List.mem_of_getElem? hi)).2
theorem Mo.new (M : Mo Z a0 h0 ds h) (hi : ds[i]? = some (a, D)) : h0.size ≤ a := (M.2.1 _ (List.mem_of_getElem? hi)).1
theorem Mo.ne (M : Mo Z a0 h0 ds h) {j : Nat} (hi : ds[i]? = some (a, D)) (hj : ds[j]? = some (b, D')) (q : i ≠ j) : a ≠ b := by
  obtain ⟨li, ei⟩ := List.getElem?_eq_some_iff.mp hi
  obtain ⟨lj, ej⟩ := List.getElem?_eq_some_iff.mp hj
  have P := List.pairwise_iff_getElem.mp M.2.2
  rcases Nat.lt_or_gt_of_ne q with q | q
  · have := P i j li lj q; rw [ei, ej] at this; exact this
  · have := P j i lj li q; rw [ei, ej] at this; exact this.symm
theorem Mo.exa {C : String} {fs : Fds} (hi : ds[i]? = some (a, .inl (C, fs))) : ∀ h, Mo Z a0 h0 ds h → Exa Z h a C := fun h M => (M.at hi).1
theorem Mo.wr (M : Mo Z a0 h0 ds h) (hi : ds[i]? = some (a, D)) (W : Wr h h' a sl v) (H : Holds Z a0 h' a D') : Mo Z a0 h0 (ds.set i (a, D')) h' := by
  have n0 := M.new hi
  refine ⟨⟨by rw [W.size]; exact M.1.1, fun x c q => ?_⟩, fun q hq => ?_, ?_⟩
  · obtain ⟨c', e1, -, -, -, e5, -⟩ := wr_at W (M.1.2 x c q)
    rw [← e5 (Nat.ne_of_lt (Nat.lt_of_lt_of_le (Array.getElem?_eq_some_iff.mp q).1 n0))]; exact e1
  · obtain ⟨j, hj⟩ := List.getElem?_of_mem hq
    by_cases e : i = j
    · subst e
      rw [List.getElem?_set_self (List.getElem?_eq_some_iff.mp hi).1] at hj
      cases hj; exact ⟨n0, H⟩
    · rw [List.getElem?_set_ne e] at hj
      exact ⟨M.new hj, (M.at hj).other W (M.ne hj hi (Ne.symm e))⟩
  · refine List.pairwise_iff_getElem.mpr fun j j' l1 l2 q => ?_
    rw [List.length_set] at l1 l2
    have P := List.pairwise_iff_getElem.mp M.2.2 j j' l1 l2 q
    obtain ⟨li, ei⟩ := List.getElem?_eq_some_iff.mp hi
    rw [List.getElem_set, List.getElem_set]
    split
    · rename_i e; subst e
      rw [if_neg (Nat.ne_of_lt q)]
      rw [ei] at P; exact P
    · split
      · rename_i e; subst e; rw [ei] at P; exact P
      · exact P
/-- what has been touched since hs: of its cells at most those in 'as' -/
def Tr (hs : Heap) (as : List Addr) (ds : Mem) (h : Heap) : Prop :=
  hs.size ≤ h.size ∧ (∀ (x : Addr) (c : Cell), hs[x]? = some c → x ∉ as → h[x]? = some c) ∧ ∀ q ∈ ds, q.1 ∈ as ∨ hs.size ≤ q.1
theorem Tr.start (h : Heap) (ds : Mem) : Tr h (ds.map (·.1)) ds h := ⟨Nat.le_refl _, fun _ _ q _ => q, fun q hq => Or.inl (List.mem_map.mpr ⟨q, hq, rfl⟩)⟩
section Trs
variable {hs : Heap} {as : List Addr}
theorem Tr.ext (R : Tr hs as ds h) (E : Ext h h') : Tr hs as ds h' := ⟨Nat.le_trans R.1 E.1, fun x c q r => E.2 x c (R.2.1 x c q r), R.2.2⟩
theorem Tr.add (R : Tr hs as ds h) (E : Ext h h') : Tr hs as (ds ++ [(h.size, D)]) h' := ⟨Nat.le_trans R.1 E.1, fun x c q r => E.2 x c (R.2.1 x c q r), fun q hq => by
  rcases List.mem_append.mp hq with hq | hq
  · exact R.2.2 q hq
  · cases List.mem_singleton.mp hq; exact Or.inr R.1⟩
theorem Tr.out (R : Tr hs as ds h) {q : Addr × Desc} (hq : q ∈ ds) {x : Addr} {c : Cell} (hx : hs[x]? = some c) (hn : x ∉ as) : x ≠ q.1 := fun e => by
  rcases R.2.2 q hq with r | r
  · exact hn (e ▸ r)
  · exact absurd (Array.getElem?_eq_some_iff.mp hx).1 (Nat.not_lt.mpr (e ▸ r))
theorem Tr.wr (R : Tr hs as ds h) (hi : ds[i]? = some (a, D)) (W : Wr h h' a sl v) : Tr hs as (ds.set i (a, D')) h' := by
  refine ⟨by rw [W.size]; exact R.1, fun x c q r => ?_, fun q hq => ?_⟩
  · obtain ⟨c', e1, -, -, -, e5, -⟩ := wr_at W (R.2.1 x c q r)
    rw [← e5 (R.out (List.mem_of_getElem? hi) q r)]; exact e1
  · obtain ⟨j, hj⟩ := List.getElem?_of_mem hq
    by_cases e : i = j
    · subst e
      rw [List.getElem?_set_self (List.getElem?_eq_some_iff.mp hi).1] at hj
      cases hj; exact R.2.2 (a, D) (List.mem_of_getElem? hi)
    · rw [List.getElem?_set_ne e] at hj; exact R.2.2 _ (List.mem_of_getElem? hj)
theorem Tr.call {ds' : Mem} (R : Tr hs as ds h) (R' : Tr h (ds.map (·.1)) ds' h') : Tr hs as ds' h' := by
  refine ⟨Nat.le_trans R.1 R'.1, fun x c q r => R'.2.1 x c (R.2.1 x c q r) fun m => ?_, fun q hq => ?_⟩
  · obtain ⟨e, he, rfl⟩ := List.mem_map.mp m; exact R.out he q r rfl
  · rcases R'.2.2 q hq with m | m
    · obtain ⟨e, he, e2⟩ := List.mem_map.mp m; rw [← e2]; exact R.2.2 e he
    · exact Or.inr (Nat.le_trans R.1 m)
end Trs
end Facts
def LaidL (Z : State) (a0 : Array Value) (C : String) : Fds → Prop
  | [] => True
  | f :: r => (Laid Z a0 C f.1 f.2.1 f.2.2.1 ∧ ∃ ty, parseFieldDescriptor f.2.2.1 = some ty ∧ defaultValue ty = f.2.2.2) ∧ LaidL Z a0 C r
theorem LaidL.mem {Z : State} {a0 : Array Value} {C : String} : ∀ {fs : Fds}, LaidL Z a0 C fs → ∀ f ∈ fs, Laid Z a0 C f.1 f.2.1 f.2.2.1 ∧ ∃ ty, parseFieldDescriptor f.2.2.1 = some ty ∧ defaultValue ty = f.2.2.2
  | [], _, _, hf => (nomatch hf)
  | g :: r, H, f, hf => by
    rcases List.mem_cons.mp hf with rfl | hf
    · exact H.1
    · exact LaidL.mem H.2 f hf
theorem wd {ws : List Jvm.Cond} {a0 : Array Value} {Z : State} (hw : ∀ d ∈ ws, d.before a0 Z = true) (i : Nat) {d : Jvm.Cond} (h : ws[i]? = some d) : d.before a0 Z = true := hw d (List.mem_of_getElem? h)
def Cx (B : Bdy) (Z : State) (p : Program) (s : State) (m : MethodId) (meth : Method) (c : Code) : Prop :=
  p.tables.exec = Jvm.exec ∧ Z.Warmed39 s.vm ∧ c.code = B.2.1 ∧ c.maxLocals = B.2.2.1 ∧ s.vm.findClass B.1.cls = some m.cls ∧ meth.sig.returnType = B.2.2.2.1 ∧ meth.locks = false ∧ meth.name = B.1.name
def Ends (B : Bdy) (Z : State) (a0 : Array Value) (h0 : Heap) (hs : Heap) (as : List Addr) (Q : Option Value → Mem → Prop) (p : Program) (e : Env) (below : List Frame) (s u : State) : Prop :=
  ∃ s₂ v L ds, Steps p.tables e below u s₂ ∧ s₂.status = .running ∧ Ended s₂ below (.returned v) ∧ Mo Z a0 h0 ds s₂.heap ∧ Tr hs as ds s₂.heap ∧ Q v ds ∧ Fr h0.size L ∧ FrameEnd s (.returned v) s₂ L B.2.2.2.2.cells B.2.2.2.2.slots
def Go (B : Bdy) (Z : State) (a0 : Array Value) (h0 : Heap) (Q : Option Value → Mem → Prop) (k n : Nat) (ds : Mem) (pc : Nat) (ls : Array Slot) (st : List Value) : Prop :=
  ∀ (p : Program) (l : Launch) (e : Env) (s : State) (m : MethodId) (args : Array Value) (below : List Frame) (meth : Method) (c : Code) (T : State) (locs : List Loc) (hs : Heap) (as : List Addr),
    Cx B Z p s m meth c → Stand p l e B.2.2.2.2 s m args below meth c T locs k n → Fr h0.size locs → Mo Z a0 h0 ds T.heap → Tr hs as ds T.heap → Ends B Z a0 h0 hs as Q p e below s (T.setTop (mkF m pc ls st))
/-- a callee's answer: this value, this memory -/
def Ret (v0 : Option Value) (ds0 : Mem) (v : Option Value) (ds : Mem) : Prop := v = v0 ∧ ds0 = ds
/-- a yes or no, the memory as it was -/
def Qz (P : Prop) (ds0 : Mem) (v : Option Value) (ds : Mem) : Prop := ∃ z : Int32, v = some (.int z) ∧ ds0 = ds ∧ (z.toInt = 1 ∧ P ∨ z.toInt = 0 ∧ ¬ P)
def MQ (Z : State) (a0 : Array Value) (h0 h : Heap) (as : List Addr) (Q : Option Value → Mem → Prop) (v : Option Value) (h' : Heap) (L : List Loc) : Prop := Fr h0.size L ∧ ∃ ds', Mo Z a0 h0 ds' h' ∧ Tr h as ds' h' ∧ Q v ds'
def Met (B : Bdy) (Z : State) (a0 : Array Value) (h0 : Heap) (as : Array Value) (ds : Mem) (Q : Option Value → Mem → Prop) : Prop :=
  ∀ (l : Launch) (ws : List Jvm.Cond) (h : Heap), Mo Z a0 h0 ds h → MetFree l B.1 (head1 (Jvm.Cond.code B.1 B.2.1 B.2.2.1 B.2.2.2.1 :: ws) B.2.2.2.2) (fun a U => a = as ∧ Z.Warmed39 U.vm ∧ U.heap = h) (fun _ _ _ _ _ => True)
    (fun _ U o U' => ∃ v L, o = .returned v ∧ MQ Z a0 h0 h (ds.map (·.1)) Q v U'.heap L ∧ FrameEnd U o U' L B.2.2.2.2.cells B.2.2.2.2.slots)
section Start
variable {args : Array Value} {s : State} {t : Term}
theorem eqI_v {k : Int32} {idx : List Nat} (h : (Jvm.Cond.eq t (.int k)).value args s none s idx = some true) : t.eval args s none idx s = some (.int k) := by
  have e : (Term.int k).eval args s none idx s = some (.int k) := rfl
  simp only [Cond.value, e] at h
  cases ht : t.eval args s none idx s with
  | none => simp [ht] at h
  | some x => cases x <;> simp [ht] at h ⊢; exact h
theorem eqJ_v {k : Int64} {idx : List Nat} (h : (Jvm.Cond.eq t (.long k)).value args s none s idx = some true) : t.eval args s none idx s = some (.long k) := by
  have e : (Term.long k).eval args s none idx s = some (.long k) := rfl
  simp only [Cond.value, e] at h
  cases ht : t.eval args s none idx s with
  | none => simp [ht] at h
  | some x => cases x <;> simp [ht] at h ⊢; exact h
theorem elem_ix {a : Addr} {cl : Cell} {i : Nat} (ev : ∀ idx, t.eval args s none idx s = some (.ref a)) (ha : s.arrayAt? a = some cl) (hi : i < 2 ^ 31) : (Term.elem t (.index 0)).eval args s none [i] s = cl.slots[i]? := by
  have q : i.toInt32.toInt = i := len_toInt hi
  have q2 : i.toInt32.toNatClampNeg = i := by simp only [Int32.toNatClampNeg, q]; rfl
  rw [elem_f (ev _) (j := i.toInt32) rfl ha (by rw [Int32.lt_iff_toInt_lt, q]; exact Int.not_lt.mpr (Int.natCast_nonneg i)), q2]
theorem eq_ix {a : Addr} {cl : Cell} {i : Nat} {v : Int32} (ev : ∀ idx, t.eval args s none idx s = some (.ref a)) (ha : s.arrayAt? a = some cl) (hi : i < 2 ^ 31) (h : (Jvm.Cond.eq (.elem t (.index 0)) (.int v)).value args s none s [i] = some true) : cl.slots[i]? = some (.int v) :=
  (elem_ix ev ha hi).symm.trans (eqI_v h)
theorem or_ix {G X : Jvm.Cond} {P : Prop} [Decidable P] {i : Nat} (h : (Jvm.Cond.or G X).value args s none s [i] = some true) (hG : G.value args s none s [i] = some (decide P)) (hp : ¬ P) : X.value args s none s [i] = some true := by
  rwa [Cond.or_of_right (nay hG hp)] at h
theorem le_ix {i : Nat} {k : Int32} : (Jvm.Cond.le (.int k) (.index 0)).value args s none s [i] = some (decide (k ≤ i.toInt32)) := by simp [Cond.value, Term.eval]
theorem lt_ix {i : Nat} {k : Int32} : (Jvm.Cond.lt (.index 0) (.int k)).value args s none s [i] = some (decide (i.toInt32 < k)) := by simp [Cond.value, Term.eval]
theorem one_ix {a : Addr} {cl : Cell} {k v : Int32} {i : Nat} (ev : t.eval args s none [] s = some (.ref a)) (hc : s.heap[a]? = some cl) (hi : k.toNatClampNeg = i) (h : (Jvm.Cond.eq (.elem t (.int k)) (.int v)).value args s none s [] = some true) : cl.slots[i]? = some (.int v) := by
  have q := (elem_in (eqI_v h) ev rfl hc).2
  rwa [hi] at q
theorem oneJ_ix {a : Addr} {cl : Cell} {k : Int32} {v : Int64} {i : Nat} (ev : t.eval args s none [] s = some (.ref a)) (hc : s.heap[a]? = some cl) (hi : k.toNatClampNeg = i) (h : (Jvm.Cond.eq (.elem t (.int k)) (.long v)).value args s none s [] = some true) : cl.slots[i]? = some (.long v) := by
  have q := (elem_in (eqJ_v h) ev rfl hc).2
  rwa [hi] at q
theorem len_ix {a : Addr} {cl : Cell} {k : Int32} (ev : t.eval args s none [] s = some (.ref a)) (ha : s.arrayAt? a = some cl) (hk : ¬ k < 0) (h : (Jvm.Cond.eq (.length t) (.int k)).value args s none s [] = some true) : cl.slots.size = k.toNatClampNeg ∧ cl.slots.size < 2 ^ 31 := by
  have q := eqI_v h
  simp only [Term.eval, ev, ha, Option.bind_eq_bind, Option.bind_some] at q
  split at q
  · rename_i hl
    have e : cl.slots.size.toInt32 = k := by simpa using q
    have l : cl.slots.size < 2 ^ 31 := by simpa using hl
    refine ⟨?_, l⟩
    rw [← e]; simp only [Int32.toNatClampNeg, len_toInt l]; rfl
  · simp at q
end Start
section Core
variable {B : Bdy} {Z : State} {a0 : Array Value} {h0 : Heap} {Q : Option Value → Mem → Prop} {k n : Nat} {ds : Mem} {pc : Nat} {ls : Array Slot} {st : List Value}
theorem Ends.back {hs : Heap} {as : List Addr} {p : Program} {e : Env} {below : List Frame} {s u u' : State} (F : Ends B Z a0 h0 hs as Q p e below s u') (hst : ∀ t, Steps p.tables e below u' t → Steps p.tables e below u t) : Ends B Z a0 h0 hs as Q p e below s u := by
  obtain ⟨s₂, v, L, ds, h1, r⟩ := F; exact ⟨s₂, v, L, ds, hst _ h1, r⟩
theorem Go.step {pc' : Nat} {ls' : Array Slot} {st' : List Value} (H : Go B Z a0 h0 Q k n ds pc' ls' st')
    (hs : ∀ {p : Program} {l : Launch} {e : Env} {s : State} {m : MethodId} {args : Array Value} {below : List Frame} {meth : Method} {c : Code} {T : State} {locs : List Loc}, Cx B Z p s m meth c → Stand p l e B.2.2.2.2 s m args below meth c T locs k n → Mo Z a0 h0 ds T.heap → ∀ t, Steps p.tables e below (T.setTop (mkF m pc' ls' st')) t → Steps p.tables e below (T.setTop (mkF m pc ls st)) t) :
    Go B Z a0 h0 Q k n ds pc ls st := fun p l e s m args below meth c T locs h1 as C X N M R => (H p l e s m args below meth c T locs h1 as C X N M R).back (hs C X M)
theorem Go.mono {Q' : Option Value → Mem → Prop} (H : Go B Z a0 h0 Q k n ds pc ls st) (hq : ∀ v ds', Q v ds' → Q' v ds') : Go B Z a0 h0 Q' k n ds pc ls st := fun p l e s m args below meth c T locs hs as C X N M R => by
  obtain ⟨s₂, v, L, ds', h1, h2, h3, h4, h4', h5, r⟩ := H p l e s m args below meth c T locs hs as C X N M R
  exact ⟨s₂, v, L, ds', h1, h2, h3, h4, h4', hq _ _ h5, r⟩
/-- what holds of every heap that the memory describes may be used -/
theorem Go.know {P : Prop} (hP : ∀ h, Mo Z a0 h0 ds h → P) (H : P → Go B Z a0 h0 Q k n ds pc ls st) : Go B Z a0 h0 Q k n ds pc ls st := fun p l e s m args below meth c T locs hs as C X N M R => H (hP _ M) p l e s m args below meth c T locs hs as C X N M R
theorem Go.more {k' n' : Nat} (H : Go B Z a0 h0 Q k' n' ds pc ls st) (hk : k ≤ k') (hn : n ≤ n') : Go B Z a0 h0 Q k n ds pc ls st := fun p l e s m args below meth c T locs hs as C X N M R => H p l e s m args below meth c T locs hs as C (X.more hk hn) N M R
theorem Go.sub {ds' : Mem} (hs : List.Sublist ds' ds) (H : Go B Z a0 h0 Q k n ds' pc ls st) : Go B Z a0 h0 Q k n ds pc ls st := fun p l e s m args below meth c T locs h1 as C X N M R =>
  H p l e s m args below meth c T locs h1 as C X N ⟨M.1, fun q hq => M.2.1 q (hs.subset hq), M.2.2.sublist hs⟩ ⟨R.1, R.2.1, fun q hq => R.2.2 q (hs.subset hq)⟩
theorem Mo.perm {ds' : Mem} {h : Heap} (hp : List.Perm ds' ds) (M : Mo Z a0 h0 ds h) : Mo Z a0 h0 ds' h := ⟨M.1, fun q hq => M.2.1 q (hp.mem_iff.mp hq), (hp.pairwise_iff (fun {a b} q => Ne.symm q)).mpr M.2.2⟩
theorem Go.perm {ds' : Mem} (hp : List.Perm ds' ds) (H : Go B Z a0 h0 Q k n ds' pc ls st) : Go B Z a0 h0 Q k n ds pc ls st := fun p l e s m args below meth c T locs hs as C X N M R =>
  H p l e s m args below meth c T locs hs as C X N (M.perm hp) ⟨R.1, R.2.1, fun q hq => R.2.2 q (hp.mem_iff.mp hq)⟩
/-- entry i to the front -/
theorem Go.front (i : Nat) (hi : i < ds.length) (H : Go B Z a0 h0 Q k n (ds[i] :: ds.eraseIdx i) pc ls st) : Go B Z a0 h0 Q k n ds pc ls st := Go.perm (by
  have e : ds = ds.take i ++ ds[i] :: ds.drop (i + 1) := by rw [List.getElem_cons_drop, List.take_append_drop]
  rw [List.eraseIdx_eq_take_drop_succ]
  exact (List.perm_middle.symm).trans (by rw [← e])) H
theorem Met.of {as : Array Value} (hp : plainFor B.1 = true) (he : ∀ m, entryFrame m as B.2.2.1 = mkF m 0 ls []) (H : Go B Z a0 h0 Q 0 0 ds 0 ls []) : Met B Z a0 h0 as ds Q := by
  intro l ws h M
  refine MetFree.of_bodySF hp hisR ?_
  intro p e s m args below meth c s₁ Bd hml hP _
  obtain ⟨rfl, hZ, hh⟩ := hP
  have hown : s.vm.findClass B.1.cls = some m.cls := findClass_of_methodNamed Bd.named
  have hnm := (name_of_methodNamed Bd.named Bd.method).1
  have e0 : s₁.heap = h := by rw [← hh, Bd.state]; rfl
  obtain ⟨s₂, v, L, ds', h1, h2, h3, h4, h4', h5, h6, h7⟩ := H p l e s m args below meth c s₁ [] h (ds.map (·.1)) ⟨Bd.exec, hZ, Bd.bytes, hml, hown, Bd.returns, Bd.notSynchronized, hnm⟩ (Stand.of_body Bd) (Fr.nil _) (by rw [e0]; exact M) (by rw [e0]; exact Tr.start h ds)
  exact ⟨s₂, _, castTop (he m) h1, h2, h3, v, L, rfl, ⟨h6, ds', h4, h4', h5⟩, h7⟩
theorem Met.mono {as : Array Value} {Q' : Option Value → Mem → Prop} (H : Met B Z a0 h0 as ds Q) (hq : ∀ v ds', Q v ds' → Q' v ds') : Met B Z a0 h0 as ds Q' := by
  intro l ws h M p e h1 h2 h3 s m args below h4 h5 h6 h7
  obtain ⟨n, o, g1, g2, g3, v, L, g4, ⟨g5, ds', g6, g6', g7⟩, g8⟩ := H l ws h M p e h1 h2 h3 s m args below h4 h5 h6 h7
  exact ⟨n, o, g1, g2, g3, v, L, g4, ⟨g5, ds', g6, g6', hq _ _ g7⟩, g8⟩
/-- the frame rule: what the callee doesn't know it leaves as it is -/
theorem Met.frame {as : Array Value} (rest : Mem) (H : Met B Z a0 h0 as ds Q) : Met B Z a0 h0 as (ds ++ rest) (fun v D => ∃ ds', Q v ds' ∧ D = ds' ++ rest) := by
  intro l ws h M p e h1 h2 h3 s m args below h4 h5 h6 h7
  have M1 : Mo Z a0 h0 ds h := ⟨M.1, fun q hq => M.2.1 q (List.mem_append_left _ hq), (List.pairwise_append.mp M.2.2).1⟩
  obtain ⟨n, o, g1, g2, g3, v, L, g4, ⟨g5, ds', g6, g6', g7⟩, g8⟩ := H l ws h M1 p e h1 h2 h3 s m args below h4 h5 h6 h7
  have nin : ∀ q ∈ rest, q.1 ∉ ds.map (·.1) := fun q hq m => by
    obtain ⟨r, hr, e⟩ := List.mem_map.mp m
    exact (List.pairwise_append.mp M.2.2).2.2 r hr q hq e
  refine ⟨n, o, g1, g2, g3, v, L, g4, ⟨g5, ds' ++ rest, ⟨g6.1, fun q hq => ?_, List.pairwise_append.mpr ⟨g6.2.2, (List.pairwise_append.mp M.2.2).2.1, fun q hq r hr => ?_⟩⟩, ⟨g6'.1, fun x c q r => g6'.2.1 x c q fun m => r ?_, fun q hq => ?_⟩, ds', g7, rfl⟩, g8⟩
  · rcases List.mem_append.mp hq with hq | hq
    · exact g6.2.1 q hq
    · obtain ⟨m1, m2⟩ := M.2.1 q (List.mem_append_right _ hq)
      exact ⟨m1, m2.frame g6'.2.1 (nin q hq)⟩
  · intro e
    rcases g6'.2.2 q hq with m | m
    · exact nin r hr (e ▸ m)
    · exact absurd (M.2.1 r (List.mem_append_right _ hr)).2.lt (Nat.not_lt.mpr (e ▸ m))
  · rw [List.map_append]; exact List.mem_append_left _ m
  · rcases List.mem_append.mp hq with hq | hq
    · rcases g6'.2.2 q hq with m | m
      · exact Or.inl (by rw [List.map_append]; exact List.mem_append_left _ m)
      · exact Or.inr m
    · exact Or.inl (List.mem_map.mpr ⟨q, List.mem_append_right _ hq, rfl⟩)
theorem Met.know {as : Array Value} {P : Prop} (hP : ∀ h, Mo Z a0 h0 ds h → P) (H : P → Met B Z a0 h0 as ds Q) : Met B Z a0 h0 as ds Q := fun l ws h M => H (hP h M) l ws h M
/-! the returns -/
theorem go_end {v : Option Value} (hk : k ≤ B.2.2.2.2.cells) (hn : n ≤ B.2.2.2.2.slots) (hv : B.2.2.2.1 = none → v = none) (HQ : Q v ds)
    (hs : ∀ {p : Program} {l : Launch} {e : Env} {s : State} {m : MethodId} {args : Array Value} {below : List Frame} {meth : Method} {c : Code} {T : State} {locs : List Loc}, Cx B Z p s m meth c → Stand p l e B.2.2.2.2 s m args below meth c T locs k n → ∀ {fs : List Frame}, (∀ (f : JFrame) (acts : List Action), f.method = m → f.locked = none → f.entered = [] → (doReturn e (T.setTop f) acts v).1 = T.setFrames fs) → Steps p.tables e below (T.setTop (mkF m pc ls st)) (T.setFrames fs)) :
    Go B Z a0 h0 Q k n ds pc ls st := by
  intro p l e s m args below meth c T locs h1 as C X N M R
  obtain ⟨fs, hr, hrun, hended, hW, hsame⟩ := X.leave (v := v) (fun q => hv (C.2.2.2.2.2.1.symm.trans q)) C.2.2.2.2.2.2.1
  exact ⟨_, v, locs, ds, hs C X hr, hrun, hended, M, R, HQ, N, ⟨_, rfl⟩, hW, hsame.mono hk hn⟩
theorem go_return (hd : decode B.2.1 pc = .ok (.return_, 1)) (hret : B.2.2.2.1 = none) (hst : st = []) (hk : k ≤ B.2.2.2.2.cells) (hn : n ≤ B.2.2.2.2.slots) (HQ : Q none ds) : Go B Z a0 h0 Q k n ds pc ls st := by
  subst hst
  exact go_end hk hn (fun _ => rfl) HQ fun C X _ hr => X.returnOut C.1 (C.2.2.2.2.2.1.trans hret) (hb C.2.2.1 hd) hr
theorem go_ireturn {z : Int32} {rest : List Value} {t : FieldType} (hd : decode B.2.1 pc = .ok (.ireturn, 1)) (hret : B.2.2.2.1 = some t) (ht : t = .int ∨ t = .boolean ∨ t = .byte ∨ t = .char ∨ t = .short) (hst : st = .int z :: rest) (hz : narrow t (.int z) = .int z) (hk : k ≤ B.2.2.2.2.cells) (hn : n ≤ B.2.2.2.2.slots) (HQ : Q (some (.int z)) ds) : Go B Z a0 h0 Q k n ds pc ls st := by
  subst hst
  exact go_end hk hn (fun q => by rw [hret] at q; cases q) HQ fun C X _ hr => retOut X C.1 (C.2.2.2.2.2.1.trans hret) hz (Or.inl ⟨rfl, ht, _, rfl⟩) (hb C.2.2.1 hd) hr
theorem go_lreturn {z : Int64} {rest : List Value} (hd : decode B.2.1 pc = .ok (.lreturn, 1)) (hret : B.2.2.2.1 = some .long) (hst : st = .long z :: rest) (hk : k ≤ B.2.2.2.2.cells) (hn : n ≤ B.2.2.2.2.slots) (HQ : Q (some (.long z)) ds) : Go B Z a0 h0 Q k n ds pc ls st := by
  subst hst
  exact go_end hk hn (fun q => by rw [hret] at q; cases q) HQ fun C X _ hr => retOut X C.1 (C.2.2.2.2.2.1.trans hret) rfl (Or.inr (Or.inl ⟨rfl, rfl, _, rfl⟩)) (hb C.2.2.1 hd) hr
theorem go_areturn {w : Value} {rest : List Value} {t : FieldType} (hd : decode B.2.1 pc = .ok (.areturn, 1)) (hret : B.2.2.2.1 = some t) (ht : t.isReference = true) (hw : w.isRef = true) (hst : st = w :: rest) (hk : k ≤ B.2.2.2.2.cells) (hn : n ≤ B.2.2.2.2.slots) (HQ : Q (some w) ds) : Go B Z a0 h0 Q k n ds pc ls st := by
  subst hst
  have hz : narrow t w = w := by rcases ref_cases hw with rfl | ⟨x, rfl⟩ <;> cases t <;> rfl
  exact go_end hk hn (fun q => by rw [hret] at q; cases q) HQ fun C X _ hr => retOut X C.1 (C.2.2.2.2.2.1.trans hret) hz (Or.inr (Or.inr (Or.inr (Or.inr ⟨rfl, ht, hw⟩)))) (hb C.2.2.1 hd) hr
/-! branches -/
def cmpP : ClassFile.Cond → Int32 → Int32 → Prop
  | .eq, x, y => x.toInt = y.toInt
  | .ne, x, y => x.toInt ≠ y.toInt
  | .lt, x, y => x.toInt < y.toInt
  | .ge, x, y => y.toInt ≤ x.toInt
  | .gt, x, y => y.toInt < x.toInt
  | .le, x, y => x.toInt ≤ y.toInt
def cmpZ : ClassFile.Cond → Int32 → Prop
  | .eq, x => x.toInt = 0
  | .ne, x => x.toInt ≠ 0
  | .lt, x => x.toInt < 0
  | .ge, x => 0 ≤ x.toInt
  | .gt, x => 0 < x.toInt
  | .le, x => x.toInt ≤ 0
theorem cmpP_iff (cd : ClassFile.Cond) (x y : Int32) : if_icmp.holds cd x y = true ↔ cmpP cd x y := by
  cases cd <;> simp [if_icmp.holds, cmpP, Int32.lt_iff_toInt_lt, Int32.le_iff_toInt_le, Int32.toInt_inj]
theorem cmpZ_iff (cd : ClassFile.Cond) (x : Int32) : ifCond.holds cd x = true ↔ cmpZ cd x := by
  have h0 : (0 : Int32).toInt = 0 := rfl
  cases cd <;> simp only [ifCond.holds, cmpZ, Int32.lt_iff_toInt_lt, Int32.le_iff_toInt_le, ← Int32.toInt_inj, h0, decide_eq_true_eq, beq_iff_eq, bne_iff_ne, ne_eq, gt_iff_lt, ge_iff_le]
theorem go_if {cd : ClassFile.Cond} {x : Int32} {rest : List Value} {o : Int} (q1 q2 : Nat) (hp : pc + 3 = q2) (ho : 0 ≤ (pc : Int) + o) (hq : ((pc : Int) + o).toNat = q1) (hd : decode B.2.1 pc = .ok (.ifCond cd o, 3)) (hst : st = .int x :: rest)
    (H1 : cmpZ cd x → Go B Z a0 h0 Q k n ds q1 ls rest) (H2 : ¬ cmpZ cd x → Go B Z a0 h0 Q k n ds q2 ls rest) : Go B Z a0 h0 Q k n ds pc ls st := by
  subst hst hp
  cases hc : ifCond.holds cd x
  · exact (H2 fun q => by rw [(cmpZ_iff cd x).mpr q] at hc; cases hc).step fun C X _ t hr => XS.ifNo X.here C.1 rfl (hb C.2.2.1 hd) rfl hc hr
  · exact (H1 ((cmpZ_iff cd x).mp hc)).step fun C X _ t hr => XS.ifYes X.here C.1 rfl rfl (hb C.2.2.1 hd) rfl hc ho hq hr
theorem go_icmp {cd : ClassFile.Cond} {x y : Int32} {rest : List Value} {o : Int} (q1 q2 : Nat) (hp : pc + 3 = q2) (ho : 0 ≤ (pc : Int) + o) (hq : ((pc : Int) + o).toNat = q1) (hd : decode B.2.1 pc = .ok (.if_icmp cd o, 3)) (hst : st = .int y :: .int x :: rest)
    (H1 : cmpP cd x y → Go B Z a0 h0 Q k n ds q1 ls rest) (H2 : ¬ cmpP cd x y → Go B Z a0 h0 Q k n ds q2 ls rest) : Go B Z a0 h0 Q k n ds pc ls st := by
  subst hst hp
  cases hc : if_icmp.holds cd x y
  · exact (H2 fun q => by rw [(cmpP_iff cd x y).mpr q] at hc; cases hc).step fun C X _ t hr => XS.icmpNo X.here C.1 rfl (hb C.2.2.1 hd) rfl hc hr
  · exact (H1 ((cmpP_iff cd x y).mp hc)).step fun C X _ t hr => XS.icmpYes X.here C.1 rfl rfl (hb C.2.2.1 hd) rfl hc ho hq hr
def acP : ACond → Value → Value → Prop
  | .eq, x, y => x = y
  | .ne, x, y => x ≠ y
theorem acP_iff (cd : ACond) (x y : Value) : acV cd (decide (x = y)) = true ↔ acP cd x y := by cases cd <;> simp [acV, acP]
theorem go_acmp {cd : ACond} {x y : Value} {rest : List Value} {o : Int} (q1 q2 : Nat) (hp : pc + 3 = q2) (ho : 0 ≤ (pc : Int) + o) (hq : ((pc : Int) + o).toNat = q1) (hd : decode B.2.1 pc = .ok (.if_acmp cd o, 3)) (hst : st = y :: x :: rest) (hx : x.isRef = true) (hy : y.isRef = true)
    (H1 : acP cd x y → Go B Z a0 h0 Q k n ds q1 ls rest) (H2 : ¬ acP cd x y → Go B Z a0 h0 Q k n ds q2 ls rest) : Go B Z a0 h0 Q k n ds pc ls st := by
  subst hst hp
  cases hc : acV cd (decide (x = y))
  · exact (H2 fun q => by rw [(acP_iff cd x y).mpr q] at hc; cases hc).step fun C X _ t hr => RoadKit.acmp X C.1 rfl hx hy rfl (hb C.2.2.1 hd) rfl rfl ho (by rw [hc]; rfl) hr
  · exact (H1 ((acP_iff cd x y).mp hc)).step fun C X _ t hr => RoadKit.acmp X C.1 rfl hx hy rfl (hb C.2.2.1 hd) rfl rfl ho (by rw [hc]; exact hq.symm) hr
theorem go_ifnullY {rest : List Value} {o : Int} (q1 : Nat) (ho : 0 ≤ (pc : Int) + o) (hq : ((pc : Int) + o).toNat = q1) (hd : decode B.2.1 pc = .ok (.ifnull o, 3)) (hst : st = .null :: rest) (H : Go B Z a0 h0 Q k n ds q1 ls rest) : Go B Z a0 h0 Q k n ds pc ls st := by
  subst hst; exact H.step fun C X _ t hr => XS.ifnullYes X.here C.1 rfl rfl (hb C.2.2.1 hd) rfl ho hq hr
theorem go_ifnullN {b : Addr} {rest : List Value} {o : Int} (q2 : Nat) (hp : pc + 3 = q2) (hd : decode B.2.1 pc = .ok (.ifnull o, 3)) (hst : st = .ref b :: rest) (H : Go B Z a0 h0 Q k n ds q2 ls rest) : Go B Z a0 h0 Q k n ds pc ls st := by
  subst hst hp; exact H.step fun C X _ t hr => XS.ifnullNo X.here C.1 rfl (hb C.2.2.1 hd) rfl hr
theorem go_ifnonnullY {b : Addr} {rest : List Value} {o : Int} (q1 : Nat) (ho : 0 ≤ (pc : Int) + o) (hq : ((pc : Int) + o).toNat = q1) (hd : decode B.2.1 pc = .ok (.ifnonnull o, 3)) (hst : st = .ref b :: rest) (H : Go B Z a0 h0 Q k n ds q1 ls rest) : Go B Z a0 h0 Q k n ds pc ls st := by
  subst hst; exact H.step fun C X _ t hr => XS.ifnonnullYes X.here C.1 rfl rfl (hb C.2.2.1 hd) rfl ho hq hr
theorem go_ifnonnullN {rest : List Value} {o : Int} (q2 : Nat) (hp : pc + 3 = q2) (hd : decode B.2.1 pc = .ok (.ifnonnull o, 3)) (hst : st = .null :: rest) (H : Go B Z a0 h0 Q k n ds q2 ls rest) : Go B Z a0 h0 Q k n ds pc ls st := by
  subst hst hp; exact H.step fun C X _ t hr => XS.ifnonnullNo X.here C.1 rfl (hb C.2.2.1 hd) rfl hr
theorem go_goto {o : Int} (q : Nat) (ho : 0 ≤ (pc : Int) + o) (hq : ((pc : Int) + o).toNat = q) (hd : decode B.2.1 pc = .ok (.goto o, 3)) (H : Go B Z a0 h0 Q k n ds q ls st) : Go B Z a0 h0 Q k n ds pc ls st :=
  H.step fun C X _ t hr => XS.goto X.here C.1 rfl rfl (hb C.2.2.1 hd) ho hq hr
/-! constants of the pool -/
theorem go_ldc {idx : Nat} {v : Int32} (q : Nat) (hp : pc + 2 = q) (hd : decode B.2.1 pc = .ok (.ldc idx, 2)) (w : (Jvm.Cond.constant B.1.cls idx v).before a0 Z = true) (H : Go B Z a0 h0 Q k n ds q ls (.int v :: st)) : Go B Z a0 h0 Q k n ds pc ls st := by
  subst hp; exact H.step fun C X _ t hr => X.ldcInt C.1 C.2.2.2.2.1 (mvT C.2.1 w) (g := mkF _ pc ls st) rfl (hb C.2.2.1 hd) t hr
theorem go_ldc2 {idx : Nat} {v : Int64} (q : Nat) (hp : pc + 3 = q) (hd : decode B.2.1 pc = .ok (.ldc2_w idx, 3)) (w : (Jvm.Cond.constantLong B.1.cls idx v).before a0 Z = true) (H : Go B Z a0 h0 Q k n ds q ls (.long v :: st)) : Go B Z a0 h0 Q k n ds pc ls st := by
  subst hp; exact H.step fun C X _ t hr => X.ldc2Long C.1 C.2.2.2.2.1 (mvT C.2.1 w) (g := mkF _ pc ls st) rfl (hb C.2.2.1 hd) t hr
/-! the heap -/
theorem go_new {C : String} {idx sz : Nat} (q : Nat) (hp : pc + 3 = q) (hd : decode B.2.1 pc = .ok (.new idx, 3)) (w : (Jvm.Cond.classLink B.1.cls idx C).before a0 Z = true) (wi : (Jvm.Cond.instantiable C sz).before a0 Z = true) (wz : (Jvm.Cond.initialized C).before a0 Z = true)
    (hk : k + 1 ≤ B.2.2.2.2.cells) (hn : n + sz ≤ B.2.2.2.2.slots) (fs : Fds) (hfs : LaidL Z a0 C fs) (hnd : (fs.map (·.2.1)).Nodup) (H : ∀ a, Go B Z a0 h0 Q (k + 1) (n + sz) (ds ++ [ob a C fs]) q ls (.ref a :: st)) : Go B Z a0 h0 Q k n ds pc ls st := by
  subst hp
  intro p l e s m args below meth c T locs hs as Cc X N M R
  obtain ⟨T', h', X', e', E', A', D', -, st'⟩ := newO X Cc.1 Cc.2.1 Cc.2.2.2.2.1 w wi wz rfl (g := mkF m pc ls st) rfl (hb Cc.2.2.1 hd) hk hn
  refine (H T.heap.size p l e s m args below meth c T' locs hs as Cc X' N ?_ (by rw [e']; exact R.add E')).back st'
  rw [e']
  refine M.add E' ⟨A', fun f hf => ?_, hnd⟩
  obtain ⟨L, ty, h1, h2⟩ := hfs.mem f hf
  exact ⟨h2 ▸ D' L h1, L, ty, h1⟩
theorem go_newarr {aty : ArrayType} {x : Int32} {rest : List Value} (q : Nat) (hp : pc + 2 = q) (hd : decode B.2.1 pc = .ok (.newarray aty, 2)) (hst : st = .int x :: rest) (w : (Jvm.Cond.arrayClass (newarray.typeOf aty)).before a0 Z = true) (hx : ¬ x < 0) (cap : Nat) (hcap : x.toNatClampNeg ≤ cap) (hbb : cap * 8 ≤ 536870912)
    (hk : k + 1 ≤ B.2.2.2.2.cells) (hn : n + cap ≤ B.2.2.2.2.slots) (H : ∀ a, Go B Z a0 h0 Q (k + 1) (n + cap) (ds ++ [ar a (newarray.typeOf aty) (List.replicate x.toNatClampNeg (defaultValue (newarray.typeOf aty)))]) q ls (.ref a :: rest)) : Go B Z a0 h0 Q k n ds pc ls st := by
  subst hp hst
  intro p l e s m args below meth c T locs hs as Cc X N M R
  obtain ⟨T', h', cA, X', e', E', A', st'⟩ := newP X Cc.1 Cc.2.1 w rfl (g := mkF m pc ls (.int x :: rest)) rfl (hb Cc.2.2.1 hd) rfl hx hcap hbb hk hn
  refine (H T.heap.size p l e s m args below meth c T' locs hs as Cc X' N ?_ (by rw [e']; exact R.add E')).back st'
  rw [e']
  exact M.add E' ⟨_, A', by simp [newA], fun C q => by cases aty <;> cases q⟩
theorem go_anewarr {C : String} {idx : Nat} {x : Int32} {rest : List Value} (q : Nat) (hp : pc + 3 = q) (hd : decode B.2.1 pc = .ok (.anewarray idx, 3)) (hst : st = .int x :: rest) (w : (Jvm.Cond.classLink B.1.cls idx C).before a0 Z = true) (w2 : (Jvm.Cond.arrayOver (.object C)).before a0 Z = true) (hx : ¬ x < 0) (cap : Nat) (hcap : x.toNatClampNeg ≤ cap) (hbb : cap * 8 ≤ 536870912)
    (hk : k + 1 ≤ B.2.2.2.2.cells) (hn : n + cap ≤ B.2.2.2.2.slots) (H : ∀ a, Go B Z a0 h0 Q (k + 1) (n + cap) (ds ++ [ar a (.object C) (List.replicate x.toNatClampNeg .null)]) q ls (.ref a :: rest)) : Go B Z a0 h0 Q k n ds pc ls st := by
  subst hp hst
  intro p l e s m args below meth c T locs hs as Cc X N M R
  obtain ⟨T', h', cA, X', e', E', A', O', st'⟩ := newR X Cc.1 Cc.2.1 Cc.2.2.2.2.1 w w2 rfl (g := mkF m pc ls (.int x :: rest)) rfl (hb Cc.2.2.1 hd) rfl hx hcap hbb hk hn
  refine (H T.heap.size p l e s m args below meth c T' locs hs as Cc X' N ?_ (by rw [e']; exact R.add E')).back st'
  rw [e']
  exact M.add E' ⟨_, A', by simp [newA, defaultValue], fun C' q => by cases q; exact O'⟩
theorem go_getG {a : Addr} {O R0 nm d : String} {v : Value} {idx : Nat} {rest : List Value} (q : Nat) (hp : pc + 3 = q) (hd : decode B.2.1 pc = .ok (.getfield idx, 3)) (hst : st = .ref a :: rest) (w : (Jvm.Cond.fieldLink B.1.cls idx R0 nm d).before a0 Z = true) (via : Via Z R0 O nm d) (hF : ∀ h, Mo Z a0 h0 ds h → Fld Z h a O nm d v)
    (H : Go B Z a0 h0 Q k n ds q ls (v :: rest)) : Go B Z a0 h0 Q k n ds pc ls st := by
  subst hp hst
  intro p l e s m args below meth c T locs hs as Cc X N M R
  obtain ⟨T', X', e', st'⟩ := getF X Cc.1 Cc.2.1 Cc.2.2.2.2.1 (host := "") (Or.inl w) via rfl (hF _ M) (g := mkF m pc ls (.ref a :: rest)) rfl rfl (hb Cc.2.2.1 hd)
  exact (H p l e s m args below meth c T' locs hs as Cc X' N (by rw [e']; exact M) (by rw [e']; exact R)).back st'
theorem go_get {a : Addr} {C O nm d : String} {fs : Fds} {v : Value} {idx : Nat} {rest : List Value} (i j q : Nat) (hp : pc + 3 = q) (hd : decode B.2.1 pc = .ok (.getfield idx, 3)) (hst : st = .ref a :: rest) (hi : ds[i]? = some (ob a C fs)) (hj : fs[j]? = some (O, nm, d, v)) (w : (Jvm.Cond.fieldLink B.1.cls idx O nm d).before a0 Z = true)
    (H : Go B Z a0 h0 Q k n ds q ls (v :: rest)) : Go B Z a0 h0 Q k n ds pc ls st :=
  go_getG q hp hd hst w Via.refl (fun h M => ((M.at hi).2.1 _ (List.mem_of_getElem? hj)).1) H
theorem go_put {a : Addr} {C O nm d : String} {fs : Fds} {v old : Value} {idx kk : Nat} {rest : List Value} {ty : FieldType} (i j q : Nat) (hp : pc + 3 = q) (hd : decode B.2.1 pc = .ok (.putfield idx, 3)) (hst : st = v :: .ref a :: rest) (hi : ds[i]? = some (ob a C fs)) (hj : fs[j]? = some (O, nm, d, old))
    (w : (Jvm.Cond.fieldLink B.1.cls idx O nm d).before a0 Z = true) (L : (Jvm.Cond.lays C O nm d).before a0 Z = true ∨ ((Jvm.Cond.laysFinal C O nm d).before a0 Z = true ∧ B.1.cls = O ∧ B.1.name = "<init>")) (wi : (Jvm.Cond.instantiable C kk).before a0 Z = true)
    (hty : parseFieldDescriptor d = some ty) (hnn : narrow ty v = v) (hf : fits ty v = true) (H : Go B Z a0 h0 Q k n (ds.set i (ob a C (fs.set j (O, nm, d, v)))) q ls rest) : Go B Z a0 h0 Q k n ds pc ls st := by
  subst hp hst
  intro p l e s m args below meth c T locs hs as Cc X N M R
  have HA := M.at hi
  obtain ⟨F, La, -⟩ := HA.2.1 _ (List.mem_of_getElem? hj)
  have hown : s.vm.findClass B.1.cls = some m.cls := Cc.2.2.2.2.1
  obtain ⟨T', h', X', e', W', st'⟩ := putF X Cc.1 Cc.2.1 hown (host := "") (Or.inl w) Via.refl rfl F HA.1 (L.imp id fun q => ⟨q.1, q.2.1, Cc.2.2.2.2.2.2.2.trans q.2.2⟩) wi hty hnn hf (g := mkF m pc ls (v :: .ref a :: rest)) rfl rfl (hb Cc.2.2.1 hd)
  refine (H p l e s m args below meth c T' _ hs as Cc X' (Fr.snoc X' N (M.new hi)) ?_ (by rw [e']; exact R.wr hi W')).back st'
  rw [e']
  refine M.wr hi W' ⟨HA.1.wr W', fun f hf => ?_, ?_⟩
  · obtain ⟨j', hj'⟩ := List.getElem?_of_mem hf
    by_cases e : j = j'
    · subst e
      rw [List.getElem?_set_self (List.getElem?_eq_some_iff.mp hj).1] at hj'
      cases hj'; exact ⟨F.same W', La, ty, hty⟩
    · rw [List.getElem?_set_ne e] at hj'
      obtain ⟨F1, L1, ty1, ht1⟩ := HA.2.1 f (List.mem_of_getElem? hj')
      refine ⟨F1.other W' (Or.inr (slot_ne L1 La (fun q => ?_) ht1 hty)), L1, ty1, ht1⟩
      have P := List.pairwise_iff_getElem.mp HA.2.2
      obtain ⟨l1, e1⟩ := List.getElem?_eq_some_iff.mp hj
      obtain ⟨l2, e2⟩ := List.getElem?_eq_some_iff.mp hj'
      rcases Nat.lt_or_gt_of_ne e with r | r
      · have z := P j j' (by simpa using l1) (by simpa using l2) r
        simp only [List.getElem_map, e1, e2] at z; exact z q.symm
      · have z := P j' j (by simpa using l2) (by simpa using l1) r
        simp only [List.getElem_map, e1, e2] at z; exact z q
  · rw [List.map_set]
    have : (fs.map (·.2.1)).set j nm = fs.map (·.2.1) := by
      apply List.ext_getElem?
      intro t
      by_cases e : j = t
      · subst e; rw [List.getElem?_set_self (by simpa using (List.getElem?_eq_some_iff.mp hj).1)]; simp [hj]
      · rw [List.getElem?_set_ne e]
    show ((fs.map (·.2.1)).set j nm).Nodup
    rw [this]; exact HA.2.2
theorem go_getS {O nm d : String} {v : Value} {idx : Nat} (q : Nat) (hp : pc + 3 = q) (hd : decode B.2.1 pc = .ok (.getstatic idx, 3)) (w : (Jvm.Cond.fieldLink B.1.cls idx O nm d).before a0 Z = true) (F : Sta Z h0 O nm d v) (H : Go B Z a0 h0 Q k n ds q ls (v :: st)) : Go B Z a0 h0 Q k n ds pc ls st := by
  subst hp
  intro p l e s m args below meth c T locs hs as Cc X N M R
  obtain ⟨T', X', e', st'⟩ := getS X Cc.1 Cc.2.1 (host := "") Cc.2.2.2.2.1 w Via.refl rfl (F.ext M.1) (g := mkF m pc ls st) rfl (hb Cc.2.2.1 hd)
  exact (H p l e s m args below meth c T' locs hs as Cc X' N (by rw [e']; exact M) (by rw [e']; exact R)).back st'
/-! arrays -/
theorem Holds.arr {h : Heap} {a : Addr} {ty : FieldType} {vs : List Value} (H : Holds Z a0 h a (.inr (ty, vs))) : ∃ c : Cell, Arr Z h a c ty ∧ c.slots = vs.toArray ∧ (∀ C, ty = .object C → Ovr Z c.cls C) := by
  obtain ⟨c, A, e, r⟩ := H; exact ⟨c, A, by rw [← e], r⟩
theorem inb {c : Cell} {vs : List Value} {j : Int32} {v : Value} (e : c.slots = vs.toArray) (hj : ¬ j < 0) (hv : vs[j.toNatClampNeg]? = some v) : ¬ (j < 0 ∨ c.slots.size ≤ j.toNatClampNeg) ∧ c.slots[j.toNatClampNeg]? = some v := by
  have l1 := (List.getElem?_eq_some_iff.mp hv).1
  rw [e]; exact ⟨fun q => q.elim hj fun q => by simp at q; omega, by simpa using hv⟩
theorem go_alenG {a : Addr} {z : Int32} {ty : FieldType} {rest : List Value} (q : Nat) (hp : pc + 1 = q) (hd : decode B.2.1 pc = .ok (.arraylength, 1)) (hst : st = .ref a :: rest) (hA : ∀ h, Mo Z a0 h0 ds h → ∃ c : Cell, Arr Z h a c ty ∧ c.slots.size.toInt32 = z) (H : Go B Z a0 h0 Q k n ds q ls (.int z :: rest)) : Go B Z a0 h0 Q k n ds pc ls st := by
  subst hp hst
  refine H.step fun C X M t hr => ?_
  obtain ⟨cl, A, e⟩ := hA _ M
  exact X.arraylength C.1 A.1 (State.isArrayOf_alike C.2.1.alike A.2.1) (g := mkF _ pc ls (.ref a :: rest)) rfl rfl (hb C.2.2.1 hd) t (by rw [e]; exact hr)
theorem go_alen {a : Addr} {ty : FieldType} {vs : List Value} {rest : List Value} (i q : Nat) (hp : pc + 1 = q) (hd : decode B.2.1 pc = .ok (.arraylength, 1)) (hst : st = .ref a :: rest) (hi : ds[i]? = some (ar a ty vs)) (H : Go B Z a0 h0 Q k n ds q ls (.int vs.length.toInt32 :: rest)) : Go B Z a0 h0 Q k n ds pc ls st :=
  go_alenG q hp hd hst (fun h M => by obtain ⟨c, A, e, -⟩ := (M.at hi).arr; exact ⟨c, A, by rw [e]; simp⟩) H
def El (Z : State) (h : Heap) (a : Addr) (ty : FieldType) (j : Int32) (v : Value) : Prop := ∃ c : Cell, Arr Z h a c ty ∧ ¬ (j < 0 ∨ c.slots.size ≤ j.toNatClampNeg) ∧ c.slots[j.toNatClampNeg]? = some v
theorem El.ext {h h' : Heap} {a : Addr} {ty : FieldType} {j : Int32} {v : Value} (E : Ext h h') (F : El Z h a ty j v) : El Z h' a ty j v := by obtain ⟨c, A, r⟩ := F; exact ⟨c, A.ext E, r⟩
theorem Mo.el {a : Addr} {ty : FieldType} {vs : List Value} {i : Nat} {j : Int32} {v : Value} (hi : ds[i]? = some (ar a ty vs)) (hj : ¬ j < 0) (hv : vs[j.toNatClampNeg]? = some v) : ∀ h, Mo Z a0 h0 ds h → El Z h a ty j v := fun h M => by
  obtain ⟨c, A, e, -⟩ := (M.at hi).arr; exact ⟨c, A, inb e hj hv⟩
theorem go_iaload {a : Addr} {j : Int32} {v : Value} {rest : List Value} (q : Nat) (hp : pc + 1 = q) (hd : decode B.2.1 pc = .ok (.iaload, 1)) (hst : st = .int j :: .ref a :: rest) (hA : ∀ h, Mo Z a0 h0 ds h → El Z h a .int j v) (H : Go B Z a0 h0 Q k n ds q ls (v :: rest)) : Go B Z a0 h0 Q k n ds pc ls st := by
  subst hp hst
  refine H.step fun C X M t hr => ?_
  obtain ⟨cl, A, h1, h2⟩ := hA _ M
  exact X.iaload C.1 A.1 (State.isArrayOf_alike C.2.1.alike A.2.1) A.2.2 h1 h2 (g := mkF _ pc ls (.int j :: .ref a :: rest)) rfl rfl (hb C.2.2.1 hd) t hr
theorem go_laload {a : Addr} {j : Int32} {v : Value} {rest : List Value} (q : Nat) (hp : pc + 1 = q) (hd : decode B.2.1 pc = .ok (.laload, 1)) (hst : st = .int j :: .ref a :: rest) (hA : ∀ h, Mo Z a0 h0 ds h → El Z h a .long j v) (H : Go B Z a0 h0 Q k n ds q ls (v :: rest)) : Go B Z a0 h0 Q k n ds pc ls st := by
  subst hp hst
  refine H.step fun C X M t hr => ?_
  obtain ⟨cl, A, h1, h2⟩ := hA _ M
  exact X.laload C.1 A.1 (State.isArrayOf_alike C.2.1.alike A.2.1) A.2.2 h1 h2 (g := mkF _ pc ls (.int j :: .ref a :: rest)) rfl rfl (hb C.2.2.1 hd) t hr
theorem go_caload {a : Addr} {j : Int32} {v : Value} {rest : List Value} (q : Nat) (hp : pc + 1 = q) (hd : decode B.2.1 pc = .ok (.caload, 1)) (hst : st = .int j :: .ref a :: rest) (hA : ∀ h, Mo Z a0 h0 ds h → El Z h a .char j v) (H : Go B Z a0 h0 Q k n ds q ls (v :: rest)) : Go B Z a0 h0 Q k n ds pc ls st := by
  subst hp hst
  refine H.step fun C X M t hr => ?_
  obtain ⟨cl, A, h1, h2⟩ := hA _ M
  exact X.caload C.1 A.1 (State.isArrayOf_alike C.2.1.alike A.2.1) A.2.2 h1 h2 (g := mkF _ pc ls (.int j :: .ref a :: rest)) rfl rfl (hb C.2.2.1 hd) t hr
theorem go_saload {a : Addr} {j : Int32} {v : Value} {rest : List Value} (q : Nat) (hp : pc + 1 = q) (hd : decode B.2.1 pc = .ok (.saload, 1)) (hst : st = .int j :: .ref a :: rest) (hA : ∀ h, Mo Z a0 h0 ds h → El Z h a .short j v) (H : Go B Z a0 h0 Q k n ds q ls (v :: rest)) : Go B Z a0 h0 Q k n ds pc ls st := by
  subst hp hst
  refine H.step fun C X M t hr => ?_
  obtain ⟨cl, A, h1, h2⟩ := hA _ M
  exact X.saload C.1 A.1 (State.isArrayOf_alike C.2.1.alike A.2.1) A.2.2 h1 h2 (g := mkF _ pc ls (.int j :: .ref a :: rest)) rfl rfl (hb C.2.2.1 hd) t hr
theorem go_baload {a : Addr} {j : Int32} {v : Value} {rest : List Value} (q : Nat) (hp : pc + 1 = q) (hd : decode B.2.1 pc = .ok (.baload, 1)) (hst : st = .int j :: .ref a :: rest) (hA : ∀ h, Mo Z a0 h0 ds h → El Z h a .byte j v) (H : Go B Z a0 h0 Q k n ds q ls (v :: rest)) : Go B Z a0 h0 Q k n ds pc ls st := by
  subst hp hst
  refine H.step fun C X M t hr => ?_
  obtain ⟨cl, A, h1, h2⟩ := hA _ M
  exact X.baloadBytes C.1 A.1 (State.isArrayOf_alike C.2.1.alike A.2.1) A.2.2 h1 h2 (g := mkF _ pc ls (.int j :: .ref a :: rest)) rfl rfl (hb C.2.2.1 hd) t hr
theorem go_zaload {a : Addr} {j : Int32} {v : Value} {rest : List Value} (q : Nat) (hp : pc + 1 = q) (hd : decode B.2.1 pc = .ok (.baload, 1)) (hst : st = .int j :: .ref a :: rest) (hA : ∀ h, Mo Z a0 h0 ds h → El Z h a .boolean j v) (H : Go B Z a0 h0 Q k n ds q ls (v :: rest)) : Go B Z a0 h0 Q k n ds pc ls st := by
  subst hp hst
  refine H.step fun C X M t hr => ?_
  obtain ⟨cl, A, h1, h2⟩ := hA _ M
  exact X.baloadBooleans C.1 A.1 (State.isArrayOf_alike C.2.1.alike A.2.1) A.2.2 h1 h2 (g := mkF _ pc ls (.int j :: .ref a :: rest)) rfl rfl (hb C.2.2.1 hd) t hr
theorem go_aaload {a : Addr} {j : Int32} {v : Value} {ty : FieldType} {rest : List Value} (q : Nat) (hp : pc + 1 = q) (hd : decode B.2.1 pc = .ok (.aaload, 1)) (hst : st = .int j :: .ref a :: rest) (hty : ty.isReference = true) (hA : ∀ h, Mo Z a0 h0 ds h → El Z h a ty j v) (H : Go B Z a0 h0 Q k n ds q ls (v :: rest)) : Go B Z a0 h0 Q k n ds pc ls st := by
  subst hp hst
  refine H.step fun C X M t hr => ?_
  obtain ⟨cl, A, h1, h2⟩ := hA _ M
  exact X.aaload C.1 A.1 (State.isArrayOf_alike C.2.1.alike A.2.1) hty A.2.2 h1 h2 (g := mkF _ pc ls (.int j :: .ref a :: rest)) rfl rfl (hb C.2.2.1 hd) t hr
theorem Holds.set {h h' : Heap} {a : Addr} {ty : FieldType} {vs : List Value} {c : Cell} {j : Int32} {v : Value} (A : Arr Z h a c ty) (e : c.slots = vs.toArray) (O : ∀ C, ty = .object C → Ovr Z c.cls C) (W : Wr h h' a j.toNatClampNeg v) : Holds Z a0 h' a (.inr (ty, vs.set j.toNatClampNeg v)) :=
  ⟨_, A.same W, by simp [Cell.setSlot, e], O⟩
theorem go_iastore {a : Addr} {j : Int32} {x : Int32} {vs rest : List Value} (i q : Nat) (hp : pc + 1 = q) (hd : decode B.2.1 pc = .ok (.iastore, 1)) (hst : st = .int x :: .int j :: .ref a :: rest) (hi : ds[i]? = some (ar a .int vs)) (hj : ¬ j < 0) (hl : j.toNatClampNeg < vs.length) (H : Go B Z a0 h0 Q k n (ds.set i (ar a .int (vs.set j.toNatClampNeg (.int x)))) q ls rest) : Go B Z a0 h0 Q k n ds pc ls st := by
  subst hp hst
  intro p l e s m args below meth c T locs hs as Cc X N M R
  obtain ⟨cl, A, ee, O⟩ := (M.at hi).arr
  obtain ⟨T', h', X', e', W', st'⟩ := stI X Cc.1 Cc.2.1 rfl A (inb ee hj (List.getElem?_eq_getElem hl)).1 (g := mkF m pc ls (.int x :: .int j :: .ref a :: rest)) rfl rfl (hb Cc.2.2.1 hd)
  refine (H p l e s m args below meth c T' _ hs as Cc X' (Fr.snoc X' N (M.new hi)) ?_ (by rw [e']; exact R.wr hi W')).back st'
  rw [e']; exact M.wr hi W' (Holds.set A ee O W')
theorem go_lastore {a : Addr} {j : Int32} {x : Int64} {vs rest : List Value} (i q : Nat) (hp : pc + 1 = q) (hd : decode B.2.1 pc = .ok (.lastore, 1)) (hst : st = .long x :: .int j :: .ref a :: rest) (hi : ds[i]? = some (ar a .long vs)) (hj : ¬ j < 0) (hl : j.toNatClampNeg < vs.length) (H : Go B Z a0 h0 Q k n (ds.set i (ar a .long (vs.set j.toNatClampNeg (.long x)))) q ls rest) : Go B Z a0 h0 Q k n ds pc ls st := by
  subst hp hst
  intro p l e s m args below meth c T locs hs as Cc X N M R
  obtain ⟨cl, A, ee, O⟩ := (M.at hi).arr
  obtain ⟨T', h', X', e', W', st'⟩ := stJ X Cc.1 Cc.2.1 rfl A (inb ee hj (List.getElem?_eq_getElem hl)).1 (g := mkF m pc ls (.long x :: .int j :: .ref a :: rest)) rfl rfl (hb Cc.2.2.1 hd)
  refine (H p l e s m args below meth c T' _ hs as Cc X' (Fr.snoc X' N (M.new hi)) ?_ (by rw [e']; exact R.wr hi W')).back st'
  rw [e']; exact M.wr hi W' (Holds.set A ee O W')
theorem go_castore {a : Addr} {j : Int32} {x : Int32} {vs rest : List Value} (i q : Nat) (hp : pc + 1 = q) (hd : decode B.2.1 pc = .ok (.castore, 1)) (hst : st = .int x :: .int j :: .ref a :: rest) (hi : ds[i]? = some (ar a .char vs)) (hj : ¬ j < 0) (hl : j.toNatClampNeg < vs.length) (H : Go B Z a0 h0 Q k n (ds.set i (ar a .char (vs.set j.toNatClampNeg (.int (nar .char x))))) q ls rest) : Go B Z a0 h0 Q k n ds pc ls st := by
  subst hp hst
  intro p l e s m args below meth c T locs hs as Cc X N M R
  obtain ⟨cl, A, ee, O⟩ := (M.at hi).arr
  obtain ⟨T', h', X', e', W', st'⟩ := stC X Cc.1 Cc.2.1 rfl A (inb ee hj (List.getElem?_eq_getElem hl)).1 (g := mkF m pc ls (.int x :: .int j :: .ref a :: rest)) rfl rfl (hb Cc.2.2.1 hd)
  refine (H p l e s m args below meth c T' _ hs as Cc X' (Fr.snoc X' N (M.new hi)) ?_ (by rw [e']; exact R.wr hi W')).back st'
  rw [e']; exact M.wr hi W' (Holds.set A ee O W')
theorem go_sastore {a : Addr} {j : Int32} {x : Int32} {vs rest : List Value} (i q : Nat) (hp : pc + 1 = q) (hd : decode B.2.1 pc = .ok (.sastore, 1)) (hst : st = .int x :: .int j :: .ref a :: rest) (hi : ds[i]? = some (ar a .short vs)) (hj : ¬ j < 0) (hl : j.toNatClampNeg < vs.length) (H : Go B Z a0 h0 Q k n (ds.set i (ar a .short (vs.set j.toNatClampNeg (.int (nar .short x))))) q ls rest) : Go B Z a0 h0 Q k n ds pc ls st := by
  subst hp hst
  intro p l e s m args below meth c T locs hs as Cc X N M R
  obtain ⟨cl, A, ee, O⟩ := (M.at hi).arr
  obtain ⟨T', h', X', e', W', st'⟩ := stS X Cc.1 Cc.2.1 rfl A (inb ee hj (List.getElem?_eq_getElem hl)).1 (g := mkF m pc ls (.int x :: .int j :: .ref a :: rest)) rfl rfl (hb Cc.2.2.1 hd)
  refine (H p l e s m args below meth c T' _ hs as Cc X' (Fr.snoc X' N (M.new hi)) ?_ (by rw [e']; exact R.wr hi W')).back st'
  rw [e']; exact M.wr hi W' (Holds.set A ee O W')
theorem go_bastore {a : Addr} {j : Int32} {x : Int32} {vs rest : List Value} (i q : Nat) (hp : pc + 1 = q) (hd : decode B.2.1 pc = .ok (.bastore, 1)) (hst : st = .int x :: .int j :: .ref a :: rest) (hi : ds[i]? = some (ar a .byte vs)) (hj : ¬ j < 0) (hl : j.toNatClampNeg < vs.length) (H : Go B Z a0 h0 Q k n (ds.set i (ar a .byte (vs.set j.toNatClampNeg (.int (nar .byte x))))) q ls rest) : Go B Z a0 h0 Q k n ds pc ls st := by
  subst hp hst
  intro p l e s m args below meth c T locs hs as Cc X N M R
  obtain ⟨cl, A, ee, O⟩ := (M.at hi).arr
  obtain ⟨T', h', X', e', W', st'⟩ := stB X Cc.1 Cc.2.1 rfl A (inb ee hj (List.getElem?_eq_getElem hl)).1 (g := mkF m pc ls (.int x :: .int j :: .ref a :: rest)) rfl rfl (hb Cc.2.2.1 hd)
  refine (H p l e s m args below meth c T' _ hs as Cc X' (Fr.snoc X' N (M.new hi)) ?_ (by rw [e']; exact R.wr hi W')).back st'
  rw [e']; exact M.wr hi W' (Holds.set A ee O W')
theorem go_zastore {a : Addr} {j : Int32} {x : Int32} {vs rest : List Value} (i q : Nat) (hp : pc + 1 = q) (hd : decode B.2.1 pc = .ok (.bastore, 1)) (hst : st = .int x :: .int j :: .ref a :: rest) (hi : ds[i]? = some (ar a .boolean vs)) (hj : ¬ j < 0) (hl : j.toNatClampNeg < vs.length) (H : Go B Z a0 h0 Q k n (ds.set i (ar a .boolean (vs.set j.toNatClampNeg (.int (nar .boolean x))))) q ls rest) : Go B Z a0 h0 Q k n ds pc ls st := by
  subst hp hst
  intro p l e s m args below meth c T locs hs as Cc X N M R
  obtain ⟨cl, A, ee, O⟩ := (M.at hi).arr
  obtain ⟨T', h', X', e', W', st'⟩ := stZ X Cc.1 Cc.2.1 rfl A (inb ee hj (List.getElem?_eq_getElem hl)).1 (g := mkF m pc ls (.int x :: .int j :: .ref a :: rest)) rfl rfl (hb Cc.2.2.1 hd)
  refine (H p l e s m args below meth c T' _ hs as Cc X' (Fr.snoc X' N (M.new hi)) ?_ (by rw [e']; exact R.wr hi W')).back st'
  rw [e']; exact M.wr hi W' (Holds.set A ee O W')
theorem go_aastore {a : Addr} {j : Int32} {v : Value} {ty : FieldType} {vs rest : List Value} (i q : Nat) (hp : pc + 1 = q) (hd : decode B.2.1 pc = .ok (.aastore, 1)) (hst : st = v :: .int j :: .ref a :: rest) (hi : ds[i]? = some (ar a ty vs)) (hty : ty.isReference = true) (hj : ¬ j < 0) (hl : j.toNatClampNeg < vs.length) (hS : ∀ h, Mo Z a0 h0 ds h → Sto Z h a v) (H : Go B Z a0 h0 Q k n (ds.set i (ar a ty (vs.set j.toNatClampNeg v))) q ls rest) : Go B Z a0 h0 Q k n ds pc ls st := by
  subst hp hst
  intro p l e s m args below meth c T locs hs as Cc X N M R
  obtain ⟨cl, A, ee, O⟩ := (M.at hi).arr
  obtain ⟨T', h', X', e', W', st'⟩ := stR X Cc.1 Cc.2.1 rfl A (inb ee hj (List.getElem?_eq_getElem hl)).1 hty (hS _ M) (g := mkF m pc ls (v :: .int j :: .ref a :: rest)) rfl rfl (hb Cc.2.2.1 hd)
  refine (H p l e s m args below meth c T' _ hs as Cc X' (Fr.snoc X' N (M.new hi)) ?_ (by rw [e']; exact R.wr hi W')).back st'
  rw [e']; exact M.wr hi W' (Holds.set A ee O W')
theorem Mo.sto {a y : Addr} {C : String} {vs : List Value} {i : Nat} (hi : ds[i]? = some (ar a (.object C) vs)) (hI : ∀ h, Mo Z a0 h0 ds h → Ins Z h y C true) : ∀ h, Mo Z a0 h0 ds h → Sto Z h a (.ref y) := fun h M => by
  obtain ⟨c, A, -, O⟩ := (M.at hi).arr; exact Sto.of A (O C rfl) (hI h M)
/-! the plain steps -/
theorem go_iloadN {j : Fin 4} {v : Int32} (q : Nat) (hp : pc + 1 = q) (hd : decode B.2.1 pc = .ok (.iload_n j, 1)) (hl : ls[j.val]? = some (.val (.int v))) (H : Go B Z a0 h0 Q k n ds q ls (.int v :: st)) : Go B Z a0 h0 Q k n ds pc ls st := by
  subst hp; exact H.step fun C X _ t hr => XS.iloadN X.here C.1 rfl (hb C.2.2.1 hd) hl hr
theorem go_iload {j : Nat} {v : Int32} (q : Nat) (hp : pc + 2 = q) (hd : decode B.2.1 pc = .ok (.iload j, 2)) (hl : ls[j]? = some (.val (.int v))) (H : Go B Z a0 h0 Q k n ds q ls (.int v :: st)) : Go B Z a0 h0 Q k n ds pc ls st := by
  subst hp; exact H.step fun C X _ t hr => XS.iload X.here C.1 rfl (hb C.2.2.1 hd) hl hr
theorem go_istoreN {j : Fin 4} {x : Int32} {rest : List Value} (l' : Array Slot) (q : Nat) (hp : pc + 1 = q) (hd : decode B.2.1 pc = .ok (.istore_n j, 1)) (hst : st = .int x :: rest) (hl : storeLocals ls j.val (.int x) = some l') (H : Go B Z a0 h0 Q k n ds q l' (rest)) : Go B Z a0 h0 Q k n ds pc ls st := by
  subst hp hst; exact H.step fun C X _ t hr => XS.istoreN X.here C.1 rfl (hb C.2.2.1 hd) rfl hl hr
theorem go_istore {j : Nat} {x : Int32} {rest : List Value} (l' : Array Slot) (q : Nat) (hp : pc + 2 = q) (hd : decode B.2.1 pc = .ok (.istore j, 2)) (hst : st = .int x :: rest) (hl : storeLocals ls j (.int x) = some l') (H : Go B Z a0 h0 Q k n ds q l' (rest)) : Go B Z a0 h0 Q k n ds pc ls st := by
  subst hp hst; exact H.step fun C X _ t hr => XS.istore X.here C.1 rfl (hb C.2.2.1 hd) rfl hl hr
theorem go_lloadN {j : Fin 4} {v : Int64} (q : Nat) (hp : pc + 1 = q) (hd : decode B.2.1 pc = .ok (.lload_n j, 1)) (hl : ls[j.val]? = some (.val (.long v))) (H : Go B Z a0 h0 Q k n ds q ls (.long v :: st)) : Go B Z a0 h0 Q k n ds pc ls st := by
  subst hp; exact H.step fun C X _ t hr => XS.lloadN X.here C.1 rfl (hb C.2.2.1 hd) hl hr
theorem go_lload {j : Nat} {v : Int64} (q : Nat) (hp : pc + 2 = q) (hd : decode B.2.1 pc = .ok (.lload j, 2)) (hl : ls[j]? = some (.val (.long v))) (H : Go B Z a0 h0 Q k n ds q ls (.long v :: st)) : Go B Z a0 h0 Q k n ds pc ls st := by
  subst hp; exact H.step fun C X _ t hr => XS.lload X.here C.1 rfl (hb C.2.2.1 hd) hl hr
theorem go_lstoreN {j : Fin 4} {x : Int64} {rest : List Value} (l' : Array Slot) (q : Nat) (hp : pc + 1 = q) (hd : decode B.2.1 pc = .ok (.lstore_n j, 1)) (hst : st = .long x :: rest) (hl : storeLocals ls j.val (.long x) = some l') (H : Go B Z a0 h0 Q k n ds q l' (rest)) : Go B Z a0 h0 Q k n ds pc ls st := by
  subst hp hst; exact H.step fun C X _ t hr => XS.lstoreN X.here C.1 rfl (hb C.2.2.1 hd) rfl hl hr
theorem go_lstore {j : Nat} {x : Int64} {rest : List Value} (l' : Array Slot) (q : Nat) (hp : pc + 2 = q) (hd : decode B.2.1 pc = .ok (.lstore j, 2)) (hst : st = .long x :: rest) (hl : storeLocals ls j (.long x) = some l') (H : Go B Z a0 h0 Q k n ds q l' (rest)) : Go B Z a0 h0 Q k n ds pc ls st := by
  subst hp hst; exact H.step fun C X _ t hr => XS.lstore X.here C.1 rfl (hb C.2.2.1 hd) rfl hl hr
theorem go_aloadN {j : Fin 4} {v : Value} (q : Nat) (hp : pc + 1 = q) (hd : decode B.2.1 pc = .ok (.aload_n j, 1)) (hl : ls[j.val]? = some (.val v)) (hv : v.isRef = true) (H : Go B Z a0 h0 Q k n ds q ls (v :: st)) : Go B Z a0 h0 Q k n ds pc ls st := by
  subst hp; exact H.step fun C X _ t hr => XS.aloadN X.here C.1 rfl (hb C.2.2.1 hd) hl hv hr
theorem go_aload {j : Nat} {v : Value} (q : Nat) (hp : pc + 2 = q) (hd : decode B.2.1 pc = .ok (.aload j, 2)) (hl : ls[j]? = some (.val v)) (hv : v.isRef = true) (H : Go B Z a0 h0 Q k n ds q ls (v :: st)) : Go B Z a0 h0 Q k n ds pc ls st := by
  subst hp; exact H.step fun C X _ t hr => XS.aload X.here C.1 rfl (hb C.2.2.1 hd) hl hv hr
theorem go_astoreN {j : Fin 4} {x : Value} {rest : List Value} (l' : Array Slot) (q : Nat) (hp : pc + 1 = q) (hd : decode B.2.1 pc = .ok (.astore_n j, 1)) (hst : st = x :: rest) (hv : x.isRef = true) (hl : storeLocals ls j.val x = some l') (H : Go B Z a0 h0 Q k n ds q l' (rest)) : Go B Z a0 h0 Q k n ds pc ls st := by
  subst hp hst; exact H.step fun C X _ t hr => XS.astoreN X.here C.1 rfl (hb C.2.2.1 hd) rfl hv hl hr
theorem go_astore {j : Nat} {x : Value} {rest : List Value} (l' : Array Slot) (q : Nat) (hp : pc + 2 = q) (hd : decode B.2.1 pc = .ok (.astore j, 2)) (hst : st = x :: rest) (hv : x.isRef = true) (hl : storeLocals ls j x = some l') (H : Go B Z a0 h0 Q k n ds q l' (rest)) : Go B Z a0 h0 Q k n ds pc ls st := by
  subst hp hst; exact H.step fun C X _ t hr => XS.astore X.here C.1 rfl (hb C.2.2.1 hd) rfl hv hl hr
theorem go_iconst {i : Int} (v : Int32) (q : Nat) (hp : pc + 1 = q) (hd : decode B.2.1 pc = .ok (.iconst i, 1)) (hv : Int32.ofInt i = v) (H : Go B Z a0 h0 Q k n ds q ls (.int v :: st)) : Go B Z a0 h0 Q k n ds pc ls st := by
  subst hp hv; exact H.step fun C X _ t hr => XS.iconst X.here C.1 rfl (hb C.2.2.1 hd) hr
theorem go_bipush {i : Int} (v : Int32) (q : Nat) (hp : pc + 2 = q) (hd : decode B.2.1 pc = .ok (.bipush i, 2)) (hv : (Int8.ofInt i).toInt32 = v) (H : Go B Z a0 h0 Q k n ds q ls (.int v :: st)) : Go B Z a0 h0 Q k n ds pc ls st := by
  subst hp hv; exact H.step fun C X _ t hr => XS.bipush X.here C.1 rfl (hb C.2.2.1 hd) hr
theorem go_sipush {i : Int} (v : Int32) (q : Nat) (hp : pc + 3 = q) (hd : decode B.2.1 pc = .ok (.sipush i, 3)) (hv : (Int16.ofInt i).toInt32 = v) (H : Go B Z a0 h0 Q k n ds q ls (.int v :: st)) : Go B Z a0 h0 Q k n ds pc ls st := by
  subst hp hv; exact H.step fun C X _ t hr => XS.sipush X.here C.1 rfl (hb C.2.2.1 hd) hr
theorem go_lconst {i : Fin 2} (v : Int64) (q : Nat) (hp : pc + 1 = q) (hd : decode B.2.1 pc = .ok (.lconst i, 1)) (hv : Int64.ofNat i.val = v) (H : Go B Z a0 h0 Q k n ds q ls (.long v :: st)) : Go B Z a0 h0 Q k n ds pc ls st := by
  subst hp hv; exact H.step fun C X _ t hr => XS.lconst X.here C.1 rfl (hb C.2.2.1 hd) hr
theorem go_aconstNull  (q : Nat) (hp : pc + 1 = q) (hd : decode B.2.1 pc = .ok (.aconst_null, 1)) (H : Go B Z a0 h0 Q k n ds q ls (.null :: st)) : Go B Z a0 h0 Q k n ds pc ls st := by
  subst hp; exact H.step fun C X _ t hr => XS.aconstNull X.here C.1 rfl (hb C.2.2.1 hd)  hr
theorem go_iadd {x y : Int32} {rest : List Value} (q : Nat) (hp : pc + 1 = q) (hd : decode B.2.1 pc = .ok (.iadd, 1)) (hst : st = .int y :: .int x :: rest) (H : Go B Z a0 h0 Q k n ds q ls (.int (x + y) :: rest)) : Go B Z a0 h0 Q k n ds pc ls st := by
  subst hp hst; exact H.step fun C X _ t hr => XS.iadd X.here C.1 rfl (hb C.2.2.1 hd) rfl hr
theorem go_isub {x y : Int32} {rest : List Value} (q : Nat) (hp : pc + 1 = q) (hd : decode B.2.1 pc = .ok (.isub, 1)) (hst : st = .int y :: .int x :: rest) (H : Go B Z a0 h0 Q k n ds q ls (.int (x - y) :: rest)) : Go B Z a0 h0 Q k n ds pc ls st := by
  subst hp hst; exact H.step fun C X _ t hr => XS.isub X.here C.1 rfl (hb C.2.2.1 hd) rfl hr
theorem go_imul {x y : Int32} {rest : List Value} (q : Nat) (hp : pc + 1 = q) (hd : decode B.2.1 pc = .ok (.imul, 1)) (hst : st = .int y :: .int x :: rest) (H : Go B Z a0 h0 Q k n ds q ls (.int (x * y) :: rest)) : Go B Z a0 h0 Q k n ds pc ls st := by
  subst hp hst; exact H.step fun C X _ t hr => XS.imul X.here C.1 rfl (hb C.2.2.1 hd) rfl hr
theorem go_iand {x y : Int32} {rest : List Value} (q : Nat) (hp : pc + 1 = q) (hd : decode B.2.1 pc = .ok (.iand, 1)) (hst : st = .int y :: .int x :: rest) (H : Go B Z a0 h0 Q k n ds q ls (.int (x &&& y) :: rest)) : Go B Z a0 h0 Q k n ds pc ls st := by
  subst hp hst; exact H.step fun C X _ t hr => XS.iand X.here C.1 rfl (hb C.2.2.1 hd) rfl hr
theorem go_ior {x y : Int32} {rest : List Value} (q : Nat) (hp : pc + 1 = q) (hd : decode B.2.1 pc = .ok (.ior, 1)) (hst : st = .int y :: .int x :: rest) (H : Go B Z a0 h0 Q k n ds q ls (.int (x ||| y) :: rest)) : Go B Z a0 h0 Q k n ds pc ls st := by
  subst hp hst; exact H.step fun C X _ t hr => XS.ior X.here C.1 rfl (hb C.2.2.1 hd) rfl hr
theorem go_ixor {x y : Int32} {rest : List Value} (q : Nat) (hp : pc + 1 = q) (hd : decode B.2.1 pc = .ok (.ixor, 1)) (hst : st = .int y :: .int x :: rest) (H : Go B Z a0 h0 Q k n ds q ls (.int (x ^^^ y) :: rest)) : Go B Z a0 h0 Q k n ds pc ls st := by
  subst hp hst; exact H.step fun C X _ t hr => XS.ixor X.here C.1 rfl (hb C.2.2.1 hd) rfl hr
theorem go_ishl {x y : Int32} {rest : List Value} (q : Nat) (hp : pc + 1 = q) (hd : decode B.2.1 pc = .ok (.ishl, 1)) (hst : st = .int y :: .int x :: rest) (H : Go B Z a0 h0 Q k n ds q ls (.int (x <<< (y &&& 31)) :: rest)) : Go B Z a0 h0 Q k n ds pc ls st := by
  subst hp hst; exact H.step fun C X _ t hr => XS.ishl X.here C.1 rfl (hb C.2.2.1 hd) rfl hr
theorem go_ishr {x y : Int32} {rest : List Value} (q : Nat) (hp : pc + 1 = q) (hd : decode B.2.1 pc = .ok (.ishr, 1)) (hst : st = .int y :: .int x :: rest) (H : Go B Z a0 h0 Q k n ds q ls (.int (x >>> (y &&& 31)) :: rest)) : Go B Z a0 h0 Q k n ds pc ls st := by
  subst hp hst; exact H.step fun C X _ t hr => XS.ishr X.here C.1 rfl (hb C.2.2.1 hd) rfl hr
theorem go_iushr {x y : Int32} {rest : List Value} (q : Nat) (hp : pc + 1 = q) (hd : decode B.2.1 pc = .ok (.iushr, 1)) (hst : st = .int y :: .int x :: rest) (H : Go B Z a0 h0 Q k n ds q ls (.int ((x.toUInt32 >>> (y &&& 31).toUInt32).toInt32) :: rest)) : Go B Z a0 h0 Q k n ds pc ls st := by
  subst hp hst; exact H.step fun C X _ t hr => XS.iushr X.here C.1 rfl (hb C.2.2.1 hd) rfl hr
theorem go_ladd {x y : Int64} {rest : List Value} (q : Nat) (hp : pc + 1 = q) (hd : decode B.2.1 pc = .ok (.ladd, 1)) (hst : st = .long y :: .long x :: rest) (H : Go B Z a0 h0 Q k n ds q ls (.long (x + y) :: rest)) : Go B Z a0 h0 Q k n ds pc ls st := by
  subst hp hst; exact H.step fun C X _ t hr => XS.ladd X.here C.1 rfl (hb C.2.2.1 hd) rfl hr
theorem go_lsub {x y : Int64} {rest : List Value} (q : Nat) (hp : pc + 1 = q) (hd : decode B.2.1 pc = .ok (.lsub, 1)) (hst : st = .long y :: .long x :: rest) (H : Go B Z a0 h0 Q k n ds q ls (.long (x - y) :: rest)) : Go B Z a0 h0 Q k n ds pc ls st := by
  subst hp hst; exact H.step fun C X _ t hr => XS.lsub X.here C.1 rfl (hb C.2.2.1 hd) rfl hr
theorem go_lmul {x y : Int64} {rest : List Value} (q : Nat) (hp : pc + 1 = q) (hd : decode B.2.1 pc = .ok (.lmul, 1)) (hst : st = .long y :: .long x :: rest) (H : Go B Z a0 h0 Q k n ds q ls (.long (x * y) :: rest)) : Go B Z a0 h0 Q k n ds pc ls st := by
  subst hp hst; exact H.step fun C X _ t hr => XS.lmul X.here C.1 rfl (hb C.2.2.1 hd) rfl hr
theorem go_land {x y : Int64} {rest : List Value} (q : Nat) (hp : pc + 1 = q) (hd : decode B.2.1 pc = .ok (.land, 1)) (hst : st = .long y :: .long x :: rest) (H : Go B Z a0 h0 Q k n ds q ls (.long (x &&& y) :: rest)) : Go B Z a0 h0 Q k n ds pc ls st := by
  subst hp hst; exact H.step fun C X _ t hr => XS.land X.here C.1 rfl (hb C.2.2.1 hd) rfl hr
theorem go_lor {x y : Int64} {rest : List Value} (q : Nat) (hp : pc + 1 = q) (hd : decode B.2.1 pc = .ok (.lor, 1)) (hst : st = .long y :: .long x :: rest) (H : Go B Z a0 h0 Q k n ds q ls (.long (x ||| y) :: rest)) : Go B Z a0 h0 Q k n ds pc ls st := by
  subst hp hst; exact H.step fun C X _ t hr => XS.lor X.here C.1 rfl (hb C.2.2.1 hd) rfl hr
theorem go_lxor {x y : Int64} {rest : List Value} (q : Nat) (hp : pc + 1 = q) (hd : decode B.2.1 pc = .ok (.lxor, 1)) (hst : st = .long y :: .long x :: rest) (H : Go B Z a0 h0 Q k n ds q ls (.long (x ^^^ y) :: rest)) : Go B Z a0 h0 Q k n ds pc ls st := by
  subst hp hst; exact H.step fun C X _ t hr => XS.lxor X.here C.1 rfl (hb C.2.2.1 hd) rfl hr
theorem go_lshl {x : Int64} {y : Int32} {rest : List Value} (q : Nat) (hp : pc + 1 = q) (hd : decode B.2.1 pc = .ok (.lshl, 1)) (hst : st = .int y :: .long x :: rest) (H : Go B Z a0 h0 Q k n ds q ls (.long (x <<< (y &&& 0x3f).toInt64) :: rest)) : Go B Z a0 h0 Q k n ds pc ls st := by
  subst hp hst; exact H.step fun C X _ t hr => XS.lshl X.here C.1 rfl (hb C.2.2.1 hd) rfl hr
theorem go_lshr {x : Int64} {y : Int32} {rest : List Value} (q : Nat) (hp : pc + 1 = q) (hd : decode B.2.1 pc = .ok (.lshr, 1)) (hst : st = .int y :: .long x :: rest) (H : Go B Z a0 h0 Q k n ds q ls (.long (x >>> (y &&& 0x3f).toInt64) :: rest)) : Go B Z a0 h0 Q k n ds pc ls st := by
  subst hp hst; exact H.step fun C X _ t hr => XS.lshr X.here C.1 rfl (hb C.2.2.1 hd) rfl hr
theorem go_lushr {x : Int64} {y : Int32} {rest : List Value} (q : Nat) (hp : pc + 1 = q) (hd : decode B.2.1 pc = .ok (.lushr, 1)) (hst : st = .int y :: .long x :: rest) (H : Go B Z a0 h0 Q k n ds q ls (.long ((x.toUInt64 >>> (y &&& 0x3f).toInt64.toUInt64).toInt64) :: rest)) : Go B Z a0 h0 Q k n ds pc ls st := by
  subst hp hst; exact H.step fun C X _ t hr => XS.lushr X.here C.1 rfl (hb C.2.2.1 hd) rfl hr
theorem go_idiv {x y : Int32} {rest : List Value} (q : Nat) (hp : pc + 1 = q) (hd : decode B.2.1 pc = .ok (.idiv, 1)) (hst : st = .int y :: .int x :: rest) (hy : y ≠ 0) (H : Go B Z a0 h0 Q k n ds q ls (.int (x / y) :: rest)) : Go B Z a0 h0 Q k n ds pc ls st := by
  subst hp hst; exact H.step fun C X _ t hr => XS.idiv X.here C.1 rfl (hb C.2.2.1 hd) rfl hy hr
theorem go_ldiv {x y : Int64} {rest : List Value} (q : Nat) (hp : pc + 1 = q) (hd : decode B.2.1 pc = .ok (.ldiv, 1)) (hst : st = .long y :: .long x :: rest) (hy : y ≠ 0) (H : Go B Z a0 h0 Q k n ds q ls (.long (x / y) :: rest)) : Go B Z a0 h0 Q k n ds pc ls st := by
  subst hp hst; exact H.step fun C X _ t hr => XS.ldiv X.here C.1 rfl (hb C.2.2.1 hd) rfl hy hr
theorem go_irem {x y : Int32} {rest : List Value} (q : Nat) (hp : pc + 1 = q) (hd : decode B.2.1 pc = .ok (.irem, 1)) (hst : st = .int y :: .int x :: rest) (hy : y ≠ 0) (H : Go B Z a0 h0 Q k n ds q ls (.int (x % y) :: rest)) : Go B Z a0 h0 Q k n ds pc ls st := by
  subst hp hst; exact H.step fun C X _ t hr => iremM X C.1 rfl (hb C.2.2.1 hd) rfl hy hr
theorem go_lrem {x y : Int64} {rest : List Value} (q : Nat) (hp : pc + 1 = q) (hd : decode B.2.1 pc = .ok (.lrem, 1)) (hst : st = .long y :: .long x :: rest) (hy : y ≠ 0) (H : Go B Z a0 h0 Q k n ds q ls (.long (x % y) :: rest)) : Go B Z a0 h0 Q k n ds pc ls st := by
  subst hp hst; exact H.step fun C X _ t hr => XS.lrem X.here C.1 rfl (hb C.2.2.1 hd) rfl hy (by rw [lrem_mod]; exact hr)
theorem go_ineg {x : Int32} {rest : List Value} (q : Nat) (hp : pc + 1 = q) (hd : decode B.2.1 pc = .ok (.ineg, 1)) (hst : st = .int x :: rest) (H : Go B Z a0 h0 Q k n ds q ls (.int (-x) :: rest)) : Go B Z a0 h0 Q k n ds pc ls st := by
  subst hp hst; exact H.step fun C X _ t hr => XS.ineg X.here C.1 rfl (hb C.2.2.1 hd) rfl hr
theorem go_lneg {x : Int64} {rest : List Value} (q : Nat) (hp : pc + 1 = q) (hd : decode B.2.1 pc = .ok (.lneg, 1)) (hst : st = .long x :: rest) (H : Go B Z a0 h0 Q k n ds q ls (.long (-x) :: rest)) : Go B Z a0 h0 Q k n ds pc ls st := by
  subst hp hst; exact H.step fun C X _ t hr => XS.lneg X.here C.1 rfl (hb C.2.2.1 hd) rfl hr
theorem go_i2l {x : Int32} {rest : List Value} (q : Nat) (hp : pc + 1 = q) (hd : decode B.2.1 pc = .ok (.i2l, 1)) (hst : st = .int x :: rest) (H : Go B Z a0 h0 Q k n ds q ls (.long x.toInt64 :: rest)) : Go B Z a0 h0 Q k n ds pc ls st := by
  subst hp hst; exact H.step fun C X _ t hr => XS.i2l X.here C.1 rfl (hb C.2.2.1 hd) rfl hr
theorem go_l2i {x : Int64} {rest : List Value} (q : Nat) (hp : pc + 1 = q) (hd : decode B.2.1 pc = .ok (.l2i, 1)) (hst : st = .long x :: rest) (H : Go B Z a0 h0 Q k n ds q ls (.int x.toInt32 :: rest)) : Go B Z a0 h0 Q k n ds pc ls st := by
  subst hp hst; exact H.step fun C X _ t hr => XS.l2i X.here C.1 rfl (hb C.2.2.1 hd) rfl hr
theorem go_i2b {x : Int32} {rest : List Value} (q : Nat) (hp : pc + 1 = q) (hd : decode B.2.1 pc = .ok (.i2b, 1)) (hst : st = .int x :: rest) (H : Go B Z a0 h0 Q k n ds q ls (.int x.toInt8.toInt32 :: rest)) : Go B Z a0 h0 Q k n ds pc ls st := by
  subst hp hst; exact H.step fun C X _ t hr => XS.i2b X.here C.1 rfl (hb C.2.2.1 hd) rfl hr
theorem go_i2c {x : Int32} {rest : List Value} (q : Nat) (hp : pc + 1 = q) (hd : decode B.2.1 pc = .ok (.i2c, 1)) (hst : st = .int x :: rest) (H : Go B Z a0 h0 Q k n ds q ls (.int x.toUInt32.toUInt16.toUInt32.toInt32 :: rest)) : Go B Z a0 h0 Q k n ds pc ls st := by
  subst hp hst; exact H.step fun C X _ t hr => XS.i2c X.here C.1 rfl (hb C.2.2.1 hd) rfl hr
theorem go_i2s {x : Int32} {rest : List Value} (q : Nat) (hp : pc + 1 = q) (hd : decode B.2.1 pc = .ok (.i2s, 1)) (hst : st = .int x :: rest) (H : Go B Z a0 h0 Q k n ds q ls (.int x.toInt16.toInt32 :: rest)) : Go B Z a0 h0 Q k n ds pc ls st := by
  subst hp hst; exact H.step fun C X _ t hr => XS.i2s X.here C.1 rfl (hb C.2.2.1 hd) rfl hr
theorem go_lcmp {x y : Int64} {rest : List Value} (q : Nat) (hp : pc + 1 = q) (hd : decode B.2.1 pc = .ok (.lcmp, 1)) (hst : st = .long y :: .long x :: rest) (H : Go B Z a0 h0 Q k n ds q ls (.int (lcmpW x y) :: rest)) : Go B Z a0 h0 Q k n ds pc ls st := by
  subst hp hst; exact H.step fun C X _ t hr => XS.lcmp X.here C.1 rfl (hb C.2.2.1 hd) rfl hr
theorem go_iinc {j : Nat} {cst : Int} {x : Int32} (l' : Array Slot) (q : Nat) (hp : pc + 3 = q) (hd : decode B.2.1 pc = .ok (.iinc j cst, 3)) (hl : ls[j]? = some (.val (.int x))) (hl' : storeLocals ls j (.int (x + Int32.ofInt cst)) = some l') (H : Go B Z a0 h0 Q k n ds q l' (st)) : Go B Z a0 h0 Q k n ds pc ls st := by
  subst hp; exact H.step fun C X _ t hr => XS.iinc X.here C.1 rfl (hb C.2.2.1 hd) hl hl' hr
theorem go_dup {x : Value} {rest : List Value} (q : Nat) (hp : pc + 1 = q) (hd : decode B.2.1 pc = .ok (.dup, 1)) (hst : st = x :: rest) (hc : x.category = 1) (H : Go B Z a0 h0 Q k n ds q ls (x :: x :: rest)) : Go B Z a0 h0 Q k n ds pc ls st := by
  subst hp hst; exact H.step fun C X _ t hr => XS.dup X.here C.1 rfl (hb C.2.2.1 hd) rfl hc hr
theorem go_pop {x : Value} {rest : List Value} (q : Nat) (hp : pc + 1 = q) (hd : decode B.2.1 pc = .ok (.pop, 1)) (hst : st = x :: rest) (hc : x.category = 1) (H : Go B Z a0 h0 Q k n ds q ls (rest)) : Go B Z a0 h0 Q k n ds pc ls st := by
  subst hp hst; exact H.step fun C X _ t hr => XS.pop X.here C.1 rfl (hb C.2.2.1 hd) rfl hc hr
theorem go_dupX1 {x y : Value} {rest : List Value} (q : Nat) (hp : pc + 1 = q) (hd : decode B.2.1 pc = .ok (.dup_x1, 1)) (hst : st = x :: y :: rest) (hc : x.category = 1) (hc' : y.category = 1) (H : Go B Z a0 h0 Q k n ds q ls (x :: y :: x :: rest)) : Go B Z a0 h0 Q k n ds pc ls st := by
  subst hp hst; exact H.step fun C X _ t hr => XS.dupX1 X.here C.1 rfl (hb C.2.2.1 hd) rfl hc hc' hr
theorem go_swap {x y : Value} {rest : List Value} (q : Nat) (hp : pc + 1 = q) (hd : decode B.2.1 pc = .ok (.swap, 1)) (hst : st = x :: y :: rest) (hc : x.category = 1) (hc' : y.category = 1) (H : Go B Z a0 h0 Q k n ds q ls (y :: x :: rest)) : Go B Z a0 h0 Q k n ds pc ls st := by
  subst hp hst; exact H.step fun C X _ t hr => XS.swap X.here C.1 rfl (hb C.2.2.1 hd) rfl hc hc' hr
theorem go_dup2 {x y : Value} {rest : List Value} (q : Nat) (hp : pc + 1 = q) (hd : decode B.2.1 pc = .ok (.dup2, 1)) (hst : st = x :: y :: rest) (hc : x.category = 1) (hc' : y.category = 1) (H : Go B Z a0 h0 Q k n ds q ls (x :: y :: x :: y :: rest)) : Go B Z a0 h0 Q k n ds pc ls st := by
  subst hp hst; exact H.step fun C X _ t hr => XT.dup2 X.here C.1 rfl (hb C.2.2.1 hd) rfl hc hc' hr
theorem go_dup2L {x : Int64} {rest : List Value} (q : Nat) (hp : pc + 1 = q) (hd : decode B.2.1 pc = .ok (.dup2, 1)) (hst : st = .long x :: rest) (H : Go B Z a0 h0 Q k n ds q ls (.long x :: .long x :: rest)) : Go B Z a0 h0 Q k n ds pc ls st := by
  subst hp hst; exact H.step fun C X _ t hr => XT.dup2L X.here C.1 rfl (hb C.2.2.1 hd) rfl hr
/-! calls: the callee's Met pays -/
theorem go_initObj {a : Addr} {idx : Nat} {rest : List Value} (q : Nat) (hp : pc + 3 = q) (hd : decode B.2.1 pc = .ok (.invokespecial idx, 3)) (hst : st = .ref a :: rest) (w1 : (Jvm.Cond.methodLink B.1.cls idx Lib.objectInit).before a0 Z = true) (w2 : (Jvm.Cond.instanceMethod Lib.objectInit).before a0 Z = true) (w3 : (Jvm.Cond.code Lib.objectInit ⟨#[0xb1]⟩ 1 none).before a0 Z = true)
    (hsz : ls.size = B.2.2.1) (hf : 1 ≤ B.2.2.2.2.frames) (hl : (rest.map fun v => v.category).sum + 12 ≤ B.2.2.2.2.locals) (H : Go B Z a0 h0 Q k n ds q ls rest) : Go B Z a0 h0 Q k n ds pc ls st := by
  subst hp hst
  intro p l e s m args below meth c T locs hs as Cc X N M R
  obtain ⟨T', X', e', st'⟩ := initO X Cc.1 Cc.2.1 Cc.2.2.2.2.1 w1 w2 w3 rfl (g := mkF m pc ls (.ref a :: rest)) rfl (hsz.trans Cc.2.2.2.1.symm) rfl (hb Cc.2.2.1 hd) hf (W := (rest.map fun v => v.category).sum) (by show 2 * 0 + _ ≤ _; omega) hl
  exact (H p l e s m args below meth c T' locs hs as Cc X' N (by rw [e']; exact M) (by rw [e']; exact R)).back st'
variable {y z : MethodName} {bytes : ByteArray} {maxL : Nat} {ret : Option FieldType} {rm : Room} {idx : Nat} {argsL rest : List Value} {ps : List FieldType} {Q' : Option Value → Mem → Prop}
theorem go_callS (q : Nat) (hp : pc + 3 = q) (hd : decode B.2.1 pc = .ok (.invokestatic idx, 3)) (w1 : (Jvm.Cond.methodLink B.1.cls idx y).before a0 Z = true) (w2 : (Jvm.Cond.static y).before a0 Z = true) (w3 : (Jvm.Cond.initialized y.cls).before a0 Z = true) (w4 : (Jvm.Cond.code y bytes maxL ret).before a0 Z = true)
    (hy : y.cls ≠ "java/lang/invoke/MethodHandle" ∧ y.cls ≠ "java/lang/invoke/VarHandle") (hM : Met (y, bytes, maxL, ret, rm) Z a0 h0 argsL.toArray ds Q') (hst : st = argsL.reverse ++ rest) (hpd : parseMethodDescriptor y.desc = some ⟨ps, ret⟩) (hlen : argsL.length = ps.length)
    (hsz : ls.size = B.2.2.1) (W : Nat) (hW : (rest.map fun v => v.category).sum = W) (hf : rm.frames + 1 ≤ B.2.2.2.2.frames) (hl : W + (maxL + 11) + rm.locals ≤ B.2.2.2.2.locals) (hk : k + rm.cells ≤ B.2.2.2.2.cells) (hn : n + rm.slots ≤ B.2.2.2.2.slots)
    (H : ∀ v ds', Q' v ds' → Go B Z a0 h0 Q (k + rm.cells) (n + rm.slots) ds' q ls (v.toList ++ rest)) : Go B Z a0 h0 Q k n ds pc ls st := by
  subst hp hst
  intro p l e s m args below meth c T locs hs as Cc X N M R
  have hZ := Cc.2.1
  obtain ⟨v, _, ⟨T', L', k', n'⟩, -, X', ⟨Lc, hQ, l1, y1, z1⟩, st'⟩ := Jvm.LawKit.callS X Cc.1 (y := y) Cc.2.2.2.2.1 (mvT hZ w1) (mvT hZ w2) (mvT hZ w3) (mvT hZ w4) hy (backOf (W := W) (hM l [] T.heap M) hZ w4 w3 hf hl) (g := mkF m pc ls (argsL.reverse ++ rest)) rfl (hsz.trans Cc.2.2.2.1.symm) (argsL := argsL) (rest := rest) (lenOf hpd hlen) rfl (by show 2 * 0 + _ ≤ _; omega) (hb Cc.2.2.1 hd) (fun _ _ => ⟨rfl, rfl, hk, hn⟩)
  dsimp only [Pt.U, Pt.locs, Pt.cells, Pt.slots] at X' l1 y1 z1 st' hQ
  subst l1 y1 z1
  obtain ⟨N', ds', M', R', hq⟩ := hQ
  exact (H v ds' hq p l e s m args below meth c T' _ hs as Cc X' (Fr.app N N') M' (R.call R')).back st'
theorem go_callI {a : Addr} (q : Nat) (hp : pc + 3 = q) (hd : decode B.2.1 pc = .ok (.invokespecial idx, 3)) (hin : y.name = "<init>") (w1 : (Jvm.Cond.methodLink B.1.cls idx y).before a0 Z = true) (w2 : (Jvm.Cond.instanceMethod y).before a0 Z = true) (w3 : (Jvm.Cond.initialized y.cls).before a0 Z = true) (w4 : (Jvm.Cond.code y bytes maxL none).before a0 Z = true)
    (hy : y.cls ≠ "java/lang/invoke/MethodHandle" ∧ y.cls ≠ "java/lang/invoke/VarHandle") (hM : Met (y, bytes, maxL, none, rm) Z a0 h0 (.ref a :: argsL).toArray ds Q') (hst : st = argsL.reverse ++ .ref a :: rest) (hpd : parseMethodDescriptor y.desc = some ⟨ps, ret⟩) (hlen : argsL.length = ps.length)
    (hsz : ls.size = B.2.2.1) (W : Nat) (hW : (rest.map fun v => v.category).sum = W) (hf : rm.frames + 1 ≤ B.2.2.2.2.frames) (hl : W + (maxL + 11) + rm.locals ≤ B.2.2.2.2.locals) (hk : k + rm.cells ≤ B.2.2.2.2.cells) (hn : n + rm.slots ≤ B.2.2.2.2.slots)
    (H : ∀ v ds', Q' v ds' → Go B Z a0 h0 Q (k + rm.cells) (n + rm.slots) ds' q ls (v.toList ++ rest)) : Go B Z a0 h0 Q k n ds pc ls st := by
  subst hp hst
  intro p l e s m args below meth c T locs hs as Cc X N M R
  have hZ := Cc.2.1
  obtain ⟨v, _, ⟨T', L', k', n'⟩, -, X', ⟨Lc, hQ, l1, y1, z1⟩, st'⟩ := X.specialBack Cc.1 (y := y) hin Cc.2.2.2.2.1 (mvT hZ w1) (mvT hZ w2) (mvT hZ w4) hy (backOf (W := W) (hM l [] T.heap M) hZ w4 w3 hf hl) (g := mkF m pc ls (argsL.reverse ++ .ref a :: rest)) rfl (hsz.trans Cc.2.2.2.1.symm) (Steps.refl _) (a := a) (argsL := argsL) (rest := rest) (lenOf hpd hlen) rfl (by show 2 * 0 + _ ≤ _; omega) (hb Cc.2.2.1 hd) (fun _ _ => ⟨rfl, rfl, hk, hn⟩)
  dsimp only [Pt.U, Pt.locs, Pt.cells, Pt.slots] at X' l1 y1 z1 st' hQ
  subst l1 y1 z1
  obtain ⟨N', ds', M', R', hq⟩ := hQ
  exact (H v ds' hq p l e s m args below meth c T' _ hs as Cc X' (Fr.app N N') M' (R.call R')).back fun t hr => st'.trans hr
theorem go_callVz {a : Addr} {C : String} (q : Nat) (hp : pc + 3 = q) (hd : decode B.2.1 pc = .ok (.invokevirtual idx, 3)) (w1 : (Jvm.Cond.methodLink B.1.cls idx y).before a0 Z = true) (w2 : (Jvm.Cond.declares y).before a0 Z = true) (w3 : (Jvm.Cond.selects C y z).before a0 Z = true) (w4 : (Jvm.Cond.instanceMethod z).before a0 Z = true) (w5 : (Jvm.Cond.initialized z.cls).before a0 Z = true) (w6 : (Jvm.Cond.code z bytes maxL ret).before a0 Z = true)
    (hnf : ∀ s : State, Z.Warmed39 s.vm → NotFace s y) (hy : y.cls ≠ "java/lang/invoke/MethodHandle" ∧ y.cls ≠ "java/lang/invoke/VarHandle") (hE : ∀ h, Mo Z a0 h0 ds h → Exa Z h a C) (hM : Met (z, bytes, maxL, ret, rm) Z a0 h0 (.ref a :: argsL).toArray ds Q') (hst : st = argsL.reverse ++ .ref a :: rest) (hpd : parseMethodDescriptor y.desc = some ⟨ps, ret⟩) (hlen : argsL.length = ps.length)
    (hsz : ls.size = B.2.2.1) (W : Nat) (hW : (rest.map fun v => v.category).sum = W) (hf : rm.frames + 1 ≤ B.2.2.2.2.frames) (hl : W + (maxL + 11) + rm.locals ≤ B.2.2.2.2.locals) (hk : k + rm.cells ≤ B.2.2.2.2.cells) (hn : n + rm.slots ≤ B.2.2.2.2.slots)
    (H : ∀ v ds', Q' v ds' → Go B Z a0 h0 Q (k + rm.cells) (n + rm.slots) ds' q ls (v.toList ++ rest)) : Go B Z a0 h0 Q k n ds pc ls st := by
  subst hp hst
  intro p l e s m args below meth c T locs hs as Cc X N M R
  have hZ := Cc.2.1
  obtain ⟨cq, kq, qa, qb, qc⟩ := isOf hZ rfl (hE _ M)
  obtain ⟨v, _, ⟨T', L', k', n'⟩, -, X', ⟨Lc, hQ, l1, y1, z1⟩, st'⟩ := X.virtualBack Cc.1 (y := y) (z := z) Cc.2.2.2.2.1 (mvT hZ w1) (mvT hZ w2) (hnf _ hZ) (mvT hZ w3) (mvT hZ w4) hy (backOf (W := W) (hM l [] T.heap M) hZ w6 w5 hf hl) qa qc (g := mkF m pc ls (argsL.reverse ++ .ref a :: rest)) rfl (hsz.trans Cc.2.2.2.1.symm) (Steps.refl _) (argsL := argsL) (rest := rest) (lenOf hpd hlen) rfl (by show 2 * 0 + _ ≤ _; omega) (hb Cc.2.2.1 hd) (fun _ _ => ⟨rfl, rfl, hk, hn⟩)
  dsimp only [Pt.U, Pt.locs, Pt.cells, Pt.slots] at X' l1 y1 z1 st' hQ
  subst l1 y1 z1
  obtain ⟨N', ds', M', R', hq⟩ := hQ
  exact (H v ds' hq p l e s m args below meth c T' _ hs as Cc X' (Fr.app N N') M' (R.call R')).back fun t hr => st'.trans hr
theorem go_callV {a : Addr} {C : String} (q : Nat) (hp : pc + 3 = q) (hd : decode B.2.1 pc = .ok (.invokevirtual idx, 3)) (w1 : (Jvm.Cond.methodLink B.1.cls idx y).before a0 Z = true) (w2 : (Jvm.Cond.declares y).before a0 Z = true) (w3 : (Jvm.Cond.selects C y y).before a0 Z = true) (w4 : (Jvm.Cond.instanceMethod y).before a0 Z = true) (w5 : (Jvm.Cond.initialized y.cls).before a0 Z = true) (w6 : (Jvm.Cond.code y bytes maxL ret).before a0 Z = true)
    (hy : y.cls ≠ "java/lang/invoke/MethodHandle" ∧ y.cls ≠ "java/lang/invoke/VarHandle") (hE : ∀ h, Mo Z a0 h0 ds h → Exa Z h a C) (hM : Met (y, bytes, maxL, ret, rm) Z a0 h0 (.ref a :: argsL).toArray ds Q') (hst : st = argsL.reverse ++ .ref a :: rest) (hpd : parseMethodDescriptor y.desc = some ⟨ps, ret⟩) (hlen : argsL.length = ps.length)
    (hsz : ls.size = B.2.2.1) (W : Nat) (hW : (rest.map fun v => v.category).sum = W) (hf : rm.frames + 1 ≤ B.2.2.2.2.frames) (hl : W + (maxL + 11) + rm.locals ≤ B.2.2.2.2.locals) (hk : k + rm.cells ≤ B.2.2.2.2.cells) (hn : n + rm.slots ≤ B.2.2.2.2.slots)
    (H : ∀ v ds', Q' v ds' → Go B Z a0 h0 Q (k + rm.cells) (n + rm.slots) ds' q ls (v.toList ++ rest)) : Go B Z a0 h0 Q k n ds pc ls st :=
  go_callVz q hp hd w1 w2 w3 w4 w5 w6 (fun s hZ => notFace_of_selects (args := #[]) (mvT hZ w3)) hy hE hM hst hpd hlen hsz W hW hf hl hk hn H
theorem go_callVU {a : Addr} {C owner : String} (q : Nat) (hp : pc + 3 = q) (hd : decode B.2.1 pc = .ok (.invokevirtual idx, 3)) (w1 : (Jvm.Cond.methodLink B.1.cls idx y).before a0 Z = true) (w0 : (Jvm.Cond.sameMethod y.cls owner y.name y.desc).before a0 Z = true) (w2 : (Jvm.Cond.declares ⟨owner, y.name, y.desc⟩).before a0 Z = true) (w3 : (Jvm.Cond.selects C y z).before a0 Z = true) (w4 : (Jvm.Cond.instanceMethod z).before a0 Z = true) (w5 : (Jvm.Cond.initialized z.cls).before a0 Z = true) (w6 : (Jvm.Cond.code z bytes maxL ret).before a0 Z = true)
    (hy : owner ≠ "java/lang/invoke/MethodHandle" ∧ owner ≠ "java/lang/invoke/VarHandle") (hE : ∀ h, Mo Z a0 h0 ds h → Exa Z h a C) (hM : Met (z, bytes, maxL, ret, rm) Z a0 h0 (.ref a :: argsL).toArray ds Q') (hst : st = argsL.reverse ++ .ref a :: rest) (hpd : parseMethodDescriptor y.desc = some ⟨ps, ret⟩) (hlen : argsL.length = ps.length)
    (hsz : ls.size = B.2.2.1) (W : Nat) (hW : (rest.map fun v => v.category).sum = W) (hf : rm.frames + 1 ≤ B.2.2.2.2.frames) (hl : W + (maxL + 11) + rm.locals ≤ B.2.2.2.2.locals) (hk : k + rm.cells ≤ B.2.2.2.2.cells) (hn : n + rm.slots ≤ B.2.2.2.2.slots)
    (H : ∀ v ds', Q' v ds' → Go B Z a0 h0 Q (k + rm.cells) (n + rm.slots) ds' q ls (v.toList ++ rest)) : Go B Z a0 h0 Q k n ds pc ls st := by
  subst hp hst
  intro p l e s m args below meth c T locs hs as Cc X N M R
  have hZ := Cc.2.1
  obtain ⟨cq, kq, qa, qb, qc⟩ := isOf hZ rfl (hE _ M)
  obtain ⟨v, _, ⟨T', L', k', n'⟩, -, X', ⟨Lc, hQ, l1, y1, z1⟩, st'⟩ := X.virtualBackUp Cc.1 (x := y) (y := z) Cc.2.2.2.2.1 (mvT hZ w1) (mvT hZ w0) (mvT hZ w2) hy (mvT hZ w3) (mvT hZ w4) (backOf (W := W) (hM l [] T.heap M) hZ w6 w5 hf hl) qa qc (g := mkF m pc ls (argsL.reverse ++ .ref a :: rest)) rfl (hsz.trans Cc.2.2.2.1.symm) (Steps.refl _) (argsL := argsL) (rest := rest) (lenOf hpd hlen) rfl (by show 2 * 0 + _ ≤ _; omega) (hb Cc.2.2.1 hd) (fun _ _ => ⟨rfl, rfl, hk, hn⟩)
  dsimp only [Pt.U, Pt.locs, Pt.cells, Pt.slots] at X' l1 y1 z1 st' hQ
  subst l1 y1 z1
  obtain ⟨N', ds', M', R', hq⟩ := hQ
  exact (H v ds' hq p l e s m args below meth c T' _ hs as Cc X' (Fr.app N N') M' (R.call R')).back fun t hr => st'.trans hr
end Core
end Jvm.OwnW

namespace Jvm.Pilot.@@N@@
open Jvm Jvm.ClassFile Sem Op Lib Jvm.Free Jvm.Stand Jvm.LawKit Jvm.RoadKit Bundle Jvm.OwnW Jvm.Pilot.@@N@@.Jvm.D


theorem d3_0 : decode method_2_code 0 = .ok (.iload_n 0, 1) := by decide +kernel
theorem d3_1 : decode method_2_code 1 = .ok (.bipush 97, 2) := by decide +kernel
theorem d3_3 : decode method_2_code 3 = .ok (.if_icmp .lt 11, 3) := by decide +kernel
theorem d3_6 : decode method_2_code 6 = .ok (.iload_n 0, 1) := by decide +kernel
theorem d3_7 : decode method_2_code 7 = .ok (.bipush 122, 2) := by decide +kernel
theorem d3_9 : decode method_2_code 9 = .ok (.if_icmp .gt 5, 3) := by decide +kernel
theorem d3_12 : decode method_2_code 12 = .ok (.iconst 1, 1) := by decide +kernel
theorem d3_13 : decode method_2_code 13 = .ok (.ireturn, 1) := by decide +kernel
theorem d3_14 : decode method_2_code 14 = .ok (.iload_n 0, 1) := by decide +kernel
theorem d3_15 : decode method_2_code 15 = .ok (.bipush 65, 2) := by decide +kernel
theorem d3_17 : decode method_2_code 17 = .ok (.if_icmp .lt 11, 3) := by decide +kernel
theorem d3_20 : decode method_2_code 20 = .ok (.iload_n 0, 1) := by decide +kernel
theorem d3_21 : decode method_2_code 21 = .ok (.bipush 90, 2) := by decide +kernel
theorem d3_23 : decode method_2_code 23 = .ok (.if_icmp .gt 5, 3) := by decide +kernel
theorem d3_26 : decode method_2_code 26 = .ok (.iconst 1, 1) := by decide +kernel
theorem d3_27 : decode method_2_code 27 = .ok (.ireturn, 1) := by decide +kernel
theorem d3_28 : decode method_2_code 28 = .ok (.iload_n 0, 1) := by decide +kernel
theorem d3_29 : decode method_2_code 29 = .ok (.bipush 48, 2) := by decide +kernel
theorem d3_31 : decode method_2_code 31 = .ok (.if_icmp .lt 11, 3) := by decide +kernel
theorem d3_34 : decode method_2_code 34 = .ok (.iload_n 0, 1) := by decide +kernel
theorem d3_35 : decode method_2_code 35 = .ok (.bipush 57, 2) := by decide +kernel
theorem d3_37 : decode method_2_code 37 = .ok (.if_icmp .gt 5, 3) := by decide +kernel
theorem d3_40 : decode method_2_code 40 = .ok (.iconst 1, 1) := by decide +kernel
theorem d3_41 : decode method_2_code 41 = .ok (.ireturn, 1) := by decide +kernel
theorem d3_42 : decode method_2_code 42 = .ok (.iload_n 0, 1) := by decide +kernel
theorem d3_43 : decode method_2_code 43 = .ok (.bipush 33, 2) := by decide +kernel
theorem d3_45 : decode method_2_code 45 = .ok (.if_icmp .eq 87, 3) := by decide +kernel
theorem d3_48 : decode method_2_code 48 = .ok (.iload_n 0, 1) := by decide +kernel
theorem d3_49 : decode method_2_code 49 = .ok (.bipush 35, 2) := by decide +kernel
theorem d3_51 : decode method_2_code 51 = .ok (.if_icmp .eq 81, 3) := by decide +kernel
theorem d3_54 : decode method_2_code 54 = .ok (.iload_n 0, 1) := by decide +kernel
theorem d3_55 : decode method_2_code 55 = .ok (.bipush 36, 2) := by decide +kernel
theorem d3_57 : decode method_2_code 57 = .ok (.if_icmp .eq 75, 3) := by decide +kernel
theorem d3_60 : decode method_2_code 60 = .ok (.iload_n 0, 1) := by decide +kernel
theorem d3_61 : decode method_2_code 61 = .ok (.bipush 37, 2) := by decide +kernel
theorem d3_63 : decode method_2_code 63 = .ok (.if_icmp .eq 69, 3) := by decide +kernel
theorem d3_66 : decode method_2_code 66 = .ok (.iload_n 0, 1) := by decide +kernel
theorem d3_67 : decode method_2_code 67 = .ok (.bipush 38, 2) := by decide +kernel
theorem d3_69 : decode method_2_code 69 = .ok (.if_icmp .eq 63, 3) := by decide +kernel
theorem d3_72 : decode method_2_code 72 = .ok (.iload_n 0, 1) := by decide +kernel
theorem d3_73 : decode method_2_code 73 = .ok (.bipush 39, 2) := by decide +kernel
theorem d3_75 : decode method_2_code 75 = .ok (.if_icmp .eq 57, 3) := by decide +kernel
theorem d3_78 : decode method_2_code 78 = .ok (.iload_n 0, 1) := by decide +kernel
theorem d3_79 : decode method_2_code 79 = .ok (.bipush 42, 2) := by decide +kernel
theorem d3_81 : decode method_2_code 81 = .ok (.if_icmp .eq 51, 3) := by decide +kernel
theorem d3_84 : decode method_2_code 84 = .ok (.iload_n 0, 1) := by decide +kernel
theorem d3_85 : decode method_2_code 85 = .ok (.bipush 43, 2) := by decide +kernel
theorem d3_87 : decode method_2_code 87 = .ok (.if_icmp .eq 45, 3) := by decide +kernel
theorem d3_90 : decode method_2_code 90 = .ok (.iload_n 0, 1) := by decide +kernel
theorem d3_91 : decode method_2_code 91 = .ok (.bipush 45, 2) := by decide +kernel
theorem d3_93 : decode method_2_code 93 = .ok (.if_icmp .eq 39, 3) := by decide +kernel
theorem d3_96 : decode method_2_code 96 = .ok (.iload_n 0, 1) := by decide +kernel
theorem d3_97 : decode method_2_code 97 = .ok (.bipush 46, 2) := by decide +kernel
theorem d3_99 : decode method_2_code 99 = .ok (.if_icmp .eq 33, 3) := by decide +kernel
theorem d3_102 : decode method_2_code 102 = .ok (.iload_n 0, 1) := by decide +kernel
theorem d3_103 : decode method_2_code 103 = .ok (.bipush 94, 2) := by decide +kernel
theorem d3_105 : decode method_2_code 105 = .ok (.if_icmp .eq 27, 3) := by decide +kernel
theorem d3_108 : decode method_2_code 108 = .ok (.iload_n 0, 1) := by decide +kernel
theorem d3_109 : decode method_2_code 109 = .ok (.bipush 95, 2) := by decide +kernel
theorem d3_111 : decode method_2_code 111 = .ok (.if_icmp .eq 21, 3) := by decide +kernel
theorem d3_114 : decode method_2_code 114 = .ok (.iload_n 0, 1) := by decide +kernel
theorem d3_115 : decode method_2_code 115 = .ok (.bipush 96, 2) := by decide +kernel
theorem d3_117 : decode method_2_code 117 = .ok (.if_icmp .eq 15, 3) := by decide +kernel
theorem d3_120 : decode method_2_code 120 = .ok (.iload_n 0, 1) := by decide +kernel
theorem d3_121 : decode method_2_code 121 = .ok (.bipush 124, 2) := by decide +kernel
theorem d3_123 : decode method_2_code 123 = .ok (.if_icmp .eq 9, 3) := by decide +kernel
theorem d3_126 : decode method_2_code 126 = .ok (.iload_n 0, 1) := by decide +kernel
theorem d3_127 : decode method_2_code 127 = .ok (.bipush 126, 2) := by decide +kernel
theorem d3_129 : decode method_2_code 129 = .ok (.if_icmp .ne 7, 3) := by decide +kernel
theorem d3_132 : decode method_2_code 132 = .ok (.iconst 1, 1) := by decide +kernel
theorem d3_133 : decode method_2_code 133 = .ok (.goto 4, 3) := by decide +kernel
theorem d3_136 : decode method_2_code 136 = .ok (.iconst 0, 1) := by decide +kernel
theorem d3_137 : decode method_2_code 137 = .ok (.ireturn, 1) := by decide +kernel
theorem pn3 : plainFor (⟨"com/example/tool_port/toolport/http/HttpSyntaxIsTokenCharPinLaw", "expected", "(I)Z"⟩ : MethodName) = true := by first | (apply plainFor_of_name; simp [plainName, overriddenIn]; done) | decide +kernel
def B3 : Bdy := (⟨"com/example/tool_port/toolport/http/HttpSyntaxIsTokenCharPinLaw", "expected", "(I)Z"⟩, method_2_code, 1, (some .boolean), ({ frames := 0, cells := 0, slots := 0, locals := 0 } : Room))
set_option maxRecDepth 65536 in
set_option maxHeartbeats 4000000 in
theorem m_expected (Z : State) (a0 : Array Value) (hw : ∀ d ∈ tables_1, d.before a0 Z = true) (h0 : Heap) (ds : Mem) (p1 : Int32) :
    Met B3 Z a0 h0 #[(.int p1)] ds (Qz ((97 ≤ p1.toInt ∧ p1.toInt ≤ 122) ∨ (65 ≤ p1.toInt ∧ p1.toInt ≤ 90) ∨ (48 ≤ p1.toInt ∧ p1.toInt ≤ 57) ∨ p1.toInt = 33 ∨ p1.toInt = 35 ∨ p1.toInt = 36 ∨ p1.toInt = 37 ∨ p1.toInt = 38 ∨ p1.toInt = 39 ∨ p1.toInt = 42 ∨ p1.toInt = 43 ∨ p1.toInt = 45 ∨ p1.toInt = 46 ∨ p1.toInt = 94 ∨ p1.toInt = 95 ∨ p1.toInt = 96 ∨ p1.toInt = 124 ∨ p1.toInt = 126) ds) := by
  refine Met.of pn3 (ls := #[.val (.int p1)]) (fun m => by first | (simp [entryFrame, mkF, argsToLocals, Value.category, B3]; done) | rfl) ?_
  show Go B3 Z a0 h0 _ 0 0 ds 0 #[.val (.int p1)] []
  refine go_iloadN 1 rfl d3_0 rfl ?_
  refine go_bipush (97 : Int32) 3 rfl d3_1 rfl ?_
  refine go_icmp 14 6 rfl (by decide) rfl d3_3 rfl (fun (hc3_0 : p1.toInt < (97 : Int)) => ?_) (fun (hc3_0 : ¬ (p1.toInt < (97 : Int))) => ?_)
  · refine go_iloadN 15 rfl d3_14 rfl ?_
    refine go_bipush (65 : Int32) 17 rfl d3_15 rfl ?_
    refine go_icmp 28 20 rfl (by decide) rfl d3_17 rfl (fun (hc17_1 : p1.toInt < (65 : Int)) => ?_) (fun (hc17_1 : ¬ (p1.toInt < (65 : Int))) => ?_)
    · refine go_iloadN 29 rfl d3_28 rfl ?_
      refine go_bipush (48 : Int32) 31 rfl d3_29 rfl ?_
      refine go_icmp 42 34 rfl (by decide) rfl d3_31 rfl (fun (hc31_2 : p1.toInt < (48 : Int)) => ?_) (fun (hc31_2 : ¬ (p1.toInt < (48 : Int))) => ?_)
      · refine go_iloadN 43 rfl d3_42 rfl ?_
        refine go_bipush (33 : Int32) 45 rfl d3_43 rfl ?_
        refine go_icmp 132 48 rfl (by decide) rfl d3_45 rfl (fun (hc45_3 : p1.toInt = (33 : Int)) => ?_) (fun (hc45_3 : ¬ (p1.toInt = (33 : Int))) => ?_)
        · refine go_iconst (1 : Int32) 133 rfl d3_132 rfl ?_
          refine go_goto 137 (by decide) rfl d3_133 ?_
          exact go_ireturn d3_137 rfl (Or.inr (Or.inl rfl)) rfl rfl (by decide) (by decide) ⟨_, rfl, rfl, Or.inl ⟨rfl, by omega⟩⟩
        · refine go_iloadN 49 rfl d3_48 rfl ?_
          refine go_bipush (35 : Int32) 51 rfl d3_49 rfl ?_
          refine go_icmp 132 54 rfl (by decide) rfl d3_51 rfl (fun (hc51_4 : p1.toInt = (35 : Int)) => ?_) (fun (hc51_4 : ¬ (p1.toInt = (35 : Int))) => ?_)
          · refine go_iconst (1 : Int32) 133 rfl d3_132 rfl ?_
            refine go_goto 137 (by decide) rfl d3_133 ?_
            exact go_ireturn d3_137 rfl (Or.inr (Or.inl rfl)) rfl rfl (by decide) (by decide) ⟨_, rfl, rfl, Or.inl ⟨rfl, by omega⟩⟩
          · refine go_iloadN 55 rfl d3_54 rfl ?_
            refine go_bipush (36 : Int32) 57 rfl d3_55 rfl ?_
            refine go_icmp 132 60 rfl (by decide) rfl d3_57 rfl (fun (hc57_5 : p1.toInt = (36 : Int)) => ?_) (fun (hc57_5 : ¬ (p1.toInt = (36 : Int))) => ?_)
            · refine go_iconst (1 : Int32) 133 rfl d3_132 rfl ?_
              refine go_goto 137 (by decide) rfl d3_133 ?_
              exact go_ireturn d3_137 rfl (Or.inr (Or.inl rfl)) rfl rfl (by decide) (by decide) ⟨_, rfl, rfl, Or.inl ⟨rfl, by omega⟩⟩
            · refine go_iloadN 61 rfl d3_60 rfl ?_
              refine go_bipush (37 : Int32) 63 rfl d3_61 rfl ?_
              refine go_icmp 132 66 rfl (by decide) rfl d3_63 rfl (fun (hc63_6 : p1.toInt = (37 : Int)) => ?_) (fun (hc63_6 : ¬ (p1.toInt = (37 : Int))) => ?_)
              · refine go_iconst (1 : Int32) 133 rfl d3_132 rfl ?_
                refine go_goto 137 (by decide) rfl d3_133 ?_
                exact go_ireturn d3_137 rfl (Or.inr (Or.inl rfl)) rfl rfl (by decide) (by decide) ⟨_, rfl, rfl, Or.inl ⟨rfl, by omega⟩⟩
              · refine go_iloadN 67 rfl d3_66 rfl ?_
                refine go_bipush (38 : Int32) 69 rfl d3_67 rfl ?_
                refine go_icmp 132 72 rfl (by decide) rfl d3_69 rfl (fun (hc69_7 : p1.toInt = (38 : Int)) => ?_) (fun (hc69_7 : ¬ (p1.toInt = (38 : Int))) => ?_)
                · refine go_iconst (1 : Int32) 133 rfl d3_132 rfl ?_
                  refine go_goto 137 (by decide) rfl d3_133 ?_
                  exact go_ireturn d3_137 rfl (Or.inr (Or.inl rfl)) rfl rfl (by decide) (by decide) ⟨_, rfl, rfl, Or.inl ⟨rfl, by omega⟩⟩
                · refine go_iloadN 73 rfl d3_72 rfl ?_
                  refine go_bipush (39 : Int32) 75 rfl d3_73 rfl ?_
                  refine go_icmp 132 78 rfl (by decide) rfl d3_75 rfl (fun (hc75_8 : p1.toInt = (39 : Int)) => ?_) (fun (hc75_8 : ¬ (p1.toInt = (39 : Int))) => ?_)
                  · refine go_iconst (1 : Int32) 133 rfl d3_132 rfl ?_
                    refine go_goto 137 (by decide) rfl d3_133 ?_
                    exact go_ireturn d3_137 rfl (Or.inr (Or.inl rfl)) rfl rfl (by decide) (by decide) ⟨_, rfl, rfl, Or.inl ⟨rfl, by omega⟩⟩
                  · refine go_iloadN 79 rfl d3_78 rfl ?_
                    refine go_bipush (42 : Int32) 81 rfl d3_79 rfl ?_
                    refine go_icmp 132 84 rfl (by decide) rfl d3_81 rfl (fun (hc81_9 : p1.toInt = (42 : Int)) => ?_) (fun (hc81_9 : ¬ (p1.toInt = (42 : Int))) => ?_)
                    · refine go_iconst (1 : Int32) 133 rfl d3_132 rfl ?_
                      refine go_goto 137 (by decide) rfl d3_133 ?_
                      exact go_ireturn d3_137 rfl (Or.inr (Or.inl rfl)) rfl rfl (by decide) (by decide) ⟨_, rfl, rfl, Or.inl ⟨rfl, by omega⟩⟩
                    · refine go_iloadN 85 rfl d3_84 rfl ?_
                      refine go_bipush (43 : Int32) 87 rfl d3_85 rfl ?_
                      refine go_icmp 132 90 rfl (by decide) rfl d3_87 rfl (fun (hc87_10 : p1.toInt = (43 : Int)) => ?_) (fun (hc87_10 : ¬ (p1.toInt = (43 : Int))) => ?_)
                      · refine go_iconst (1 : Int32) 133 rfl d3_132 rfl ?_
                        refine go_goto 137 (by decide) rfl d3_133 ?_
                        exact go_ireturn d3_137 rfl (Or.inr (Or.inl rfl)) rfl rfl (by decide) (by decide) ⟨_, rfl, rfl, Or.inl ⟨rfl, by omega⟩⟩
                      · refine go_iloadN 91 rfl d3_90 rfl ?_
                        refine go_bipush (45 : Int32) 93 rfl d3_91 rfl ?_
                        refine go_icmp 132 96 rfl (by decide) rfl d3_93 rfl (fun (hc93_11 : p1.toInt = (45 : Int)) => ?_) (fun (hc93_11 : ¬ (p1.toInt = (45 : Int))) => ?_)
                        · refine go_iconst (1 : Int32) 133 rfl d3_132 rfl ?_
                          refine go_goto 137 (by decide) rfl d3_133 ?_
                          exact go_ireturn d3_137 rfl (Or.inr (Or.inl rfl)) rfl rfl (by decide) (by decide) ⟨_, rfl, rfl, Or.inl ⟨rfl, by omega⟩⟩
                        · refine go_iloadN 97 rfl d3_96 rfl ?_
                          refine go_bipush (46 : Int32) 99 rfl d3_97 rfl ?_
                          refine go_icmp 132 102 rfl (by decide) rfl d3_99 rfl (fun (hc99_12 : p1.toInt = (46 : Int)) => ?_) (fun (hc99_12 : ¬ (p1.toInt = (46 : Int))) => ?_)
                          · refine go_iconst (1 : Int32) 133 rfl d3_132 rfl ?_
                            refine go_goto 137 (by decide) rfl d3_133 ?_
                            exact go_ireturn d3_137 rfl (Or.inr (Or.inl rfl)) rfl rfl (by decide) (by decide) ⟨_, rfl, rfl, Or.inl ⟨rfl, by omega⟩⟩
                          · refine go_iloadN 103 rfl d3_102 rfl ?_
                            refine go_bipush (94 : Int32) 105 rfl d3_103 rfl ?_
                            refine go_icmp 132 108 rfl (by decide) rfl d3_105 rfl (fun (hc105_13 : p1.toInt = (94 : Int)) => ?_) (fun (hc105_13 : ¬ (p1.toInt = (94 : Int))) => ?_)
                            · refine go_iconst (1 : Int32) 133 rfl d3_132 rfl ?_
                              refine go_goto 137 (by decide) rfl d3_133 ?_
                              exact go_ireturn d3_137 rfl (Or.inr (Or.inl rfl)) rfl rfl (by decide) (by decide) ⟨_, rfl, rfl, Or.inl ⟨rfl, by omega⟩⟩
                            · refine go_iloadN 109 rfl d3_108 rfl ?_
                              refine go_bipush (95 : Int32) 111 rfl d3_109 rfl ?_
                              refine go_icmp 132 114 rfl (by decide) rfl d3_111 rfl (fun (hc111_14 : p1.toInt = (95 : Int)) => ?_) (fun (hc111_14 : ¬ (p1.toInt = (95 : Int))) => ?_)
                              · refine go_iconst (1 : Int32) 133 rfl d3_132 rfl ?_
                                refine go_goto 137 (by decide) rfl d3_133 ?_
                                exact go_ireturn d3_137 rfl (Or.inr (Or.inl rfl)) rfl rfl (by decide) (by decide) ⟨_, rfl, rfl, Or.inl ⟨rfl, by omega⟩⟩
                              · refine go_iloadN 115 rfl d3_114 rfl ?_
                                refine go_bipush (96 : Int32) 117 rfl d3_115 rfl ?_
                                refine go_icmp 132 120 rfl (by decide) rfl d3_117 rfl (fun (hc117_15 : p1.toInt = (96 : Int)) => ?_) (fun (hc117_15 : ¬ (p1.toInt = (96 : Int))) => ?_)
                                · refine go_iconst (1 : Int32) 133 rfl d3_132 rfl ?_
                                  refine go_goto 137 (by decide) rfl d3_133 ?_
                                  exact go_ireturn d3_137 rfl (Or.inr (Or.inl rfl)) rfl rfl (by decide) (by decide) ⟨_, rfl, rfl, Or.inl ⟨rfl, by omega⟩⟩
                                · refine go_iloadN 121 rfl d3_120 rfl ?_
                                  refine go_bipush (124 : Int32) 123 rfl d3_121 rfl ?_
                                  refine go_icmp 132 126 rfl (by decide) rfl d3_123 rfl (fun (hc123_16 : p1.toInt = (124 : Int)) => ?_) (fun (hc123_16 : ¬ (p1.toInt = (124 : Int))) => ?_)
                                  · refine go_iconst (1 : Int32) 133 rfl d3_132 rfl ?_
                                    refine go_goto 137 (by decide) rfl d3_133 ?_
                                    exact go_ireturn d3_137 rfl (Or.inr (Or.inl rfl)) rfl rfl (by decide) (by decide) ⟨_, rfl, rfl, Or.inl ⟨rfl, by omega⟩⟩
                                  · refine go_iloadN 127 rfl d3_126 rfl ?_
                                    refine go_bipush (126 : Int32) 129 rfl d3_127 rfl ?_
                                    refine go_icmp 136 132 rfl (by decide) rfl d3_129 rfl (fun (hc129_17 : p1.toInt ≠ (126 : Int)) => ?_) (fun (hc129_17 : ¬ (p1.toInt ≠ (126 : Int))) => ?_)
                                    · refine go_iconst (0 : Int32) 137 rfl d3_136 rfl ?_
                                      exact go_ireturn d3_137 rfl (Or.inr (Or.inl rfl)) rfl rfl (by decide) (by decide) ⟨_, rfl, rfl, Or.inr ⟨rfl, by omega⟩⟩
                                    · refine go_iconst (1 : Int32) 133 rfl d3_132 rfl ?_
                                      refine go_goto 137 (by decide) rfl d3_133 ?_
                                      exact go_ireturn d3_137 rfl (Or.inr (Or.inl rfl)) rfl rfl (by decide) (by decide) ⟨_, rfl, rfl, Or.inl ⟨rfl, by omega⟩⟩
      · refine go_iloadN 35 rfl d3_34 rfl ?_
        refine go_bipush (57 : Int32) 37 rfl d3_35 rfl ?_
        refine go_icmp 42 40 rfl (by decide) rfl d3_37 rfl (fun (hc37_18 : (57 : Int) < p1.toInt) => ?_) (fun (hc37_18 : ¬ ((57 : Int) < p1.toInt)) => ?_)
        · refine go_iloadN 43 rfl d3_42 rfl ?_
          refine go_bipush (33 : Int32) 45 rfl d3_43 rfl ?_
          refine go_icmp 132 48 rfl (by decide) rfl d3_45 rfl (fun (hc45_19 : p1.toInt = (33 : Int)) => ?_) (fun (hc45_19 : ¬ (p1.toInt = (33 : Int))) => ?_)
          · refine go_iconst (1 : Int32) 133 rfl d3_132 rfl ?_
            refine go_goto 137 (by decide) rfl d3_133 ?_
            exact go_ireturn d3_137 rfl (Or.inr (Or.inl rfl)) rfl rfl (by decide) (by decide) ⟨_, rfl, rfl, Or.inl ⟨rfl, by omega⟩⟩
          · refine go_iloadN 49 rfl d3_48 rfl ?_
            refine go_bipush (35 : Int32) 51 rfl d3_49 rfl ?_
            refine go_icmp 132 54 rfl (by decide) rfl d3_51 rfl (fun (hc51_20 : p1.toInt = (35 : Int)) => ?_) (fun (hc51_20 : ¬ (p1.toInt = (35 : Int))) => ?_)
            · refine go_iconst (1 : Int32) 133 rfl d3_132 rfl ?_
              refine go_goto 137 (by decide) rfl d3_133 ?_
              exact go_ireturn d3_137 rfl (Or.inr (Or.inl rfl)) rfl rfl (by decide) (by decide) ⟨_, rfl, rfl, Or.inl ⟨rfl, by omega⟩⟩
            · refine go_iloadN 55 rfl d3_54 rfl ?_
              refine go_bipush (36 : Int32) 57 rfl d3_55 rfl ?_
              refine go_icmp 132 60 rfl (by decide) rfl d3_57 rfl (fun (hc57_21 : p1.toInt = (36 : Int)) => ?_) (fun (hc57_21 : ¬ (p1.toInt = (36 : Int))) => ?_)
              · refine go_iconst (1 : Int32) 133 rfl d3_132 rfl ?_
                refine go_goto 137 (by decide) rfl d3_133 ?_
                exact go_ireturn d3_137 rfl (Or.inr (Or.inl rfl)) rfl rfl (by decide) (by decide) ⟨_, rfl, rfl, Or.inl ⟨rfl, by omega⟩⟩
              · refine go_iloadN 61 rfl d3_60 rfl ?_
                refine go_bipush (37 : Int32) 63 rfl d3_61 rfl ?_
                refine go_icmp 132 66 rfl (by decide) rfl d3_63 rfl (fun (hc63_22 : p1.toInt = (37 : Int)) => ?_) (fun (hc63_22 : ¬ (p1.toInt = (37 : Int))) => ?_)
                · refine go_iconst (1 : Int32) 133 rfl d3_132 rfl ?_
                  refine go_goto 137 (by decide) rfl d3_133 ?_
                  exact go_ireturn d3_137 rfl (Or.inr (Or.inl rfl)) rfl rfl (by decide) (by decide) ⟨_, rfl, rfl, Or.inl ⟨rfl, by omega⟩⟩
                · refine go_iloadN 67 rfl d3_66 rfl ?_
                  refine go_bipush (38 : Int32) 69 rfl d3_67 rfl ?_
                  refine go_icmp 132 72 rfl (by decide) rfl d3_69 rfl (fun (hc69_23 : p1.toInt = (38 : Int)) => ?_) (fun (hc69_23 : ¬ (p1.toInt = (38 : Int))) => ?_)
                  · refine go_iconst (1 : Int32) 133 rfl d3_132 rfl ?_
                    refine go_goto 137 (by decide) rfl d3_133 ?_
                    exact go_ireturn d3_137 rfl (Or.inr (Or.inl rfl)) rfl rfl (by decide) (by decide) ⟨_, rfl, rfl, Or.inl ⟨rfl, by omega⟩⟩
                  · refine go_iloadN 73 rfl d3_72 rfl ?_
                    refine go_bipush (39 : Int32) 75 rfl d3_73 rfl ?_
                    refine go_icmp 132 78 rfl (by decide) rfl d3_75 rfl (fun (hc75_24 : p1.toInt = (39 : Int)) => ?_) (fun (hc75_24 : ¬ (p1.toInt = (39 : Int))) => ?_)
                    · refine go_iconst (1 : Int32) 133 rfl d3_132 rfl ?_
                      refine go_goto 137 (by decide) rfl d3_133 ?_
                      exact go_ireturn d3_137 rfl (Or.inr (Or.inl rfl)) rfl rfl (by decide) (by decide) ⟨_, rfl, rfl, Or.inl ⟨rfl, by omega⟩⟩
                    · refine go_iloadN 79 rfl d3_78 rfl ?_
                      refine go_bipush (42 : Int32) 81 rfl d3_79 rfl ?_
                      refine go_icmp 132 84 rfl (by decide) rfl d3_81 rfl (fun (hc81_25 : p1.toInt = (42 : Int)) => ?_) (fun (hc81_25 : ¬ (p1.toInt = (42 : Int))) => ?_)
                      · refine go_iconst (1 : Int32) 133 rfl d3_132 rfl ?_
                        refine go_goto 137 (by decide) rfl d3_133 ?_
                        exact go_ireturn d3_137 rfl (Or.inr (Or.inl rfl)) rfl rfl (by decide) (by decide) ⟨_, rfl, rfl, Or.inl ⟨rfl, by omega⟩⟩
                      · refine go_iloadN 85 rfl d3_84 rfl ?_
                        refine go_bipush (43 : Int32) 87 rfl d3_85 rfl ?_
                        refine go_icmp 132 90 rfl (by decide) rfl d3_87 rfl (fun (hc87_26 : p1.toInt = (43 : Int)) => ?_) (fun (hc87_26 : ¬ (p1.toInt = (43 : Int))) => ?_)
                        · refine go_iconst (1 : Int32) 133 rfl d3_132 rfl ?_
                          refine go_goto 137 (by decide) rfl d3_133 ?_
                          exact go_ireturn d3_137 rfl (Or.inr (Or.inl rfl)) rfl rfl (by decide) (by decide) ⟨_, rfl, rfl, Or.inl ⟨rfl, by omega⟩⟩
                        · refine go_iloadN 91 rfl d3_90 rfl ?_
                          refine go_bipush (45 : Int32) 93 rfl d3_91 rfl ?_
                          refine go_icmp 132 96 rfl (by decide) rfl d3_93 rfl (fun (hc93_27 : p1.toInt = (45 : Int)) => ?_) (fun (hc93_27 : ¬ (p1.toInt = (45 : Int))) => ?_)
                          · refine go_iconst (1 : Int32) 133 rfl d3_132 rfl ?_
                            refine go_goto 137 (by decide) rfl d3_133 ?_
                            exact go_ireturn d3_137 rfl (Or.inr (Or.inl rfl)) rfl rfl (by decide) (by decide) ⟨_, rfl, rfl, Or.inl ⟨rfl, by omega⟩⟩
                          · refine go_iloadN 97 rfl d3_96 rfl ?_
                            refine go_bipush (46 : Int32) 99 rfl d3_97 rfl ?_
                            refine go_icmp 132 102 rfl (by decide) rfl d3_99 rfl (fun (hc99_28 : p1.toInt = (46 : Int)) => ?_) (fun (hc99_28 : ¬ (p1.toInt = (46 : Int))) => ?_)
                            · refine go_iconst (1 : Int32) 133 rfl d3_132 rfl ?_
                              refine go_goto 137 (by decide) rfl d3_133 ?_
                              exact go_ireturn d3_137 rfl (Or.inr (Or.inl rfl)) rfl rfl (by decide) (by decide) ⟨_, rfl, rfl, Or.inl ⟨rfl, by omega⟩⟩
                            · refine go_iloadN 103 rfl d3_102 rfl ?_
                              refine go_bipush (94 : Int32) 105 rfl d3_103 rfl ?_
                              refine go_icmp 132 108 rfl (by decide) rfl d3_105 rfl (fun (hc105_29 : p1.toInt = (94 : Int)) => ?_) (fun (hc105_29 : ¬ (p1.toInt = (94 : Int))) => ?_)
                              · refine go_iconst (1 : Int32) 133 rfl d3_132 rfl ?_
                                refine go_goto 137 (by decide) rfl d3_133 ?_
                                exact go_ireturn d3_137 rfl (Or.inr (Or.inl rfl)) rfl rfl (by decide) (by decide) ⟨_, rfl, rfl, Or.inl ⟨rfl, by omega⟩⟩
                              · refine go_iloadN 109 rfl d3_108 rfl ?_
                                refine go_bipush (95 : Int32) 111 rfl d3_109 rfl ?_
                                refine go_icmp 132 114 rfl (by decide) rfl d3_111 rfl (fun (hc111_30 : p1.toInt = (95 : Int)) => ?_) (fun (hc111_30 : ¬ (p1.toInt = (95 : Int))) => ?_)
                                · refine go_iconst (1 : Int32) 133 rfl d3_132 rfl ?_
                                  refine go_goto 137 (by decide) rfl d3_133 ?_
                                  exact go_ireturn d3_137 rfl (Or.inr (Or.inl rfl)) rfl rfl (by decide) (by decide) ⟨_, rfl, rfl, Or.inl ⟨rfl, by omega⟩⟩
                                · refine go_iloadN 115 rfl d3_114 rfl ?_
                                  refine go_bipush (96 : Int32) 117 rfl d3_115 rfl ?_
                                  refine go_icmp 132 120 rfl (by decide) rfl d3_117 rfl (fun (hc117_31 : p1.toInt = (96 : Int)) => ?_) (fun (hc117_31 : ¬ (p1.toInt = (96 : Int))) => ?_)
                                  · refine go_iconst (1 : Int32) 133 rfl d3_132 rfl ?_
                                    refine go_goto 137 (by decide) rfl d3_133 ?_
                                    exact go_ireturn d3_137 rfl (Or.inr (Or.inl rfl)) rfl rfl (by decide) (by decide) ⟨_, rfl, rfl, Or.inl ⟨rfl, by omega⟩⟩
                                  · refine go_iloadN 121 rfl d3_120 rfl ?_
                                    refine go_bipush (124 : Int32) 123 rfl d3_121 rfl ?_
                                    refine go_icmp 132 126 rfl (by decide) rfl d3_123 rfl (fun (hc123_32 : p1.toInt = (124 : Int)) => ?_) (fun (hc123_32 : ¬ (p1.toInt = (124 : Int))) => ?_)
                                    · refine go_iconst (1 : Int32) 133 rfl d3_132 rfl ?_
                                      refine go_goto 137 (by decide) rfl d3_133 ?_
                                      exact go_ireturn d3_137 rfl (Or.inr (Or.inl rfl)) rfl rfl (by decide) (by decide) ⟨_, rfl, rfl, Or.inl ⟨rfl, by omega⟩⟩
                                    · refine go_iloadN 127 rfl d3_126 rfl ?_
                                      refine go_bipush (126 : Int32) 129 rfl d3_127 rfl ?_
                                      refine go_icmp 136 132 rfl (by decide) rfl d3_129 rfl (fun (hc129_33 : p1.toInt ≠ (126 : Int)) => ?_) (fun (hc129_33 : ¬ (p1.toInt ≠ (126 : Int))) => ?_)
                                      · refine go_iconst (0 : Int32) 137 rfl d3_136 rfl ?_
                                        exact go_ireturn d3_137 rfl (Or.inr (Or.inl rfl)) rfl rfl (by decide) (by decide) ⟨_, rfl, rfl, Or.inr ⟨rfl, by omega⟩⟩
                                      · refine go_iconst (1 : Int32) 133 rfl d3_132 rfl ?_
                                        refine go_goto 137 (by decide) rfl d3_133 ?_
                                        exact go_ireturn d3_137 rfl (Or.inr (Or.inl rfl)) rfl rfl (by decide) (by decide) ⟨_, rfl, rfl, Or.inl ⟨rfl, by omega⟩⟩
        · refine go_iconst (1 : Int32) 41 rfl d3_40 rfl ?_
          exact go_ireturn d3_41 rfl (Or.inr (Or.inl rfl)) rfl rfl (by decide) (by decide) ⟨_, rfl, rfl, Or.inl ⟨rfl, by omega⟩⟩
    · refine go_iloadN 21 rfl d3_20 rfl ?_
      refine go_bipush (90 : Int32) 23 rfl d3_21 rfl ?_
      refine go_icmp 28 26 rfl (by decide) rfl d3_23 rfl (fun (hc23_34 : (90 : Int) < p1.toInt) => ?_) (fun (hc23_34 : ¬ ((90 : Int) < p1.toInt)) => ?_)
      · refine go_iloadN 29 rfl d3_28 rfl ?_
        refine go_bipush (48 : Int32) 31 rfl d3_29 rfl ?_
        refine go_icmp 42 34 rfl (by decide) rfl d3_31 rfl (fun (hc31_35 : p1.toInt < (48 : Int)) => ?_) (fun (hc31_35 : ¬ (p1.toInt < (48 : Int))) => ?_)
        · refine go_iloadN 43 rfl d3_42 rfl ?_
          refine go_bipush (33 : Int32) 45 rfl d3_43 rfl ?_
          refine go_icmp 132 48 rfl (by decide) rfl d3_45 rfl (fun (hc45_36 : p1.toInt = (33 : Int)) => ?_) (fun (hc45_36 : ¬ (p1.toInt = (33 : Int))) => ?_)
          · refine go_iconst (1 : Int32) 133 rfl d3_132 rfl ?_
            refine go_goto 137 (by decide) rfl d3_133 ?_
            exact go_ireturn d3_137 rfl (Or.inr (Or.inl rfl)) rfl rfl (by decide) (by decide) ⟨_, rfl, rfl, Or.inl ⟨rfl, by omega⟩⟩
          · refine go_iloadN 49 rfl d3_48 rfl ?_
            refine go_bipush (35 : Int32) 51 rfl d3_49 rfl ?_
            refine go_icmp 132 54 rfl (by decide) rfl d3_51 rfl (fun (hc51_37 : p1.toInt = (35 : Int)) => ?_) (fun (hc51_37 : ¬ (p1.toInt = (35 : Int))) => ?_)
            · refine go_iconst (1 : Int32) 133 rfl d3_132 rfl ?_
              refine go_goto 137 (by decide) rfl d3_133 ?_
              exact go_ireturn d3_137 rfl (Or.inr (Or.inl rfl)) rfl rfl (by decide) (by decide) ⟨_, rfl, rfl, Or.inl ⟨rfl, by omega⟩⟩
            · refine go_iloadN 55 rfl d3_54 rfl ?_
              refine go_bipush (36 : Int32) 57 rfl d3_55 rfl ?_
              refine go_icmp 132 60 rfl (by decide) rfl d3_57 rfl (fun (hc57_38 : p1.toInt = (36 : Int)) => ?_) (fun (hc57_38 : ¬ (p1.toInt = (36 : Int))) => ?_)
              · refine go_iconst (1 : Int32) 133 rfl d3_132 rfl ?_
                refine go_goto 137 (by decide) rfl d3_133 ?_
                exact go_ireturn d3_137 rfl (Or.inr (Or.inl rfl)) rfl rfl (by decide) (by decide) ⟨_, rfl, rfl, Or.inl ⟨rfl, by omega⟩⟩
              · refine go_iloadN 61 rfl d3_60 rfl ?_
                refine go_bipush (37 : Int32) 63 rfl d3_61 rfl ?_
                refine go_icmp 132 66 rfl (by decide) rfl d3_63 rfl (fun (hc63_39 : p1.toInt = (37 : Int)) => ?_) (fun (hc63_39 : ¬ (p1.toInt = (37 : Int))) => ?_)
                · refine go_iconst (1 : Int32) 133 rfl d3_132 rfl ?_
                  refine go_goto 137 (by decide) rfl d3_133 ?_
                  exact go_ireturn d3_137 rfl (Or.inr (Or.inl rfl)) rfl rfl (by decide) (by decide) ⟨_, rfl, rfl, Or.inl ⟨rfl, by omega⟩⟩
                · refine go_iloadN 67 rfl d3_66 rfl ?_
                  refine go_bipush (38 : Int32) 69 rfl d3_67 rfl ?_
                  refine go_icmp 132 72 rfl (by decide) rfl d3_69 rfl (fun (hc69_40 : p1.toInt = (38 : Int)) => ?_) (fun (hc69_40 : ¬ (p1.toInt = (38 : Int))) => ?_)
                  · refine go_iconst (1 : Int32) 133 rfl d3_132 rfl ?_
                    refine go_goto 137 (by decide) rfl d3_133 ?_
                    exact go_ireturn d3_137 rfl (Or.inr (Or.inl rfl)) rfl rfl (by decide) (by decide) ⟨_, rfl, rfl, Or.inl ⟨rfl, by omega⟩⟩
                  · refine go_iloadN 73 rfl d3_72 rfl ?_
                    refine go_bipush (39 : Int32) 75 rfl d3_73 rfl ?_
                    refine go_icmp 132 78 rfl (by decide) rfl d3_75 rfl (fun (hc75_41 : p1.toInt = (39 : Int)) => ?_) (fun (hc75_41 : ¬ (p1.toInt = (39 : Int))) => ?_)
                    · refine go_iconst (1 : Int32) 133 rfl d3_132 rfl ?_
                      refine go_goto 137 (by decide) rfl d3_133 ?_
                      exact go_ireturn d3_137 rfl (Or.inr (Or.inl rfl)) rfl rfl (by decide) (by decide) ⟨_, rfl, rfl, Or.inl ⟨rfl, by omega⟩⟩
                    · refine go_iloadN 79 rfl d3_78 rfl ?_
                      refine go_bipush (42 : Int32) 81 rfl d3_79 rfl ?_
                      refine go_icmp 132 84 rfl (by decide) rfl d3_81 rfl (fun (hc81_42 : p1.toInt = (42 : Int)) => ?_) (fun (hc81_42 : ¬ (p1.toInt = (42 : Int))) => ?_)
                      · refine go_iconst (1 : Int32) 133 rfl d3_132 rfl ?_
                        refine go_goto 137 (by decide) rfl d3_133 ?_
                        exact go_ireturn d3_137 rfl (Or.inr (Or.inl rfl)) rfl rfl (by decide) (by decide) ⟨_, rfl, rfl, Or.inl ⟨rfl, by omega⟩⟩
                      · refine go_iloadN 85 rfl d3_84 rfl ?_
                        refine go_bipush (43 : Int32) 87 rfl d3_85 rfl ?_
                        refine go_icmp 132 90 rfl (by decide) rfl d3_87 rfl (fun (hc87_43 : p1.toInt = (43 : Int)) => ?_) (fun (hc87_43 : ¬ (p1.toInt = (43 : Int))) => ?_)
                        · refine go_iconst (1 : Int32) 133 rfl d3_132 rfl ?_
                          refine go_goto 137 (by decide) rfl d3_133 ?_
                          exact go_ireturn d3_137 rfl (Or.inr (Or.inl rfl)) rfl rfl (by decide) (by decide) ⟨_, rfl, rfl, Or.inl ⟨rfl, by omega⟩⟩
                        · refine go_iloadN 91 rfl d3_90 rfl ?_
                          refine go_bipush (45 : Int32) 93 rfl d3_91 rfl ?_
                          refine go_icmp 132 96 rfl (by decide) rfl d3_93 rfl (fun (hc93_44 : p1.toInt = (45 : Int)) => ?_) (fun (hc93_44 : ¬ (p1.toInt = (45 : Int))) => ?_)
                          · refine go_iconst (1 : Int32) 133 rfl d3_132 rfl ?_
                            refine go_goto 137 (by decide) rfl d3_133 ?_
                            exact go_ireturn d3_137 rfl (Or.inr (Or.inl rfl)) rfl rfl (by decide) (by decide) ⟨_, rfl, rfl, Or.inl ⟨rfl, by omega⟩⟩
                          · refine go_iloadN 97 rfl d3_96 rfl ?_
                            refine go_bipush (46 : Int32) 99 rfl d3_97 rfl ?_
                            refine go_icmp 132 102 rfl (by decide) rfl d3_99 rfl (fun (hc99_45 : p1.toInt = (46 : Int)) => ?_) (fun (hc99_45 : ¬ (p1.toInt = (46 : Int))) => ?_)
                            · refine go_iconst (1 : Int32) 133 rfl d3_132 rfl ?_
                              refine go_goto 137 (by decide) rfl d3_133 ?_
                              exact go_ireturn d3_137 rfl (Or.inr (Or.inl rfl)) rfl rfl (by decide) (by decide) ⟨_, rfl, rfl, Or.inl ⟨rfl, by omega⟩⟩
                            · refine go_iloadN 103 rfl d3_102 rfl ?_
                              refine go_bipush (94 : Int32) 105 rfl d3_103 rfl ?_
                              refine go_icmp 132 108 rfl (by decide) rfl d3_105 rfl (fun (hc105_46 : p1.toInt = (94 : Int)) => ?_) (fun (hc105_46 : ¬ (p1.toInt = (94 : Int))) => ?_)
                              · refine go_iconst (1 : Int32) 133 rfl d3_132 rfl ?_
                                refine go_goto 137 (by decide) rfl d3_133 ?_
                                exact go_ireturn d3_137 rfl (Or.inr (Or.inl rfl)) rfl rfl (by decide) (by decide) ⟨_, rfl, rfl, Or.inl ⟨rfl, by omega⟩⟩
                              · refine go_iloadN 109 rfl d3_108 rfl ?_
                                refine go_bipush (95 : Int32) 111 rfl d3_109 rfl ?_
                                refine go_icmp 132 114 rfl (by decide) rfl d3_111 rfl (fun (hc111_47 : p1.toInt = (95 : Int)) => ?_) (fun (hc111_47 : ¬ (p1.toInt = (95 : Int))) => ?_)
                                · refine go_iconst (1 : Int32) 133 rfl d3_132 rfl ?_
                                  refine go_goto 137 (by decide) rfl d3_133 ?_
                                  exact go_ireturn d3_137 rfl (Or.inr (Or.inl rfl)) rfl rfl (by decide) (by decide) ⟨_, rfl, rfl, Or.inl ⟨rfl, by omega⟩⟩
                                · refine go_iloadN 115 rfl d3_114 rfl ?_
                                  refine go_bipush (96 : Int32) 117 rfl d3_115 rfl ?_
                                  refine go_icmp 132 120 rfl (by decide) rfl d3_117 rfl (fun (hc117_48 : p1.toInt = (96 : Int)) => ?_) (fun (hc117_48 : ¬ (p1.toInt = (96 : Int))) => ?_)
                                  · refine go_iconst (1 : Int32) 133 rfl d3_132 rfl ?_
                                    refine go_goto 137 (by decide) rfl d3_133 ?_
                                    exact go_ireturn d3_137 rfl (Or.inr (Or.inl rfl)) rfl rfl (by decide) (by decide) ⟨_, rfl, rfl, Or.inl ⟨rfl, by omega⟩⟩
                                  · refine go_iloadN 121 rfl d3_120 rfl ?_
                                    refine go_bipush (124 : Int32) 123 rfl d3_121 rfl ?_
                                    refine go_icmp 132 126 rfl (by decide) rfl d3_123 rfl (fun (hc123_49 : p1.toInt = (124 : Int)) => ?_) (fun (hc123_49 : ¬ (p1.toInt = (124 : Int))) => ?_)
                                    · refine go_iconst (1 : Int32) 133 rfl d3_132 rfl ?_
                                      refine go_goto 137 (by decide) rfl d3_133 ?_
                                      exact go_ireturn d3_137 rfl (Or.inr (Or.inl rfl)) rfl rfl (by decide) (by decide) ⟨_, rfl, rfl, Or.inl ⟨rfl, by omega⟩⟩
                                    · refine go_iloadN 127 rfl d3_126 rfl ?_
                                      refine go_bipush (126 : Int32) 129 rfl d3_127 rfl ?_
                                      refine go_icmp 136 132 rfl (by decide) rfl d3_129 rfl (fun (hc129_50 : p1.toInt ≠ (126 : Int)) => ?_) (fun (hc129_50 : ¬ (p1.toInt ≠ (126 : Int))) => ?_)
                                      · refine go_iconst (0 : Int32) 137 rfl d3_136 rfl ?_
                                        exact go_ireturn d3_137 rfl (Or.inr (Or.inl rfl)) rfl rfl (by decide) (by decide) ⟨_, rfl, rfl, Or.inr ⟨rfl, by omega⟩⟩
                                      · refine go_iconst (1 : Int32) 133 rfl d3_132 rfl ?_
                                        refine go_goto 137 (by decide) rfl d3_133 ?_
                                        exact go_ireturn d3_137 rfl (Or.inr (Or.inl rfl)) rfl rfl (by decide) (by decide) ⟨_, rfl, rfl, Or.inl ⟨rfl, by omega⟩⟩
        · refine go_iloadN 35 rfl d3_34 rfl ?_
          refine go_bipush (57 : Int32) 37 rfl d3_35 rfl ?_
          refine go_icmp 42 40 rfl (by decide) rfl d3_37 rfl (fun (hc37_51 : (57 : Int) < p1.toInt) => ?_) (fun (hc37_51 : ¬ ((57 : Int) < p1.toInt)) => ?_)
          · refine go_iloadN 43 rfl d3_42 rfl ?_
            refine go_bipush (33 : Int32) 45 rfl d3_43 rfl ?_
            refine go_icmp 132 48 rfl (by decide) rfl d3_45 rfl (fun (hc45_52 : p1.toInt = (33 : Int)) => ?_) (fun (hc45_52 : ¬ (p1.toInt = (33 : Int))) => ?_)
            · refine go_iconst (1 : Int32) 133 rfl d3_132 rfl ?_
              refine go_goto 137 (by decide) rfl d3_133 ?_
              exact go_ireturn d3_137 rfl (Or.inr (Or.inl rfl)) rfl rfl (by decide) (by decide) ⟨_, rfl, rfl, Or.inl ⟨rfl, by omega⟩⟩
            · refine go_iloadN 49 rfl d3_48 rfl ?_
              refine go_bipush (35 : Int32) 51 rfl d3_49 rfl ?_
              refine go_icmp 132 54 rfl (by decide) rfl d3_51 rfl (fun (hc51_53 : p1.toInt = (35 : Int)) => ?_) (fun (hc51_53 : ¬ (p1.toInt = (35 : Int))) => ?_)
              · refine go_iconst (1 : Int32) 133 rfl d3_132 rfl ?_
                refine go_goto 137 (by decide) rfl d3_133 ?_
                exact go_ireturn d3_137 rfl (Or.inr (Or.inl rfl)) rfl rfl (by decide) (by decide) ⟨_, rfl, rfl, Or.inl ⟨rfl, by omega⟩⟩
              · refine go_iloadN 55 rfl d3_54 rfl ?_
                refine go_bipush (36 : Int32) 57 rfl d3_55 rfl ?_
                refine go_icmp 132 60 rfl (by decide) rfl d3_57 rfl (fun (hc57_54 : p1.toInt = (36 : Int)) => ?_) (fun (hc57_54 : ¬ (p1.toInt = (36 : Int))) => ?_)
                · refine go_iconst (1 : Int32) 133 rfl d3_132 rfl ?_
                  refine go_goto 137 (by decide) rfl d3_133 ?_
                  exact go_ireturn d3_137 rfl (Or.inr (Or.inl rfl)) rfl rfl (by decide) (by decide) ⟨_, rfl, rfl, Or.inl ⟨rfl, by omega⟩⟩
                · refine go_iloadN 61 rfl d3_60 rfl ?_
                  refine go_bipush (37 : Int32) 63 rfl d3_61 rfl ?_
                  refine go_icmp 132 66 rfl (by decide) rfl d3_63 rfl (fun (hc63_55 : p1.toInt = (37 : Int)) => ?_) (fun (hc63_55 : ¬ (p1.toInt = (37 : Int))) => ?_)
                  · refine go_iconst (1 : Int32) 133 rfl d3_132 rfl ?_
                    refine go_goto 137 (by decide) rfl d3_133 ?_
                    exact go_ireturn d3_137 rfl (Or.inr (Or.inl rfl)) rfl rfl (by decide) (by decide) ⟨_, rfl, rfl, Or.inl ⟨rfl, by omega⟩⟩
                  · refine go_iloadN 67 rfl d3_66 rfl ?_
                    refine go_bipush (38 : Int32) 69 rfl d3_67 rfl ?_
                    refine go_icmp 132 72 rfl (by decide) rfl d3_69 rfl (fun (hc69_56 : p1.toInt = (38 : Int)) => ?_) (fun (hc69_56 : ¬ (p1.toInt = (38 : Int))) => ?_)
                    · refine go_iconst (1 : Int32) 133 rfl d3_132 rfl ?_
                      refine go_goto 137 (by decide) rfl d3_133 ?_
                      exact go_ireturn d3_137 rfl (Or.inr (Or.inl rfl)) rfl rfl (by decide) (by decide) ⟨_, rfl, rfl, Or.inl ⟨rfl, by omega⟩⟩
                    · refine go_iloadN 73 rfl d3_72 rfl ?_
                      refine go_bipush (39 : Int32) 75 rfl d3_73 rfl ?_
                      refine go_icmp 132 78 rfl (by decide) rfl d3_75 rfl (fun (hc75_57 : p1.toInt = (39 : Int)) => ?_) (fun (hc75_57 : ¬ (p1.toInt = (39 : Int))) => ?_)
                      · refine go_iconst (1 : Int32) 133 rfl d3_132 rfl ?_
                        refine go_goto 137 (by decide) rfl d3_133 ?_
                        exact go_ireturn d3_137 rfl (Or.inr (Or.inl rfl)) rfl rfl (by decide) (by decide) ⟨_, rfl, rfl, Or.inl ⟨rfl, by omega⟩⟩
                      · refine go_iloadN 79 rfl d3_78 rfl ?_
                        refine go_bipush (42 : Int32) 81 rfl d3_79 rfl ?_
                        refine go_icmp 132 84 rfl (by decide) rfl d3_81 rfl (fun (hc81_58 : p1.toInt = (42 : Int)) => ?_) (fun (hc81_58 : ¬ (p1.toInt = (42 : Int))) => ?_)
                        · refine go_iconst (1 : Int32) 133 rfl d3_132 rfl ?_
                          refine go_goto 137 (by decide) rfl d3_133 ?_
                          exact go_ireturn d3_137 rfl (Or.inr (Or.inl rfl)) rfl rfl (by decide) (by decide) ⟨_, rfl, rfl, Or.inl ⟨rfl, by omega⟩⟩
                        · refine go_iloadN 85 rfl d3_84 rfl ?_
                          refine go_bipush (43 : Int32) 87 rfl d3_85 rfl ?_
                          refine go_icmp 132 90 rfl (by decide) rfl d3_87 rfl (fun (hc87_59 : p1.toInt = (43 : Int)) => ?_) (fun (hc87_59 : ¬ (p1.toInt = (43 : Int))) => ?_)
                          · refine go_iconst (1 : Int32) 133 rfl d3_132 rfl ?_
                            refine go_goto 137 (by decide) rfl d3_133 ?_
                            exact go_ireturn d3_137 rfl (Or.inr (Or.inl rfl)) rfl rfl (by decide) (by decide) ⟨_, rfl, rfl, Or.inl ⟨rfl, by omega⟩⟩
                          · refine go_iloadN 91 rfl d3_90 rfl ?_
                            refine go_bipush (45 : Int32) 93 rfl d3_91 rfl ?_
                            refine go_icmp 132 96 rfl (by decide) rfl d3_93 rfl (fun (hc93_60 : p1.toInt = (45 : Int)) => ?_) (fun (hc93_60 : ¬ (p1.toInt = (45 : Int))) => ?_)
                            · refine go_iconst (1 : Int32) 133 rfl d3_132 rfl ?_
                              refine go_goto 137 (by decide) rfl d3_133 ?_
                              exact go_ireturn d3_137 rfl (Or.inr (Or.inl rfl)) rfl rfl (by decide) (by decide) ⟨_, rfl, rfl, Or.inl ⟨rfl, by omega⟩⟩
                            · refine go_iloadN 97 rfl d3_96 rfl ?_
                              refine go_bipush (46 : Int32) 99 rfl d3_97 rfl ?_
                              refine go_icmp 132 102 rfl (by decide) rfl d3_99 rfl (fun (hc99_61 : p1.toInt = (46 : Int)) => ?_) (fun (hc99_61 : ¬ (p1.toInt = (46 : Int))) => ?_)
                              · refine go_iconst (1 : Int32) 133 rfl d3_132 rfl ?_
                                refine go_goto 137 (by decide) rfl d3_133 ?_
                                exact go_ireturn d3_137 rfl (Or.inr (Or.inl rfl)) rfl rfl (by decide) (by decide) ⟨_, rfl, rfl, Or.inl ⟨rfl, by omega⟩⟩
                              · refine go_iloadN 103 rfl d3_102 rfl ?_
                                refine go_bipush (94 : Int32) 105 rfl d3_103 rfl ?_
                                refine go_icmp 132 108 rfl (by decide) rfl d3_105 rfl (fun (hc105_62 : p1.toInt = (94 : Int)) => ?_) (fun (hc105_62 : ¬ (p1.toInt = (94 : Int))) => ?_)
                                · refine go_iconst (1 : Int32) 133 rfl d3_132 rfl ?_
                                  refine go_goto 137 (by decide) rfl d3_133 ?_
                                  exact go_ireturn d3_137 rfl (Or.inr (Or.inl rfl)) rfl rfl (by decide) (by decide) ⟨_, rfl, rfl, Or.inl ⟨rfl, by omega⟩⟩
                                · refine go_iloadN 109 rfl d3_108 rfl ?_
                                  refine go_bipush (95 : Int32) 111 rfl d3_109 rfl ?_
                                  refine go_icmp 132 114 rfl (by decide) rfl d3_111 rfl (fun (hc111_63 : p1.toInt = (95 : Int)) => ?_) (fun (hc111_63 : ¬ (p1.toInt = (95 : Int))) => ?_)
                                  · refine go_iconst (1 : Int32) 133 rfl d3_132 rfl ?_
                                    refine go_goto 137 (by decide) rfl d3_133 ?_
                                    exact go_ireturn d3_137 rfl (Or.inr (Or.inl rfl)) rfl rfl (by decide) (by decide) ⟨_, rfl, rfl, Or.inl ⟨rfl, by omega⟩⟩
                                  · refine go_iloadN 115 rfl d3_114 rfl ?_
                                    refine go_bipush (96 : Int32) 117 rfl d3_115 rfl ?_
                                    refine go_icmp 132 120 rfl (by decide) rfl d3_117 rfl (fun (hc117_64 : p1.toInt = (96 : Int)) => ?_) (fun (hc117_64 : ¬ (p1.toInt = (96 : Int))) => ?_)
                                    · refine go_iconst (1 : Int32) 133 rfl d3_132 rfl ?_
                                      refine go_goto 137 (by decide) rfl d3_133 ?_
                                      exact go_ireturn d3_137 rfl (Or.inr (Or.inl rfl)) rfl rfl (by decide) (by decide) ⟨_, rfl, rfl, Or.inl ⟨rfl, by omega⟩⟩
                                    · refine go_iloadN 121 rfl d3_120 rfl ?_
                                      refine go_bipush (124 : Int32) 123 rfl d3_121 rfl ?_
                                      refine go_icmp 132 126 rfl (by decide) rfl d3_123 rfl (fun (hc123_65 : p1.toInt = (124 : Int)) => ?_) (fun (hc123_65 : ¬ (p1.toInt = (124 : Int))) => ?_)
                                      · refine go_iconst (1 : Int32) 133 rfl d3_132 rfl ?_
                                        refine go_goto 137 (by decide) rfl d3_133 ?_
                                        exact go_ireturn d3_137 rfl (Or.inr (Or.inl rfl)) rfl rfl (by decide) (by decide) ⟨_, rfl, rfl, Or.inl ⟨rfl, by omega⟩⟩
                                      · refine go_iloadN 127 rfl d3_126 rfl ?_
                                        refine go_bipush (126 : Int32) 129 rfl d3_127 rfl ?_
                                        refine go_icmp 136 132 rfl (by decide) rfl d3_129 rfl (fun (hc129_66 : p1.toInt ≠ (126 : Int)) => ?_) (fun (hc129_66 : ¬ (p1.toInt ≠ (126 : Int))) => ?_)
                                        · refine go_iconst (0 : Int32) 137 rfl d3_136 rfl ?_
                                          exact go_ireturn d3_137 rfl (Or.inr (Or.inl rfl)) rfl rfl (by decide) (by decide) ⟨_, rfl, rfl, Or.inr ⟨rfl, by omega⟩⟩
                                        · refine go_iconst (1 : Int32) 133 rfl d3_132 rfl ?_
                                          refine go_goto 137 (by decide) rfl d3_133 ?_
                                          exact go_ireturn d3_137 rfl (Or.inr (Or.inl rfl)) rfl rfl (by decide) (by decide) ⟨_, rfl, rfl, Or.inl ⟨rfl, by omega⟩⟩
          · refine go_iconst (1 : Int32) 41 rfl d3_40 rfl ?_
            exact go_ireturn d3_41 rfl (Or.inr (Or.inl rfl)) rfl rfl (by decide) (by decide) ⟨_, rfl, rfl, Or.inl ⟨rfl, by omega⟩⟩
      · refine go_iconst (1 : Int32) 27 rfl d3_26 rfl ?_
        exact go_ireturn d3_27 rfl (Or.inr (Or.inl rfl)) rfl rfl (by decide) (by decide) ⟨_, rfl, rfl, Or.inl ⟨rfl, by omega⟩⟩
  · refine go_iloadN 7 rfl d3_6 rfl ?_
    refine go_bipush (122 : Int32) 9 rfl d3_7 rfl ?_
    refine go_icmp 14 12 rfl (by decide) rfl d3_9 rfl (fun (hc9_67 : (122 : Int) < p1.toInt) => ?_) (fun (hc9_67 : ¬ ((122 : Int) < p1.toInt)) => ?_)
    · refine go_iloadN 15 rfl d3_14 rfl ?_
      refine go_bipush (65 : Int32) 17 rfl d3_15 rfl ?_
      refine go_icmp 28 20 rfl (by decide) rfl d3_17 rfl (fun (hc17_68 : p1.toInt < (65 : Int)) => ?_) (fun (hc17_68 : ¬ (p1.toInt < (65 : Int))) => ?_)
      · refine go_iloadN 29 rfl d3_28 rfl ?_
        refine go_bipush (48 : Int32) 31 rfl d3_29 rfl ?_
        refine go_icmp 42 34 rfl (by decide) rfl d3_31 rfl (fun (hc31_69 : p1.toInt < (48 : Int)) => ?_) (fun (hc31_69 : ¬ (p1.toInt < (48 : Int))) => ?_)
        · refine go_iloadN 43 rfl d3_42 rfl ?_
          refine go_bipush (33 : Int32) 45 rfl d3_43 rfl ?_
          refine go_icmp 132 48 rfl (by decide) rfl d3_45 rfl (fun (hc45_70 : p1.toInt = (33 : Int)) => ?_) (fun (hc45_70 : ¬ (p1.toInt = (33 : Int))) => ?_)
          · refine go_iconst (1 : Int32) 133 rfl d3_132 rfl ?_
            refine go_goto 137 (by decide) rfl d3_133 ?_
            exact go_ireturn d3_137 rfl (Or.inr (Or.inl rfl)) rfl rfl (by decide) (by decide) ⟨_, rfl, rfl, Or.inl ⟨rfl, by omega⟩⟩
          · refine go_iloadN 49 rfl d3_48 rfl ?_
            refine go_bipush (35 : Int32) 51 rfl d3_49 rfl ?_
            refine go_icmp 132 54 rfl (by decide) rfl d3_51 rfl (fun (hc51_71 : p1.toInt = (35 : Int)) => ?_) (fun (hc51_71 : ¬ (p1.toInt = (35 : Int))) => ?_)
            · refine go_iconst (1 : Int32) 133 rfl d3_132 rfl ?_
              refine go_goto 137 (by decide) rfl d3_133 ?_
              exact go_ireturn d3_137 rfl (Or.inr (Or.inl rfl)) rfl rfl (by decide) (by decide) ⟨_, rfl, rfl, Or.inl ⟨rfl, by omega⟩⟩
            · refine go_iloadN 55 rfl d3_54 rfl ?_
              refine go_bipush (36 : Int32) 57 rfl d3_55 rfl ?_
              refine go_icmp 132 60 rfl (by decide) rfl d3_57 rfl (fun (hc57_72 : p1.toInt = (36 : Int)) => ?_) (fun (hc57_72 : ¬ (p1.toInt = (36 : Int))) => ?_)
              · refine go_iconst (1 : Int32) 133 rfl d3_132 rfl ?_
                refine go_goto 137 (by decide) rfl d3_133 ?_
                exact go_ireturn d3_137 rfl (Or.inr (Or.inl rfl)) rfl rfl (by decide) (by decide) ⟨_, rfl, rfl, Or.inl ⟨rfl, by omega⟩⟩
              · refine go_iloadN 61 rfl d3_60 rfl ?_
                refine go_bipush (37 : Int32) 63 rfl d3_61 rfl ?_
                refine go_icmp 132 66 rfl (by decide) rfl d3_63 rfl (fun (hc63_73 : p1.toInt = (37 : Int)) => ?_) (fun (hc63_73 : ¬ (p1.toInt = (37 : Int))) => ?_)
                · refine go_iconst (1 : Int32) 133 rfl d3_132 rfl ?_
                  refine go_goto 137 (by decide) rfl d3_133 ?_
                  exact go_ireturn d3_137 rfl (Or.inr (Or.inl rfl)) rfl rfl (by decide) (by decide) ⟨_, rfl, rfl, Or.inl ⟨rfl, by omega⟩⟩
                · refine go_iloadN 67 rfl d3_66 rfl ?_
                  refine go_bipush (38 : Int32) 69 rfl d3_67 rfl ?_
                  refine go_icmp 132 72 rfl (by decide) rfl d3_69 rfl (fun (hc69_74 : p1.toInt = (38 : Int)) => ?_) (fun (hc69_74 : ¬ (p1.toInt = (38 : Int))) => ?_)
                  · refine go_iconst (1 : Int32) 133 rfl d3_132 rfl ?_
                    refine go_goto 137 (by decide) rfl d3_133 ?_
                    exact go_ireturn d3_137 rfl (Or.inr (Or.inl rfl)) rfl rfl (by decide) (by decide) ⟨_, rfl, rfl, Or.inl ⟨rfl, by omega⟩⟩
                  · refine go_iloadN 73 rfl d3_72 rfl ?_
                    refine go_bipush (39 : Int32) 75 rfl d3_73 rfl ?_
                    refine go_icmp 132 78 rfl (by decide) rfl d3_75 rfl (fun (hc75_75 : p1.toInt = (39 : Int)) => ?_) (fun (hc75_75 : ¬ (p1.toInt = (39 : Int))) => ?_)
                    · refine go_iconst (1 : Int32) 133 rfl d3_132 rfl ?_
                      refine go_goto 137 (by decide) rfl d3_133 ?_
                      exact go_ireturn d3_137 rfl (Or.inr (Or.inl rfl)) rfl rfl (by decide) (by decide) ⟨_, rfl, rfl, Or.inl ⟨rfl, by omega⟩⟩
                    · refine go_iloadN 79 rfl d3_78 rfl ?_
                      refine go_bipush (42 : Int32) 81 rfl d3_79 rfl ?_
                      refine go_icmp 132 84 rfl (by decide) rfl d3_81 rfl (fun (hc81_76 : p1.toInt = (42 : Int)) => ?_) (fun (hc81_76 : ¬ (p1.toInt = (42 : Int))) => ?_)
                      · refine go_iconst (1 : Int32) 133 rfl d3_132 rfl ?_
                        refine go_goto 137 (by decide) rfl d3_133 ?_
                        exact go_ireturn d3_137 rfl (Or.inr (Or.inl rfl)) rfl rfl (by decide) (by decide) ⟨_, rfl, rfl, Or.inl ⟨rfl, by omega⟩⟩
                      · refine go_iloadN 85 rfl d3_84 rfl ?_
                        refine go_bipush (43 : Int32) 87 rfl d3_85 rfl ?_
                        refine go_icmp 132 90 rfl (by decide) rfl d3_87 rfl (fun (hc87_77 : p1.toInt = (43 : Int)) => ?_) (fun (hc87_77 : ¬ (p1.toInt = (43 : Int))) => ?_)
                        · refine go_iconst (1 : Int32) 133 rfl d3_132 rfl ?_
                          refine go_goto 137 (by decide) rfl d3_133 ?_
                          exact go_ireturn d3_137 rfl (Or.inr (Or.inl rfl)) rfl rfl (by decide) (by decide) ⟨_, rfl, rfl, Or.inl ⟨rfl, by omega⟩⟩
                        · refine go_iloadN 91 rfl d3_90 rfl ?_
                          refine go_bipush (45 : Int32) 93 rfl d3_91 rfl ?_
                          refine go_icmp 132 96 rfl (by decide) rfl d3_93 rfl (fun (hc93_78 : p1.toInt = (45 : Int)) => ?_) (fun (hc93_78 : ¬ (p1.toInt = (45 : Int))) => ?_)
                          · refine go_iconst (1 : Int32) 133 rfl d3_132 rfl ?_
                            refine go_goto 137 (by decide) rfl d3_133 ?_
                            exact go_ireturn d3_137 rfl (Or.inr (Or.inl rfl)) rfl rfl (by decide) (by decide) ⟨_, rfl, rfl, Or.inl ⟨rfl, by omega⟩⟩
                          · refine go_iloadN 97 rfl d3_96 rfl ?_
                            refine go_bipush (46 : Int32) 99 rfl d3_97 rfl ?_
                            refine go_icmp 132 102 rfl (by decide) rfl d3_99 rfl (fun (hc99_79 : p1.toInt = (46 : Int)) => ?_) (fun (hc99_79 : ¬ (p1.toInt = (46 : Int))) => ?_)
                            · refine go_iconst (1 : Int32) 133 rfl d3_132 rfl ?_
                              refine go_goto 137 (by decide) rfl d3_133 ?_
                              exact go_ireturn d3_137 rfl (Or.inr (Or.inl rfl)) rfl rfl (by decide) (by decide) ⟨_, rfl, rfl, Or.inl ⟨rfl, by omega⟩⟩
                            · refine go_iloadN 103 rfl d3_102 rfl ?_
                              refine go_bipush (94 : Int32) 105 rfl d3_103 rfl ?_
                              refine go_icmp 132 108 rfl (by decide) rfl d3_105 rfl (fun (hc105_80 : p1.toInt = (94 : Int)) => ?_) (fun (hc105_80 : ¬ (p1.toInt = (94 : Int))) => ?_)
                              · refine go_iconst (1 : Int32) 133 rfl d3_132 rfl ?_
                                refine go_goto 137 (by decide) rfl d3_133 ?_
                                exact go_ireturn d3_137 rfl (Or.inr (Or.inl rfl)) rfl rfl (by decide) (by decide) ⟨_, rfl, rfl, Or.inl ⟨rfl, by omega⟩⟩
                              · refine go_iloadN 109 rfl d3_108 rfl ?_
                                refine go_bipush (95 : Int32) 111 rfl d3_109 rfl ?_
                                refine go_icmp 132 114 rfl (by decide) rfl d3_111 rfl (fun (hc111_81 : p1.toInt = (95 : Int)) => ?_) (fun (hc111_81 : ¬ (p1.toInt = (95 : Int))) => ?_)
                                · refine go_iconst (1 : Int32) 133 rfl d3_132 rfl ?_
                                  refine go_goto 137 (by decide) rfl d3_133 ?_
                                  exact go_ireturn d3_137 rfl (Or.inr (Or.inl rfl)) rfl rfl (by decide) (by decide) ⟨_, rfl, rfl, Or.inl ⟨rfl, by omega⟩⟩
                                · refine go_iloadN 115 rfl d3_114 rfl ?_
                                  refine go_bipush (96 : Int32) 117 rfl d3_115 rfl ?_
                                  refine go_icmp 132 120 rfl (by decide) rfl d3_117 rfl (fun (hc117_82 : p1.toInt = (96 : Int)) => ?_) (fun (hc117_82 : ¬ (p1.toInt = (96 : Int))) => ?_)
                                  · refine go_iconst (1 : Int32) 133 rfl d3_132 rfl ?_
                                    refine go_goto 137 (by decide) rfl d3_133 ?_
                                    exact go_ireturn d3_137 rfl (Or.inr (Or.inl rfl)) rfl rfl (by decide) (by decide) ⟨_, rfl, rfl, Or.inl ⟨rfl, by omega⟩⟩
                                  · refine go_iloadN 121 rfl d3_120 rfl ?_
                                    refine go_bipush (124 : Int32) 123 rfl d3_121 rfl ?_
                                    refine go_icmp 132 126 rfl (by decide) rfl d3_123 rfl (fun (hc123_83 : p1.toInt = (124 : Int)) => ?_) (fun (hc123_83 : ¬ (p1.toInt = (124 : Int))) => ?_)
                                    · refine go_iconst (1 : Int32) 133 rfl d3_132 rfl ?_
                                      refine go_goto 137 (by decide) rfl d3_133 ?_
                                      exact go_ireturn d3_137 rfl (Or.inr (Or.inl rfl)) rfl rfl (by decide) (by decide) ⟨_, rfl, rfl, Or.inl ⟨rfl, by omega⟩⟩
                                    · refine go_iloadN 127 rfl d3_126 rfl ?_
                                      refine go_bipush (126 : Int32) 129 rfl d3_127 rfl ?_
                                      refine go_icmp 136 132 rfl (by decide) rfl d3_129 rfl (fun (hc129_84 : p1.toInt ≠ (126 : Int)) => ?_) (fun (hc129_84 : ¬ (p1.toInt ≠ (126 : Int))) => ?_)
                                      · refine go_iconst (0 : Int32) 137 rfl d3_136 rfl ?_
                                        exact go_ireturn d3_137 rfl (Or.inr (Or.inl rfl)) rfl rfl (by decide) (by decide) ⟨_, rfl, rfl, Or.inr ⟨rfl, by omega⟩⟩
                                      · refine go_iconst (1 : Int32) 133 rfl d3_132 rfl ?_
                                        refine go_goto 137 (by decide) rfl d3_133 ?_
                                        exact go_ireturn d3_137 rfl (Or.inr (Or.inl rfl)) rfl rfl (by decide) (by decide) ⟨_, rfl, rfl, Or.inl ⟨rfl, by omega⟩⟩
        · refine go_iloadN 35 rfl d3_34 rfl ?_
          refine go_bipush (57 : Int32) 37 rfl d3_35 rfl ?_
          refine go_icmp 42 40 rfl (by decide) rfl d3_37 rfl (fun (hc37_85 : (57 : Int) < p1.toInt) => ?_) (fun (hc37_85 : ¬ ((57 : Int) < p1.toInt)) => ?_)
          · refine go_iloadN 43 rfl d3_42 rfl ?_
            refine go_bipush (33 : Int32) 45 rfl d3_43 rfl ?_
            refine go_icmp 132 48 rfl (by decide) rfl d3_45 rfl (fun (hc45_86 : p1.toInt = (33 : Int)) => ?_) (fun (hc45_86 : ¬ (p1.toInt = (33 : Int))) => ?_)
            · refine go_iconst (1 : Int32) 133 rfl d3_132 rfl ?_
              refine go_goto 137 (by decide) rfl d3_133 ?_
              exact go_ireturn d3_137 rfl (Or.inr (Or.inl rfl)) rfl rfl (by decide) (by decide) ⟨_, rfl, rfl, Or.inl ⟨rfl, by omega⟩⟩
            · refine go_iloadN 49 rfl d3_48 rfl ?_
              refine go_bipush (35 : Int32) 51 rfl d3_49 rfl ?_
              refine go_icmp 132 54 rfl (by decide) rfl d3_51 rfl (fun (hc51_87 : p1.toInt = (35 : Int)) => ?_) (fun (hc51_87 : ¬ (p1.toInt = (35 : Int))) => ?_)
              · refine go_iconst (1 : Int32) 133 rfl d3_132 rfl ?_
                refine go_goto 137 (by decide) rfl d3_133 ?_
                exact go_ireturn d3_137 rfl (Or.inr (Or.inl rfl)) rfl rfl (by decide) (by decide) ⟨_, rfl, rfl, Or.inl ⟨rfl, by omega⟩⟩
              · refine go_iloadN 55 rfl d3_54 rfl ?_
                refine go_bipush (36 : Int32) 57 rfl d3_55 rfl ?_
                refine go_icmp 132 60 rfl (by decide) rfl d3_57 rfl (fun (hc57_88 : p1.toInt = (36 : Int)) => ?_) (fun (hc57_88 : ¬ (p1.toInt = (36 : Int))) => ?_)
                · refine go_iconst (1 : Int32) 133 rfl d3_132 rfl ?_
                  refine go_goto 137 (by decide) rfl d3_133 ?_
                  exact go_ireturn d3_137 rfl (Or.inr (Or.inl rfl)) rfl rfl (by decide) (by decide) ⟨_, rfl, rfl, Or.inl ⟨rfl, by omega⟩⟩
                · refine go_iloadN 61 rfl d3_60 rfl ?_
                  refine go_bipush (37 : Int32) 63 rfl d3_61 rfl ?_
                  refine go_icmp 132 66 rfl (by decide) rfl d3_63 rfl (fun (hc63_89 : p1.toInt = (37 : Int)) => ?_) (fun (hc63_89 : ¬ (p1.toInt = (37 : Int))) => ?_)
                  · refine go_iconst (1 : Int32) 133 rfl d3_132 rfl ?_
                    refine go_goto 137 (by decide) rfl d3_133 ?_
                    exact go_ireturn d3_137 rfl (Or.inr (Or.inl rfl)) rfl rfl (by decide) (by decide) ⟨_, rfl, rfl, Or.inl ⟨rfl, by omega⟩⟩
                  · refine go_iloadN 67 rfl d3_66 rfl ?_
                    refine go_bipush (38 : Int32) 69 rfl d3_67 rfl ?_
                    refine go_icmp 132 72 rfl (by decide) rfl d3_69 rfl (fun (hc69_90 : p1.toInt = (38 : Int)) => ?_) (fun (hc69_90 : ¬ (p1.toInt = (38 : Int))) => ?_)
                    · refine go_iconst (1 : Int32) 133 rfl d3_132 rfl ?_
                      refine go_goto 137 (by decide) rfl d3_133 ?_
                      exact go_ireturn d3_137 rfl (Or.inr (Or.inl rfl)) rfl rfl (by decide) (by decide) ⟨_, rfl, rfl, Or.inl ⟨rfl, by omega⟩⟩
                    · refine go_iloadN 73 rfl d3_72 rfl ?_
                      refine go_bipush (39 : Int32) 75 rfl d3_73 rfl ?_
                      refine go_icmp 132 78 rfl (by decide) rfl d3_75 rfl (fun (hc75_91 : p1.toInt = (39 : Int)) => ?_) (fun (hc75_91 : ¬ (p1.toInt = (39 : Int))) => ?_)
                      · refine go_iconst (1 : Int32) 133 rfl d3_132 rfl ?_
                        refine go_goto 137 (by decide) rfl d3_133 ?_
                        exact go_ireturn d3_137 rfl (Or.inr (Or.inl rfl)) rfl rfl (by decide) (by decide) ⟨_, rfl, rfl, Or.inl ⟨rfl, by omega⟩⟩
                      · refine go_iloadN 79 rfl d3_78 rfl ?_
                        refine go_bipush (42 : Int32) 81 rfl d3_79 rfl ?_
                        refine go_icmp 132 84 rfl (by decide) rfl d3_81 rfl (fun (hc81_92 : p1.toInt = (42 : Int)) => ?_) (fun (hc81_92 : ¬ (p1.toInt = (42 : Int))) => ?_)
                        · refine go_iconst (1 : Int32) 133 rfl d3_132 rfl ?_
                          refine go_goto 137 (by decide) rfl d3_133 ?_
                          exact go_ireturn d3_137 rfl (Or.inr (Or.inl rfl)) rfl rfl (by decide) (by decide) ⟨_, rfl, rfl, Or.inl ⟨rfl, by omega⟩⟩
                        · refine go_iloadN 85 rfl d3_84 rfl ?_
                          refine go_bipush (43 : Int32) 87 rfl d3_85 rfl ?_
                          refine go_icmp 132 90 rfl (by decide) rfl d3_87 rfl (fun (hc87_93 : p1.toInt = (43 : Int)) => ?_) (fun (hc87_93 : ¬ (p1.toInt = (43 : Int))) => ?_)
                          · refine go_iconst (1 : Int32) 133 rfl d3_132 rfl ?_
                            refine go_goto 137 (by decide) rfl d3_133 ?_
                            exact go_ireturn d3_137 rfl (Or.inr (Or.inl rfl)) rfl rfl (by decide) (by decide) ⟨_, rfl, rfl, Or.inl ⟨rfl, by omega⟩⟩
                          · refine go_iloadN 91 rfl d3_90 rfl ?_
                            refine go_bipush (45 : Int32) 93 rfl d3_91 rfl ?_
                            refine go_icmp 132 96 rfl (by decide) rfl d3_93 rfl (fun (hc93_94 : p1.toInt = (45 : Int)) => ?_) (fun (hc93_94 : ¬ (p1.toInt = (45 : Int))) => ?_)
                            · refine go_iconst (1 : Int32) 133 rfl d3_132 rfl ?_
                              refine go_goto 137 (by decide) rfl d3_133 ?_
                              exact go_ireturn d3_137 rfl (Or.inr (Or.inl rfl)) rfl rfl (by decide) (by decide) ⟨_, rfl, rfl, Or.inl ⟨rfl, by omega⟩⟩
                            · refine go_iloadN 97 rfl d3_96 rfl ?_
                              refine go_bipush (46 : Int32) 99 rfl d3_97 rfl ?_
                              refine go_icmp 132 102 rfl (by decide) rfl d3_99 rfl (fun (hc99_95 : p1.toInt = (46 : Int)) => ?_) (fun (hc99_95 : ¬ (p1.toInt = (46 : Int))) => ?_)
                              · refine go_iconst (1 : Int32) 133 rfl d3_132 rfl ?_
                                refine go_goto 137 (by decide) rfl d3_133 ?_
                                exact go_ireturn d3_137 rfl (Or.inr (Or.inl rfl)) rfl rfl (by decide) (by decide) ⟨_, rfl, rfl, Or.inl ⟨rfl, by omega⟩⟩
                              · refine go_iloadN 103 rfl d3_102 rfl ?_
                                refine go_bipush (94 : Int32) 105 rfl d3_103 rfl ?_
                                refine go_icmp 132 108 rfl (by decide) rfl d3_105 rfl (fun (hc105_96 : p1.toInt = (94 : Int)) => ?_) (fun (hc105_96 : ¬ (p1.toInt = (94 : Int))) => ?_)
                                · refine go_iconst (1 : Int32) 133 rfl d3_132 rfl ?_
                                  refine go_goto 137 (by decide) rfl d3_133 ?_
                                  exact go_ireturn d3_137 rfl (Or.inr (Or.inl rfl)) rfl rfl (by decide) (by decide) ⟨_, rfl, rfl, Or.inl ⟨rfl, by omega⟩⟩
                                · refine go_iloadN 109 rfl d3_108 rfl ?_
                                  refine go_bipush (95 : Int32) 111 rfl d3_109 rfl ?_
                                  refine go_icmp 132 114 rfl (by decide) rfl d3_111 rfl (fun (hc111_97 : p1.toInt = (95 : Int)) => ?_) (fun (hc111_97 : ¬ (p1.toInt = (95 : Int))) => ?_)
                                  · refine go_iconst (1 : Int32) 133 rfl d3_132 rfl ?_
                                    refine go_goto 137 (by decide) rfl d3_133 ?_
                                    exact go_ireturn d3_137 rfl (Or.inr (Or.inl rfl)) rfl rfl (by decide) (by decide) ⟨_, rfl, rfl, Or.inl ⟨rfl, by omega⟩⟩
                                  · refine go_iloadN 115 rfl d3_114 rfl ?_
                                    refine go_bipush (96 : Int32) 117 rfl d3_115 rfl ?_
                                    refine go_icmp 132 120 rfl (by decide) rfl d3_117 rfl (fun (hc117_98 : p1.toInt = (96 : Int)) => ?_) (fun (hc117_98 : ¬ (p1.toInt = (96 : Int))) => ?_)
                                    · refine go_iconst (1 : Int32) 133 rfl d3_132 rfl ?_
                                      refine go_goto 137 (by decide) rfl d3_133 ?_
                                      exact go_ireturn d3_137 rfl (Or.inr (Or.inl rfl)) rfl rfl (by decide) (by decide) ⟨_, rfl, rfl, Or.inl ⟨rfl, by omega⟩⟩
                                    · refine go_iloadN 121 rfl d3_120 rfl ?_
                                      refine go_bipush (124 : Int32) 123 rfl d3_121 rfl ?_
                                      refine go_icmp 132 126 rfl (by decide) rfl d3_123 rfl (fun (hc123_99 : p1.toInt = (124 : Int)) => ?_) (fun (hc123_99 : ¬ (p1.toInt = (124 : Int))) => ?_)
                                      · refine go_iconst (1 : Int32) 133 rfl d3_132 rfl ?_
                                        refine go_goto 137 (by decide) rfl d3_133 ?_
                                        exact go_ireturn d3_137 rfl (Or.inr (Or.inl rfl)) rfl rfl (by decide) (by decide) ⟨_, rfl, rfl, Or.inl ⟨rfl, by omega⟩⟩
                                      · refine go_iloadN 127 rfl d3_126 rfl ?_
                                        refine go_bipush (126 : Int32) 129 rfl d3_127 rfl ?_
                                        refine go_icmp 136 132 rfl (by decide) rfl d3_129 rfl (fun (hc129_100 : p1.toInt ≠ (126 : Int)) => ?_) (fun (hc129_100 : ¬ (p1.toInt ≠ (126 : Int))) => ?_)
                                        · refine go_iconst (0 : Int32) 137 rfl d3_136 rfl ?_
                                          exact go_ireturn d3_137 rfl (Or.inr (Or.inl rfl)) rfl rfl (by decide) (by decide) ⟨_, rfl, rfl, Or.inr ⟨rfl, by omega⟩⟩
                                        · refine go_iconst (1 : Int32) 133 rfl d3_132 rfl ?_
                                          refine go_goto 137 (by decide) rfl d3_133 ?_
                                          exact go_ireturn d3_137 rfl (Or.inr (Or.inl rfl)) rfl rfl (by decide) (by decide) ⟨_, rfl, rfl, Or.inl ⟨rfl, by omega⟩⟩
          · refine go_iconst (1 : Int32) 41 rfl d3_40 rfl ?_
            exact go_ireturn d3_41 rfl (Or.inr (Or.inl rfl)) rfl rfl (by decide) (by decide) ⟨_, rfl, rfl, Or.inl ⟨rfl, by omega⟩⟩
      · refine go_iloadN 21 rfl d3_20 rfl ?_
        refine go_bipush (90 : Int32) 23 rfl d3_21 rfl ?_
        refine go_icmp 28 26 rfl (by decide) rfl d3_23 rfl (fun (hc23_101 : (90 : Int) < p1.toInt) => ?_) (fun (hc23_101 : ¬ ((90 : Int) < p1.toInt)) => ?_)
        · refine go_iloadN 29 rfl d3_28 rfl ?_
          refine go_bipush (48 : Int32) 31 rfl d3_29 rfl ?_
          refine go_icmp 42 34 rfl (by decide) rfl d3_31 rfl (fun (hc31_102 : p1.toInt < (48 : Int)) => ?_) (fun (hc31_102 : ¬ (p1.toInt < (48 : Int))) => ?_)
          · refine go_iloadN 43 rfl d3_42 rfl ?_
            refine go_bipush (33 : Int32) 45 rfl d3_43 rfl ?_
            refine go_icmp 132 48 rfl (by decide) rfl d3_45 rfl (fun (hc45_103 : p1.toInt = (33 : Int)) => ?_) (fun (hc45_103 : ¬ (p1.toInt = (33 : Int))) => ?_)
            · refine go_iconst (1 : Int32) 133 rfl d3_132 rfl ?_
              refine go_goto 137 (by decide) rfl d3_133 ?_
              exact go_ireturn d3_137 rfl (Or.inr (Or.inl rfl)) rfl rfl (by decide) (by decide) ⟨_, rfl, rfl, Or.inl ⟨rfl, by omega⟩⟩
            · refine go_iloadN 49 rfl d3_48 rfl ?_
              refine go_bipush (35 : Int32) 51 rfl d3_49 rfl ?_
              refine go_icmp 132 54 rfl (by decide) rfl d3_51 rfl (fun (hc51_104 : p1.toInt = (35 : Int)) => ?_) (fun (hc51_104 : ¬ (p1.toInt = (35 : Int))) => ?_)
              · refine go_iconst (1 : Int32) 133 rfl d3_132 rfl ?_
                refine go_goto 137 (by decide) rfl d3_133 ?_
                exact go_ireturn d3_137 rfl (Or.inr (Or.inl rfl)) rfl rfl (by decide) (by decide) ⟨_, rfl, rfl, Or.inl ⟨rfl, by omega⟩⟩
              · refine go_iloadN 55 rfl d3_54 rfl ?_
                refine go_bipush (36 : Int32) 57 rfl d3_55 rfl ?_
                refine go_icmp 132 60 rfl (by decide) rfl d3_57 rfl (fun (hc57_105 : p1.toInt = (36 : Int)) => ?_) (fun (hc57_105 : ¬ (p1.toInt = (36 : Int))) => ?_)
                · refine go_iconst (1 : Int32) 133 rfl d3_132 rfl ?_
                  refine go_goto 137 (by decide) rfl d3_133 ?_
                  exact go_ireturn d3_137 rfl (Or.inr (Or.inl rfl)) rfl rfl (by decide) (by decide) ⟨_, rfl, rfl, Or.inl ⟨rfl, by omega⟩⟩
                · refine go_iloadN 61 rfl d3_60 rfl ?_
                  refine go_bipush (37 : Int32) 63 rfl d3_61 rfl ?_
                  refine go_icmp 132 66 rfl (by decide) rfl d3_63 rfl (fun (hc63_106 : p1.toInt = (37 : Int)) => ?_) (fun (hc63_106 : ¬ (p1.toInt = (37 : Int))) => ?_)
                  · refine go_iconst (1 : Int32) 133 rfl d3_132 rfl ?_
                    refine go_goto 137 (by decide) rfl d3_133 ?_
                    exact go_ireturn d3_137 rfl (Or.inr (Or.inl rfl)) rfl rfl (by decide) (by decide) ⟨_, rfl, rfl, Or.inl ⟨rfl, by omega⟩⟩
                  · refine go_iloadN 67 rfl d3_66 rfl ?_
                    refine go_bipush (38 : Int32) 69 rfl d3_67 rfl ?_
                    refine go_icmp 132 72 rfl (by decide) rfl d3_69 rfl (fun (hc69_107 : p1.toInt = (38 : Int)) => ?_) (fun (hc69_107 : ¬ (p1.toInt = (38 : Int))) => ?_)
                    · refine go_iconst (1 : Int32) 133 rfl d3_132 rfl ?_
                      refine go_goto 137 (by decide) rfl d3_133 ?_
                      exact go_ireturn d3_137 rfl (Or.inr (Or.inl rfl)) rfl rfl (by decide) (by decide) ⟨_, rfl, rfl, Or.inl ⟨rfl, by omega⟩⟩
                    · refine go_iloadN 73 rfl d3_72 rfl ?_
                      refine go_bipush (39 : Int32) 75 rfl d3_73 rfl ?_
                      refine go_icmp 132 78 rfl (by decide) rfl d3_75 rfl (fun (hc75_108 : p1.toInt = (39 : Int)) => ?_) (fun (hc75_108 : ¬ (p1.toInt = (39 : Int))) => ?_)
                      · refine go_iconst (1 : Int32) 133 rfl d3_132 rfl ?_
                        refine go_goto 137 (by decide) rfl d3_133 ?_
                        exact go_ireturn d3_137 rfl (Or.inr (Or.inl rfl)) rfl rfl (by decide) (by decide) ⟨_, rfl, rfl, Or.inl ⟨rfl, by omega⟩⟩
                      · refine go_iloadN 79 rfl d3_78 rfl ?_
                        refine go_bipush (42 : Int32) 81 rfl d3_79 rfl ?_
                        refine go_icmp 132 84 rfl (by decide) rfl d3_81 rfl (fun (hc81_109 : p1.toInt = (42 : Int)) => ?_) (fun (hc81_109 : ¬ (p1.toInt = (42 : Int))) => ?_)
                        · refine go_iconst (1 : Int32) 133 rfl d3_132 rfl ?_
                          refine go_goto 137 (by decide) rfl d3_133 ?_
                          exact go_ireturn d3_137 rfl (Or.inr (Or.inl rfl)) rfl rfl (by decide) (by decide) ⟨_, rfl, rfl, Or.inl ⟨rfl, by omega⟩⟩
                        · refine go_iloadN 85 rfl d3_84 rfl ?_
                          refine go_bipush (43 : Int32) 87 rfl d3_85 rfl ?_
                          refine go_icmp 132 90 rfl (by decide) rfl d3_87 rfl (fun (hc87_110 : p1.toInt = (43 : Int)) => ?_) (fun (hc87_110 : ¬ (p1.toInt = (43 : Int))) => ?_)
                          · refine go_iconst (1 : Int32) 133 rfl d3_132 rfl ?_
                            refine go_goto 137 (by decide) rfl d3_133 ?_
                            exact go_ireturn d3_137 rfl (Or.inr (Or.inl rfl)) rfl rfl (by decide) (by decide) ⟨_, rfl, rfl, Or.inl ⟨rfl, by omega⟩⟩
                          · refine go_iloadN 91 rfl d3_90 rfl ?_
                            refine go_bipush (45 : Int32) 93 rfl d3_91 rfl ?_
                            refine go_icmp 132 96 rfl (by decide) rfl d3_93 rfl (fun (hc93_111 : p1.toInt = (45 : Int)) => ?_) (fun (hc93_111 : ¬ (p1.toInt = (45 : Int))) => ?_)
                            · refine go_iconst (1 : Int32) 133 rfl d3_132 rfl ?_
                              refine go_goto 137 (by decide) rfl d3_133 ?_
                              exact go_ireturn d3_137 rfl (Or.inr (Or.inl rfl)) rfl rfl (by decide) (by decide) ⟨_, rfl, rfl, Or.inl ⟨rfl, by omega⟩⟩
                            · refine go_iloadN 97 rfl d3_96 rfl ?_
                              refine go_bipush (46 : Int32) 99 rfl d3_97 rfl ?_
                              refine go_icmp 132 102 rfl (by decide) rfl d3_99 rfl (fun (hc99_112 : p1.toInt = (46 : Int)) => ?_) (fun (hc99_112 : ¬ (p1.toInt = (46 : Int))) => ?_)
                              · refine go_iconst (1 : Int32) 133 rfl d3_132 rfl ?_
                                refine go_goto 137 (by decide) rfl d3_133 ?_
                                exact go_ireturn d3_137 rfl (Or.inr (Or.inl rfl)) rfl rfl (by decide) (by decide) ⟨_, rfl, rfl, Or.inl ⟨rfl, by omega⟩⟩
                              · refine go_iloadN 103 rfl d3_102 rfl ?_
                                refine go_bipush (94 : Int32) 105 rfl d3_103 rfl ?_
                                refine go_icmp 132 108 rfl (by decide) rfl d3_105 rfl (fun (hc105_113 : p1.toInt = (94 : Int)) => ?_) (fun (hc105_113 : ¬ (p1.toInt = (94 : Int))) => ?_)
                                · refine go_iconst (1 : Int32) 133 rfl d3_132 rfl ?_
                                  refine go_goto 137 (by decide) rfl d3_133 ?_
                                  exact go_ireturn d3_137 rfl (Or.inr (Or.inl rfl)) rfl rfl (by decide) (by decide) ⟨_, rfl, rfl, Or.inl ⟨rfl, by omega⟩⟩
                                · refine go_iloadN 109 rfl d3_108 rfl ?_
                                  refine go_bipush (95 : Int32) 111 rfl d3_109 rfl ?_
                                  refine go_icmp 132 114 rfl (by decide) rfl d3_111 rfl (fun (hc111_114 : p1.toInt = (95 : Int)) => ?_) (fun (hc111_114 : ¬ (p1.toInt = (95 : Int))) => ?_)
                                  · refine go_iconst (1 : Int32) 133 rfl d3_132 rfl ?_
                                    refine go_goto 137 (by decide) rfl d3_133 ?_
                                    exact go_ireturn d3_137 rfl (Or.inr (Or.inl rfl)) rfl rfl (by decide) (by decide) ⟨_, rfl, rfl, Or.inl ⟨rfl, by omega⟩⟩
                                  · refine go_iloadN 115 rfl d3_114 rfl ?_
                                    refine go_bipush (96 : Int32) 117 rfl d3_115 rfl ?_
                                    refine go_icmp 132 120 rfl (by decide) rfl d3_117 rfl (fun (hc117_115 : p1.toInt = (96 : Int)) => ?_) (fun (hc117_115 : ¬ (p1.toInt = (96 : Int))) => ?_)
                                    · refine go_iconst (1 : Int32) 133 rfl d3_132 rfl ?_
                                      refine go_goto 137 (by decide) rfl d3_133 ?_
                                      exact go_ireturn d3_137 rfl (Or.inr (Or.inl rfl)) rfl rfl (by decide) (by decide) ⟨_, rfl, rfl, Or.inl ⟨rfl, by omega⟩⟩
                                    · refine go_iloadN 121 rfl d3_120 rfl ?_
                                      refine go_bipush (124 : Int32) 123 rfl d3_121 rfl ?_
                                      refine go_icmp 132 126 rfl (by decide) rfl d3_123 rfl (fun (hc123_116 : p1.toInt = (124 : Int)) => ?_) (fun (hc123_116 : ¬ (p1.toInt = (124 : Int))) => ?_)
                                      · refine go_iconst (1 : Int32) 133 rfl d3_132 rfl ?_
                                        refine go_goto 137 (by decide) rfl d3_133 ?_
                                        exact go_ireturn d3_137 rfl (Or.inr (Or.inl rfl)) rfl rfl (by decide) (by decide) ⟨_, rfl, rfl, Or.inl ⟨rfl, by omega⟩⟩
                                      · refine go_iloadN 127 rfl d3_126 rfl ?_
                                        refine go_bipush (126 : Int32) 129 rfl d3_127 rfl ?_
                                        refine go_icmp 136 132 rfl (by decide) rfl d3_129 rfl (fun (hc129_117 : p1.toInt ≠ (126 : Int)) => ?_) (fun (hc129_117 : ¬ (p1.toInt ≠ (126 : Int))) => ?_)
                                        · refine go_iconst (0 : Int32) 137 rfl d3_136 rfl ?_
                                          exact go_ireturn d3_137 rfl (Or.inr (Or.inl rfl)) rfl rfl (by decide) (by decide) ⟨_, rfl, rfl, Or.inr ⟨rfl, by omega⟩⟩
                                        · refine go_iconst (1 : Int32) 133 rfl d3_132 rfl ?_
                                          refine go_goto 137 (by decide) rfl d3_133 ?_
                                          exact go_ireturn d3_137 rfl (Or.inr (Or.inl rfl)) rfl rfl (by decide) (by decide) ⟨_, rfl, rfl, Or.inl ⟨rfl, by omega⟩⟩
          · refine go_iloadN 35 rfl d3_34 rfl ?_
            refine go_bipush (57 : Int32) 37 rfl d3_35 rfl ?_
            refine go_icmp 42 40 rfl (by decide) rfl d3_37 rfl (fun (hc37_118 : (57 : Int) < p1.toInt) => ?_) (fun (hc37_118 : ¬ ((57 : Int) < p1.toInt)) => ?_)
            · refine go_iloadN 43 rfl d3_42 rfl ?_
              refine go_bipush (33 : Int32) 45 rfl d3_43 rfl ?_
              refine go_icmp 132 48 rfl (by decide) rfl d3_45 rfl (fun (hc45_119 : p1.toInt = (33 : Int)) => ?_) (fun (hc45_119 : ¬ (p1.toInt = (33 : Int))) => ?_)
              · refine go_iconst (1 : Int32) 133 rfl d3_132 rfl ?_
                refine go_goto 137 (by decide) rfl d3_133 ?_
                exact go_ireturn d3_137 rfl (Or.inr (Or.inl rfl)) rfl rfl (by decide) (by decide) ⟨_, rfl, rfl, Or.inl ⟨rfl, by omega⟩⟩
              · refine go_iloadN 49 rfl d3_48 rfl ?_
                refine go_bipush (35 : Int32) 51 rfl d3_49 rfl ?_
                refine go_icmp 132 54 rfl (by decide) rfl d3_51 rfl (fun (hc51_120 : p1.toInt = (35 : Int)) => ?_) (fun (hc51_120 : ¬ (p1.toInt = (35 : Int))) => ?_)
                · refine go_iconst (1 : Int32) 133 rfl d3_132 rfl ?_
                  refine go_goto 137 (by decide) rfl d3_133 ?_
                  exact go_ireturn d3_137 rfl (Or.inr (Or.inl rfl)) rfl rfl (by decide) (by decide) ⟨_, rfl, rfl, Or.inl ⟨rfl, by omega⟩⟩
                · refine go_iloadN 55 rfl d3_54 rfl ?_
                  refine go_bipush (36 : Int32) 57 rfl d3_55 rfl ?_
                  refine go_icmp 132 60 rfl (by decide) rfl d3_57 rfl (fun (hc57_121 : p1.toInt = (36 : Int)) => ?_) (fun (hc57_121 : ¬ (p1.toInt = (36 : Int))) => ?_)
                  · refine go_iconst (1 : Int32) 133 rfl d3_132 rfl ?_
                    refine go_goto 137 (by decide) rfl d3_133 ?_
                    exact go_ireturn d3_137 rfl (Or.inr (Or.inl rfl)) rfl rfl (by decide) (by decide) ⟨_, rfl, rfl, Or.inl ⟨rfl, by omega⟩⟩
                  · refine go_iloadN 61 rfl d3_60 rfl ?_
                    refine go_bipush (37 : Int32) 63 rfl d3_61 rfl ?_
                    refine go_icmp 132 66 rfl (by decide) rfl d3_63 rfl (fun (hc63_122 : p1.toInt = (37 : Int)) => ?_) (fun (hc63_122 : ¬ (p1.toInt = (37 : Int))) => ?_)
                    · refine go_iconst (1 : Int32) 133 rfl d3_132 rfl ?_
                      refine go_goto 137 (by decide) rfl d3_133 ?_
                      exact go_ireturn d3_137 rfl (Or.inr (Or.inl rfl)) rfl rfl (by decide) (by decide) ⟨_, rfl, rfl, Or.inl ⟨rfl, by omega⟩⟩
                    · refine go_iloadN 67 rfl d3_66 rfl ?_
                      refine go_bipush (38 : Int32) 69 rfl d3_67 rfl ?_
                      refine go_icmp 132 72 rfl (by decide) rfl d3_69 rfl (fun (hc69_123 : p1.toInt = (38 : Int)) => ?_) (fun (hc69_123 : ¬ (p1.toInt = (38 : Int))) => ?_)
                      · refine go_iconst (1 : Int32) 133 rfl d3_132 rfl ?_
                        refine go_goto 137 (by decide) rfl d3_133 ?_
                        exact go_ireturn d3_137 rfl (Or.inr (Or.inl rfl)) rfl rfl (by decide) (by decide) ⟨_, rfl, rfl, Or.inl ⟨rfl, by omega⟩⟩
                      · refine go_iloadN 73 rfl d3_72 rfl ?_
                        refine go_bipush (39 : Int32) 75 rfl d3_73 rfl ?_
                        refine go_icmp 132 78 rfl (by decide) rfl d3_75 rfl (fun (hc75_124 : p1.toInt = (39 : Int)) => ?_) (fun (hc75_124 : ¬ (p1.toInt = (39 : Int))) => ?_)
                        · refine go_iconst (1 : Int32) 133 rfl d3_132 rfl ?_
                          refine go_goto 137 (by decide) rfl d3_133 ?_
                          exact go_ireturn d3_137 rfl (Or.inr (Or.inl rfl)) rfl rfl (by decide) (by decide) ⟨_, rfl, rfl, Or.inl ⟨rfl, by omega⟩⟩
                        · refine go_iloadN 79 rfl d3_78 rfl ?_
                          refine go_bipush (42 : Int32) 81 rfl d3_79 rfl ?_
                          refine go_icmp 132 84 rfl (by decide) rfl d3_81 rfl (fun (hc81_125 : p1.toInt = (42 : Int)) => ?_) (fun (hc81_125 : ¬ (p1.toInt = (42 : Int))) => ?_)
                          · refine go_iconst (1 : Int32) 133 rfl d3_132 rfl ?_
                            refine go_goto 137 (by decide) rfl d3_133 ?_
                            exact go_ireturn d3_137 rfl (Or.inr (Or.inl rfl)) rfl rfl (by decide) (by decide) ⟨_, rfl, rfl, Or.inl ⟨rfl, by omega⟩⟩
                          · refine go_iloadN 85 rfl d3_84 rfl ?_
                            refine go_bipush (43 : Int32) 87 rfl d3_85 rfl ?_
                            refine go_icmp 132 90 rfl (by decide) rfl d3_87 rfl (fun (hc87_126 : p1.toInt = (43 : Int)) => ?_) (fun (hc87_126 : ¬ (p1.toInt = (43 : Int))) => ?_)
                            · refine go_iconst (1 : Int32) 133 rfl d3_132 rfl ?_
                              refine go_goto 137 (by decide) rfl d3_133 ?_
                              exact go_ireturn d3_137 rfl (Or.inr (Or.inl rfl)) rfl rfl (by decide) (by decide) ⟨_, rfl, rfl, Or.inl ⟨rfl, by omega⟩⟩
                            · refine go_iloadN 91 rfl d3_90 rfl ?_
                              refine go_bipush (45 : Int32) 93 rfl d3_91 rfl ?_
                              refine go_icmp 132 96 rfl (by decide) rfl d3_93 rfl (fun (hc93_127 : p1.toInt = (45 : Int)) => ?_) (fun (hc93_127 : ¬ (p1.toInt = (45 : Int))) => ?_)
                              · refine go_iconst (1 : Int32) 133 rfl d3_132 rfl ?_
                                refine go_goto 137 (by decide) rfl d3_133 ?_
                                exact go_ireturn d3_137 rfl (Or.inr (Or.inl rfl)) rfl rfl (by decide) (by decide) ⟨_, rfl, rfl, Or.inl ⟨rfl, by omega⟩⟩
                              · refine go_iloadN 97 rfl d3_96 rfl ?_
                                refine go_bipush (46 : Int32) 99 rfl d3_97 rfl ?_
                                refine go_icmp 132 102 rfl (by decide) rfl d3_99 rfl (fun (hc99_128 : p1.toInt = (46 : Int)) => ?_) (fun (hc99_128 : ¬ (p1.toInt = (46 : Int))) => ?_)
                                · refine go_iconst (1 : Int32) 133 rfl d3_132 rfl ?_
                                  refine go_goto 137 (by decide) rfl d3_133 ?_
                                  exact go_ireturn d3_137 rfl (Or.inr (Or.inl rfl)) rfl rfl (by decide) (by decide) ⟨_, rfl, rfl, Or.inl ⟨rfl, by omega⟩⟩
                                · refine go_iloadN 103 rfl d3_102 rfl ?_
                                  refine go_bipush (94 : Int32) 105 rfl d3_103 rfl ?_
                                  refine go_icmp 132 108 rfl (by decide) rfl d3_105 rfl (fun (hc105_129 : p1.toInt = (94 : Int)) => ?_) (fun (hc105_129 : ¬ (p1.toInt = (94 : Int))) => ?_)
                                  · refine go_iconst (1 : Int32) 133 rfl d3_132 rfl ?_
                                    refine go_goto 137 (by decide) rfl d3_133 ?_
                                    exact go_ireturn d3_137 rfl (Or.inr (Or.inl rfl)) rfl rfl (by decide) (by decide) ⟨_, rfl, rfl, Or.inl ⟨rfl, by omega⟩⟩
                                  · refine go_iloadN 109 rfl d3_108 rfl ?_
                                    refine go_bipush (95 : Int32) 111 rfl d3_109 rfl ?_
                                    refine go_icmp 132 114 rfl (by decide) rfl d3_111 rfl (fun (hc111_130 : p1.toInt = (95 : Int)) => ?_) (fun (hc111_130 : ¬ (p1.toInt = (95 : Int))) => ?_)
                                    · refine go_iconst (1 : Int32) 133 rfl d3_132 rfl ?_
                                      refine go_goto 137 (by decide) rfl d3_133 ?_
                                      exact go_ireturn d3_137 rfl (Or.inr (Or.inl rfl)) rfl rfl (by decide) (by decide) ⟨_, rfl, rfl, Or.inl ⟨rfl, by omega⟩⟩
                                    · refine go_iloadN 115 rfl d3_114 rfl ?_
                                      refine go_bipush (96 : Int32) 117 rfl d3_115 rfl ?_
                                      refine go_icmp 132 120 rfl (by decide) rfl d3_117 rfl (fun (hc117_131 : p1.toInt = (96 : Int)) => ?_) (fun (hc117_131 : ¬ (p1.toInt = (96 : Int))) => ?_)
                                      · refine go_iconst (1 : Int32) 133 rfl d3_132 rfl ?_
                                        refine go_goto 137 (by decide) rfl d3_133 ?_
                                        exact go_ireturn d3_137 rfl (Or.inr (Or.inl rfl)) rfl rfl (by decide) (by decide) ⟨_, rfl, rfl, Or.inl ⟨rfl, by omega⟩⟩
                                      · refine go_iloadN 121 rfl d3_120 rfl ?_
                                        refine go_bipush (124 : Int32) 123 rfl d3_121 rfl ?_
                                        refine go_icmp 132 126 rfl (by decide) rfl d3_123 rfl (fun (hc123_132 : p1.toInt = (124 : Int)) => ?_) (fun (hc123_132 : ¬ (p1.toInt = (124 : Int))) => ?_)
                                        · refine go_iconst (1 : Int32) 133 rfl d3_132 rfl ?_
                                          refine go_goto 137 (by decide) rfl d3_133 ?_
                                          exact go_ireturn d3_137 rfl (Or.inr (Or.inl rfl)) rfl rfl (by decide) (by decide) ⟨_, rfl, rfl, Or.inl ⟨rfl, by omega⟩⟩
                                        · refine go_iloadN 127 rfl d3_126 rfl ?_
                                          refine go_bipush (126 : Int32) 129 rfl d3_127 rfl ?_
                                          refine go_icmp 136 132 rfl (by decide) rfl d3_129 rfl (fun (hc129_133 : p1.toInt ≠ (126 : Int)) => ?_) (fun (hc129_133 : ¬ (p1.toInt ≠ (126 : Int))) => ?_)
                                          · refine go_iconst (0 : Int32) 137 rfl d3_136 rfl ?_
                                            exact go_ireturn d3_137 rfl (Or.inr (Or.inl rfl)) rfl rfl (by decide) (by decide) ⟨_, rfl, rfl, Or.inr ⟨rfl, by omega⟩⟩
                                          · refine go_iconst (1 : Int32) 133 rfl d3_132 rfl ?_
                                            refine go_goto 137 (by decide) rfl d3_133 ?_
                                            exact go_ireturn d3_137 rfl (Or.inr (Or.inl rfl)) rfl rfl (by decide) (by decide) ⟨_, rfl, rfl, Or.inl ⟨rfl, by omega⟩⟩
            · refine go_iconst (1 : Int32) 41 rfl d3_40 rfl ?_
              exact go_ireturn d3_41 rfl (Or.inr (Or.inl rfl)) rfl rfl (by decide) (by decide) ⟨_, rfl, rfl, Or.inl ⟨rfl, by omega⟩⟩
        · refine go_iconst (1 : Int32) 27 rfl d3_26 rfl ?_
          exact go_ireturn d3_27 rfl (Or.inr (Or.inl rfl)) rfl rfl (by decide) (by decide) ⟨_, rfl, rfl, Or.inl ⟨rfl, by omega⟩⟩
    · refine go_iconst (1 : Int32) 13 rfl d3_12 rfl ?_
      exact go_ireturn d3_13 rfl (Or.inr (Or.inl rfl)) rfl rfl (by decide) (by decide) ⟨_, rfl, rfl, Or.inl ⟨rfl, by omega⟩⟩
theorem d2_0 : decode prog_33_method_4_code 0 = .ok (.iload_n 0, 1) := by decide +kernel
theorem d2_1 : decode prog_33_method_4_code 1 = .ok (.getstatic 30, 3) := by decide +kernel
theorem d2_4 : decode prog_33_method_4_code 4 = .ok (.arraylength, 1) := by decide +kernel
theorem d2_5 : decode prog_33_method_4_code 5 = .ok (.if_icmp .ge 15, 3) := by decide +kernel
theorem d2_8 : decode prog_33_method_4_code 8 = .ok (.getstatic 30, 3) := by decide +kernel
theorem d2_11 : decode prog_33_method_4_code 11 = .ok (.iload_n 0, 1) := by decide +kernel
theorem d2_12 : decode prog_33_method_4_code 12 = .ok (.baload, 1) := by decide +kernel
theorem d2_13 : decode prog_33_method_4_code 13 = .ok (.ifCond .eq 7, 3) := by decide +kernel
theorem d2_16 : decode prog_33_method_4_code 16 = .ok (.iconst 1, 1) := by decide +kernel
theorem d2_17 : decode prog_33_method_4_code 17 = .ok (.goto 4, 3) := by decide +kernel
theorem d2_20 : decode prog_33_method_4_code 20 = .ok (.iconst 0, 1) := by decide +kernel
theorem d2_21 : decode prog_33_method_4_code 21 = .ok (.ireturn, 1) := by decide +kernel
theorem pn2 : plainFor (⟨"com/example/tool_port/toolport/http/HttpSyntax", "isTokenChar", "(I)Z"⟩ : MethodName) = true := by first | (apply plainFor_of_name; simp [plainName, overriddenIn]; done) | decide +kernel
def B2 : Bdy := (⟨"com/example/tool_port/toolport/http/HttpSyntax", "isTokenChar", "(I)Z"⟩, prog_33_method_4_code, 1, (some .boolean), ({ frames := 0, cells := 0, slots := 0, locals := 0 } : Room))
set_option maxRecDepth 65536 in
set_option maxHeartbeats 4000000 in
theorem m_token (Z : State) (a0 : Array Value) (hw : ∀ d ∈ tables_1, d.before a0 Z = true) (h0 : Heap) (ds : Mem) (p1 : Int32) (hp : 0 ≤ p1.toInt) (cl : Cell) (tk : Addr) (ST : Sta Z h0 "com/example/tool_port/toolport/http/HttpSyntax" "TOKEN" "[Z" (.ref tk)) (AT : Arr Z h0 tk cl .boolean) (LT : cl.slots.size = 128) (ET : ∀ j : Int32, 0 ≤ j.toInt → j.toInt < 128 → ∃ z : Int32, cl.slots[j.toNatClampNeg]? = some (.int z) ∧ (z.toInt = 1 ∧ ((97 ≤ j.toInt ∧ j.toInt ≤ 122) ∨ (65 ≤ j.toInt ∧ j.toInt ≤ 90) ∨ (48 ≤ j.toInt ∧ j.toInt ≤ 57) ∨ j.toInt = 33 ∨ j.toInt = 35 ∨ j.toInt = 36 ∨ j.toInt = 37 ∨ j.toInt = 38 ∨ j.toInt = 39 ∨ j.toInt = 42 ∨ j.toInt = 43 ∨ j.toInt = 45 ∨ j.toInt = 46 ∨ j.toInt = 94 ∨ j.toInt = 95 ∨ j.toInt = 96 ∨ j.toInt = 124 ∨ j.toInt = 126) ∨ z.toInt = 0 ∧ ¬ ((97 ≤ j.toInt ∧ j.toInt ≤ 122) ∨ (65 ≤ j.toInt ∧ j.toInt ≤ 90) ∨ (48 ≤ j.toInt ∧ j.toInt ≤ 57) ∨ j.toInt = 33 ∨ j.toInt = 35 ∨ j.toInt = 36 ∨ j.toInt = 37 ∨ j.toInt = 38 ∨ j.toInt = 39 ∨ j.toInt = 42 ∨ j.toInt = 43 ∨ j.toInt = 45 ∨ j.toInt = 46 ∨ j.toInt = 94 ∨ j.toInt = 95 ∨ j.toInt = 96 ∨ j.toInt = 124 ∨ j.toInt = 126))) :
    Met B2 Z a0 h0 #[(.int p1)] ds (Qz ((97 ≤ p1.toInt ∧ p1.toInt ≤ 122) ∨ (65 ≤ p1.toInt ∧ p1.toInt ≤ 90) ∨ (48 ≤ p1.toInt ∧ p1.toInt ≤ 57) ∨ p1.toInt = 33 ∨ p1.toInt = 35 ∨ p1.toInt = 36 ∨ p1.toInt = 37 ∨ p1.toInt = 38 ∨ p1.toInt = 39 ∨ p1.toInt = 42 ∨ p1.toInt = 43 ∨ p1.toInt = 45 ∨ p1.toInt = 46 ∨ p1.toInt = 94 ∨ p1.toInt = 95 ∨ p1.toInt = 96 ∨ p1.toInt = 124 ∨ p1.toInt = 126) ds) := by
  refine Met.of pn2 (ls := #[.val (.int p1)]) (fun m => by first | (simp [entryFrame, mkF, argsToLocals, Value.category, B2]; done) | rfl) ?_
  show Go B2 Z a0 h0 _ 0 0 ds 0 #[.val (.int p1)] []
  refine go_iloadN 1 rfl d2_0 rfl ?_
  refine go_getS 4 rfl d2_1 (wd hw 10 rfl) ST ?_
  refine go_alenG (z := (128 : Int32)) 5 rfl d2_4 rfl (fun h M => ⟨cl, AT.ext M.1, by rw [LT]; rfl⟩) ?_
  refine go_icmp 20 8 rfl (by decide) rfl d2_5 rfl (fun (hc : (128 : Int) ≤ p1.toInt) => ?_) (fun (hc : ¬ ((128 : Int) ≤ p1.toInt)) => ?_)
  · refine go_iconst (0 : Int32) 21 rfl d2_20 rfl ?_
    exact go_ireturn d2_21 rfl (Or.inr (Or.inl rfl)) rfl rfl (by decide) (by decide) ⟨_, rfl, rfl, Or.inr ⟨rfl, by omega⟩⟩
  · refine go_getS 11 rfl d2_8 (wd hw 10 rfl) ST ?_
    refine go_iloadN 12 rfl d2_11 rfl ?_
    obtain ⟨z1, g1, hz1⟩ := ET p1 hp (by omega)
    have il : p1.toNatClampNeg < 128 := by simp only [Int32.toNatClampNeg]; omega
    refine go_zaload 13 rfl d2_12 rfl (fun h M => ⟨cl, AT.ext M.1, fun q => q.elim (fun q => by rw [Int32.lt_iff_toInt_lt] at q; have : (0 : Int32).toInt = 0 := rfl; omega) (fun q => by omega), g1⟩) ?_
    refine go_if 20 16 rfl (by decide) rfl d2_13 rfl (fun (hd : z1.toInt = 0) => ?_) (fun (hd : ¬ (z1.toInt = 0)) => ?_)
    · refine go_iconst (0 : Int32) 21 rfl d2_20 rfl ?_
      exact go_ireturn d2_21 rfl (Or.inr (Or.inl rfl)) rfl rfl (by decide) (by decide) ⟨_, rfl, rfl, Or.inr ⟨rfl, by omega⟩⟩
    · refine go_iconst (1 : Int32) 17 rfl d2_16 rfl ?_
      refine go_goto 21 (by decide) rfl d2_17 ?_
      exact go_ireturn d2_21 rfl (Or.inr (Or.inl rfl)) rfl rfl (by decide) (by decide) ⟨_, rfl, rfl, Or.inl ⟨rfl, by omega⟩⟩
theorem d1_0 : decode method_3_code 0 = .ok (.iload_n 0, 1) := by decide +kernel
theorem d1_1 : decode method_3_code 1 = .ok (.invokestatic 7, 3) := by decide +kernel
theorem d1_4 : decode method_3_code 4 = .ok (.iload_n 0, 1) := by decide +kernel
theorem d1_5 : decode method_3_code 5 = .ok (.invokestatic 13, 3) := by decide +kernel
theorem d1_8 : decode method_3_code 8 = .ok (.if_icmp .ne 7, 3) := by decide +kernel
theorem d1_11 : decode method_3_code 11 = .ok (.iconst 1, 1) := by decide +kernel
theorem d1_12 : decode method_3_code 12 = .ok (.goto 4, 3) := by decide +kernel
theorem d1_16 : decode method_3_code 16 = .ok (.ireturn, 1) := by decide +kernel
theorem pn1 : plainFor (⟨"com/example/tool_port/toolport/http/HttpSyntaxIsTokenCharPinLaw", "check", "(I)Z"⟩ : MethodName) = true := by first | (apply plainFor_of_name; simp [plainName, overriddenIn]; done) | decide +kernel
def B1 : Bdy := (⟨"com/example/tool_port/toolport/http/HttpSyntaxIsTokenCharPinLaw", "check", "(I)Z"⟩, method_3_code, 1, (some .boolean), ({ frames := 1, cells := 0, slots := 0, locals := 13 } : Room))
set_option maxRecDepth 65536 in
set_option maxHeartbeats 4000000 in
theorem m_check (Z : State) (a0 : Array Value) (hw : ∀ d ∈ tables_1, d.before a0 Z = true) (h0 : Heap) (ds : Mem) (p1 : Int32) (hp : 0 ≤ p1.toInt) (cl : Cell) (tk : Addr) (ST : Sta Z h0 "com/example/tool_port/toolport/http/HttpSyntax" "TOKEN" "[Z" (.ref tk)) (AT : Arr Z h0 tk cl .boolean) (LT : cl.slots.size = 128) (ET : ∀ j : Int32, 0 ≤ j.toInt → j.toInt < 128 → ∃ z : Int32, cl.slots[j.toNatClampNeg]? = some (.int z) ∧ (z.toInt = 1 ∧ ((97 ≤ j.toInt ∧ j.toInt ≤ 122) ∨ (65 ≤ j.toInt ∧ j.toInt ≤ 90) ∨ (48 ≤ j.toInt ∧ j.toInt ≤ 57) ∨ j.toInt = 33 ∨ j.toInt = 35 ∨ j.toInt = 36 ∨ j.toInt = 37 ∨ j.toInt = 38 ∨ j.toInt = 39 ∨ j.toInt = 42 ∨ j.toInt = 43 ∨ j.toInt = 45 ∨ j.toInt = 46 ∨ j.toInt = 94 ∨ j.toInt = 95 ∨ j.toInt = 96 ∨ j.toInt = 124 ∨ j.toInt = 126) ∨ z.toInt = 0 ∧ ¬ ((97 ≤ j.toInt ∧ j.toInt ≤ 122) ∨ (65 ≤ j.toInt ∧ j.toInt ≤ 90) ∨ (48 ≤ j.toInt ∧ j.toInt ≤ 57) ∨ j.toInt = 33 ∨ j.toInt = 35 ∨ j.toInt = 36 ∨ j.toInt = 37 ∨ j.toInt = 38 ∨ j.toInt = 39 ∨ j.toInt = 42 ∨ j.toInt = 43 ∨ j.toInt = 45 ∨ j.toInt = 46 ∨ j.toInt = 94 ∨ j.toInt = 95 ∨ j.toInt = 96 ∨ j.toInt = 124 ∨ j.toInt = 126))) :
    Met B1 Z a0 h0 #[(.int p1)] ds (Ret (some (.int 1)) ds) := by
  refine Met.of pn1 (ls := #[.val (.int p1)]) (fun m => by first | (simp [entryFrame, mkF, argsToLocals, Value.category, B1]; done) | rfl) ?_
  show Go B1 Z a0 h0 _ 0 0 ds 0 #[.val (.int p1)] []
  refine go_iloadN 1 rfl d1_0 rfl ?_
  refine go_callS 4 rfl d1_1 (wd hw 6 rfl) (wd hw 7 rfl) (wd hw 8 rfl) (wd hw 9 rfl) (by decide) (m_token Z a0 hw h0 ds p1 hp cl tk ST AT LT ET) (argsL := [(.int p1)]) (rest := []) rfl (ps := [.int]) (by decide +kernel) rfl rfl 0 rfl (by decide) (by decide) (by decide) (by decide) ?_
  rintro _ _ ⟨z1, rfl, rfl, hz1⟩
  show Go B1 Z a0 h0 _ 0 0 ds 4 #[.val (.int p1)] [(.int z1)]
  refine go_iloadN 5 rfl d1_4 rfl ?_
  refine go_callS 8 rfl d1_5 (wd hw 12 rfl) (wd hw 13 rfl) (wd hw 4 rfl) (wd hw 14 rfl) (by decide) (m_expected Z a0 hw h0 ds p1) (argsL := [(.int p1)]) (rest := [(.int z1)]) rfl (ps := [.int]) (by decide +kernel) rfl rfl 1 rfl (by decide) (by decide) (by decide) (by decide) ?_
  rintro _ _ ⟨z2, rfl, rfl, hz2⟩
  show Go B1 Z a0 h0 _ 0 0 ds 8 #[.val (.int p1)] [(.int z2), (.int z1)]
  refine go_icmp 15 11 rfl (by decide) rfl d1_8 rfl (fun (hc8 : z1.toInt ≠ z2.toInt) => absurd hc8 (by omega)) (fun (hc8 : ¬ (z1.toInt ≠ z2.toInt)) => ?_)
  refine go_iconst (1 : Int32) 12 rfl d1_11 rfl ?_
  refine go_goto 16 (by decide) rfl d1_12 ?_
  exact go_ireturn d1_16 rfl (Or.inr (Or.inl rfl)) rfl rfl (by decide) (by decide) ⟨rfl, rfl⟩
theorem pn0 : plainFor (⟨"com/example/tool_port/toolport/http/HttpSyntaxIsTokenCharPinLaw", "law", "(III)Z"⟩ : MethodName) = true := by first | (apply plainFor_of_name; simp [plainName, overriddenIn]; done) | decide +kernel
def B0 : Bdy := (x, code, maxLocals, ret, room_1)
set_option maxRecDepth 65536 in
set_option maxHeartbeats 4000000 in
theorem law_met (Z : State) (a0 : Array Value) (hw : ∀ d ∈ tables_1, d.before a0 Z = true) (h0 : Heap) (p1 p2 p3 : Int32) (cl : Cell) (tk : Addr) (ST : Sta Z h0 "com/example/tool_port/toolport/http/HttpSyntax" "TOKEN" "[Z" (.ref tk)) (AT : Arr Z h0 tk cl .boolean) (LT : cl.slots.size = 128) (ET : ∀ j : Int32, 0 ≤ j.toInt → j.toInt < 128 → ∃ z : Int32, cl.slots[j.toNatClampNeg]? = some (.int z) ∧ (z.toInt = 1 ∧ ((97 ≤ j.toInt ∧ j.toInt ≤ 122) ∨ (65 ≤ j.toInt ∧ j.toInt ≤ 90) ∨ (48 ≤ j.toInt ∧ j.toInt ≤ 57) ∨ j.toInt = 33 ∨ j.toInt = 35 ∨ j.toInt = 36 ∨ j.toInt = 37 ∨ j.toInt = 38 ∨ j.toInt = 39 ∨ j.toInt = 42 ∨ j.toInt = 43 ∨ j.toInt = 45 ∨ j.toInt = 46 ∨ j.toInt = 94 ∨ j.toInt = 95 ∨ j.toInt = 96 ∨ j.toInt = 124 ∨ j.toInt = 126) ∨ z.toInt = 0 ∧ ¬ ((97 ≤ j.toInt ∧ j.toInt ≤ 122) ∨ (65 ≤ j.toInt ∧ j.toInt ≤ 90) ∨ (48 ≤ j.toInt ∧ j.toInt ≤ 57) ∨ j.toInt = 33 ∨ j.toInt = 35 ∨ j.toInt = 36 ∨ j.toInt = 37 ∨ j.toInt = 38 ∨ j.toInt = 39 ∨ j.toInt = 42 ∨ j.toInt = 43 ∨ j.toInt = 45 ∨ j.toInt = 46 ∨ j.toInt = 94 ∨ j.toInt = 95 ∨ j.toInt = 96 ∨ j.toInt = 124 ∨ j.toInt = 126))) :
    Met B0 Z a0 h0 #[(.int p1), (.int p2), (.int p3)] [] (fun v _ => v = some (.int 1)) := by
  refine Met.of pn0 (ls := #[.val (.int p1), .val (.int p2), .val (.int p3), .unset, .unset, .unset]) (fun m => by first | (simp [entryFrame, mkF, argsToLocals, Value.category, B0, maxLocals]; done) | rfl) ?_
  show Go B0 Z a0 h0 _ 0 0 [] 0 #[.val (.int p1), .val (.int p2), .val (.int p3), .unset, .unset, .unset] []
  refine go_iloadN 1 rfl at_0 rfl ?_
  refine go_bipush (127 : Int32) 3 rfl at_1 rfl ?_
  refine go_iand 4 rfl at_3 rfl ?_
  refine go_istoreN #[.val (.int p1), .val (.int p2), .val (.int p3), .val (.int (p1 &&& (127 : Int32))), .unset, .unset] 5 rfl at_4 rfl rfl ?_
  refine go_iloadN 6 rfl at_5 rfl ?_
  refine go_ldc (v := (65535 : Int32)) 8 rfl at_6 (wd hw 0 rfl) ?_
  refine go_iand 9 rfl at_8 rfl ?_
  refine go_istore #[.val (.int p1), .val (.int p2), .val (.int p3), .val (.int (p1 &&& (127 : Int32))), .val (.int (p2 &&& (65535 : Int32))), .unset] 11 rfl at_9 rfl rfl ?_
  refine go_iloadN 12 rfl at_11 rfl ?_
  refine go_ldc (v := (2147483647 : Int32)) 14 rfl at_12 (wd hw 1 rfl) ?_
  refine go_iand 15 rfl at_14 rfl ?_
  refine go_istore #[.val (.int p1), .val (.int p2), .val (.int p3), .val (.int (p1 &&& (127 : Int32))), .val (.int (p2 &&& (65535 : Int32))), .val (.int (p3 &&& (2147483647 : Int32)))] 17 rfl at_15 rfl rfl ?_
  refine go_iloadN 18 rfl at_17 rfl ?_
  refine go_callS 21 rfl at_18 (wd hw 2 rfl) (wd hw 3 rfl) (wd hw 4 rfl) (wd hw 5 rfl) (by decide) (m_check Z a0 hw h0 [] (p1 &&& (127 : Int32)) (c_and p1 (127 : Int32) (by decide)).1 cl tk ST AT LT ET) (argsL := [(.int (p1 &&& (127 : Int32)))]) (rest := []) rfl (ps := [.int]) (by decide +kernel) rfl rfl 0 rfl (by decide) (by decide) (by decide) (by decide) ?_
  rintro _ _ ⟨rfl, rfl⟩
  show Go B0 Z a0 h0 _ 0 0 [] 21 #[.val (.int p1), .val (.int p2), .val (.int p3), .val (.int (p1 &&& (127 : Int32))), .val (.int (p2 &&& (65535 : Int32))), .val (.int (p3 &&& (2147483647 : Int32)))] [(.int (1 : Int32))]
  refine go_if 44 24 rfl (by decide) rfl at_21 rfl (fun (hc21 : (1 : Int) = 0) => absurd hc21 (by decide)) (fun (hc21 : ¬ ((1 : Int) = 0)) => ?_)
  refine go_iload 26 rfl at_24 rfl ?_
  refine go_callS 29 rfl at_26 (wd hw 2 rfl) (wd hw 3 rfl) (wd hw 4 rfl) (wd hw 5 rfl) (by decide) (m_check Z a0 hw h0 [] (p2 &&& (65535 : Int32)) (c_and p2 (65535 : Int32) (by decide)).1 cl tk ST AT LT ET) (argsL := [(.int (p2 &&& (65535 : Int32)))]) (rest := []) rfl (ps := [.int]) (by decide +kernel) rfl rfl 0 rfl (by decide) (by decide) (by decide) (by decide) ?_
  rintro _ _ ⟨rfl, rfl⟩
  show Go B0 Z a0 h0 _ 0 0 [] 29 #[.val (.int p1), .val (.int p2), .val (.int p3), .val (.int (p1 &&& (127 : Int32))), .val (.int (p2 &&& (65535 : Int32))), .val (.int (p3 &&& (2147483647 : Int32)))] [(.int (1 : Int32))]
  refine go_if 44 32 rfl (by decide) rfl at_29 rfl (fun (hc29 : (1 : Int) = 0) => absurd hc29 (by decide)) (fun (hc29 : ¬ ((1 : Int) = 0)) => ?_)
  refine go_iload 34 rfl at_32 rfl ?_
  refine go_callS 37 rfl at_34 (wd hw 2 rfl) (wd hw 3 rfl) (wd hw 4 rfl) (wd hw 5 rfl) (by decide) (m_check Z a0 hw h0 [] (p3 &&& (2147483647 : Int32)) (c_and p3 (2147483647 : Int32) (by decide)).1 cl tk ST AT LT ET) (argsL := [(.int (p3 &&& (2147483647 : Int32)))]) (rest := []) rfl (ps := [.int]) (by decide +kernel) rfl rfl 0 rfl (by decide) (by decide) (by decide) (by decide) ?_
  rintro _ _ ⟨rfl, rfl⟩
  show Go B0 Z a0 h0 _ 0 0 [] 37 #[.val (.int p1), .val (.int p2), .val (.int p3), .val (.int (p1 &&& (127 : Int32))), .val (.int (p2 &&& (65535 : Int32))), .val (.int (p3 &&& (2147483647 : Int32)))] [(.int (1 : Int32))]
  refine go_if 44 40 rfl (by decide) rfl at_37 rfl (fun (hc37 : (1 : Int) = 0) => absurd hc37 (by decide)) (fun (hc37 : ¬ ((1 : Int) = 0)) => ?_)
  refine go_iconst (1 : Int32) 41 rfl at_40 rfl ?_
  refine go_goto 45 (by decide) rfl at_41 ?_
  exact go_ireturn at_45 rfl (Or.inr (Or.inl rfl)) rfl rfl (by decide) (by decide) rfl
set_option maxRecDepth 65536 in
set_option maxHeartbeats 4000000 in
theorem comes_1 {Post : Tables → Env → Array Value → State → Outcome → State → Prop} (hpost : ∀ tb e args s v u, (limb_1_1.after args s (.returned v) u = true ∧ limb_1_2.after args s (.returned v) u = true ∧ True) → FrameEnd s (.returned v) u (Jvm.fieldLocs frame_1_writes args s ++ Jvm.arrayLocs frame_1_arrays args s ++ Jvm.staticLocs frame_1_statics s) 0 0 → Post tb e args s (.returned v) u) :
    ArmFor flags0 classFile x code maxLocals ret World_1 tables_1 room_1 Calls_1 rest_1 Pre_1 Post := by
  intro l hfl _ _ p e ha hc hk s m args below hf hA hF happ hP
  obtain ⟨hcalls, hrest, hpre⟩ := hP
  obtain ⟨-, -, -, hnamed, -, -, -, hat⟩ := (Spec.applies_iff hf).mp happ
  obtain ⟨hg, hn⟩ := and_e (Cond.before_iff.mp (show (Jvm.Cond.and given_1 narrow_1).before args s = true from hpre))
  obtain ⟨g0, r0⟩ := and_e hg
  obtain ⟨g1, r1⟩ := and_e r0
  obtain ⟨g2, r2⟩ := and_e r1
  obtain ⟨w0, w1, w2, rfl⟩ : ∃ w0 w1 w2 : Value, args = #[w0, w1, w2] := by
    have hs : args.size = 3 := by simpa [Cond.value, given_1] using g0
    obtain ⟨L⟩ := args
    match L, hs with
    | [w0, w1, w2], _ => exact ⟨w0, w1, w2, rfl⟩
  have hw := fun d (hd : d ∈ tables_1) => atoms_spec (ws := Jvm.Cond.code x code maxLocals ret :: tables_1) hat d (List.mem_cons_of_mem _ hd)
  have hfit : Fit s := fun {y c} hc i hi => by
    obtain ⟨ha, rfl⟩ := Array.getElem?_eq_some_iff.mp hc
    have q := List.all_eq_true.mp ((Array.all_eq_true_iff_forall_mem.mp hF) _ (Array.getElem_mem ha)) i (List.mem_range.mpr hi)
    simpa [Array.getElem?_eq_getElem hi] using q
  obtain ⟨i0, e0⟩ := is_v g1
  obtain rfl : w0 = (.int i0) := Option.some.inj e0
  obtain ⟨i1, e1⟩ := is_v g2
  obtain rfl : w1 = (.int i1) := Option.some.inj e1
  obtain ⟨i2, e2⟩ := is_v r2
  obtain rfl : w2 = (.int i2) := Option.some.inj e2
  obtain ⟨n0, t0⟩ := and_e hn
  obtain ⟨n1, t1⟩ := and_e t0
  obtain ⟨n2, t2⟩ := and_e t1
  obtain ⟨n3, t3⟩ := and_e t2
  obtain ⟨n4, t4⟩ := and_e t3
  obtain ⟨n5, t5⟩ := and_e t4
  obtain ⟨n6, t6⟩ := and_e t5
  obtain ⟨n7, t7⟩ := and_e t6
  obtain ⟨n8, t8⟩ := and_e t7
  obtain ⟨n9, t9⟩ := and_e t8
  obtain ⟨n10, t10⟩ := and_e t9
  obtain ⟨n11, t11⟩ := and_e t10
  obtain ⟨n12, t12⟩ := and_e t11
  obtain ⟨n13, t13⟩ := and_e t12
  obtain ⟨n14, t14⟩ := and_e t13
  obtain ⟨n15, t15⟩ := and_e t14
  obtain ⟨n16, t16⟩ := and_e t15
  obtain ⟨n17, t17⟩ := and_e t16
  obtain ⟨n18, t18⟩ := and_e t17
  obtain ⟨n19, t19⟩ := and_e t18
  obtain ⟨n20, t20⟩ := and_e t19
  obtain ⟨n21, t21⟩ := and_e t20
  obtain ⟨n22, t22⟩ := and_e t21
  obtain ⟨n23, t23⟩ := and_e t22
  obtain ⟨n24, t24⟩ := and_e t23
  have n25 := t24
  obtain ⟨tk, ev⟩ := arr_v n0
  obtain ⟨cl, AT⟩ := Arr.start ev n0
  have ST := Sta.start ev (Or.inr ⟨(wd hw 8 rfl), (wd hw 11 rfl)⟩)
  have hatx := AT.fin (Vm.Alike.refl _)
  have evi : ∀ idx, (Jvm.Term.static "com/example/tool_port/toolport/http/HttpSyntax" "TOKEN" "[Z").eval #[(.int i0), (.int i1), (.int i2)] s none idx s = some (.ref tk) := fun idx => ev
  have LT : cl.slots.size = 128 := (len_ix ev hatx (by decide) n1).1
  have f2 : ∀ i : Nat, i < 33 → cl.slots[i]? = some (.int 0) := fun i hi => eq_ix evi hatx (by omega) (or_ix (Cond.all_elim ev hatx n2 i (by omega)) le_ix (by rw [Int32.le_iff_toInt_le, len_toInt (by omega)]; have : (33 : Int32).toInt = 33 := rfl; omega))
  have f3 : cl.slots[33]? = some (.int 1) := one_ix ev AT.1 rfl n3
  have f4 : cl.slots[34]? = some (.int 0) := one_ix ev AT.1 rfl n4
  have f5 : ∀ i : Nat, 35 ≤ i → i < 40 → cl.slots[i]? = some (.int 1) := fun i lo hi => eq_ix evi hatx (by omega) (or_ix (or_ix (Cond.all_elim ev hatx n5 i (by omega)) lt_ix (by rw [Int32.lt_iff_toInt_lt, len_toInt (by omega)]; have : (35 : Int32).toInt = 35 := rfl; omega)) le_ix (by rw [Int32.le_iff_toInt_le, len_toInt (by omega)]; have : (40 : Int32).toInt = 40 := rfl; omega))
  have f6 : cl.slots[40]? = some (.int 0) := one_ix ev AT.1 rfl n6
  have f7 : cl.slots[41]? = some (.int 0) := one_ix ev AT.1 rfl n7
  have f8 : cl.slots[42]? = some (.int 1) := one_ix ev AT.1 rfl n8
  have f9 : cl.slots[43]? = some (.int 1) := one_ix ev AT.1 rfl n9
  have f10 : cl.slots[44]? = some (.int 0) := one_ix ev AT.1 rfl n10
  have f11 : cl.slots[45]? = some (.int 1) := one_ix ev AT.1 rfl n11
  have f12 : cl.slots[46]? = some (.int 1) := one_ix ev AT.1 rfl n12
  have f13 : cl.slots[47]? = some (.int 0) := one_ix ev AT.1 rfl n13
  have f14 : ∀ i : Nat, 48 ≤ i → i < 58 → cl.slots[i]? = some (.int 1) := fun i lo hi => eq_ix evi hatx (by omega) (or_ix (or_ix (Cond.all_elim ev hatx n14 i (by omega)) lt_ix (by rw [Int32.lt_iff_toInt_lt, len_toInt (by omega)]; have : (48 : Int32).toInt = 48 := rfl; omega)) le_ix (by rw [Int32.le_iff_toInt_le, len_toInt (by omega)]; have : (58 : Int32).toInt = 58 := rfl; omega))
  have f15 : ∀ i : Nat, 58 ≤ i → i < 65 → cl.slots[i]? = some (.int 0) := fun i lo hi => eq_ix evi hatx (by omega) (or_ix (or_ix (Cond.all_elim ev hatx n15 i (by omega)) lt_ix (by rw [Int32.lt_iff_toInt_lt, len_toInt (by omega)]; have : (58 : Int32).toInt = 58 := rfl; omega)) le_ix (by rw [Int32.le_iff_toInt_le, len_toInt (by omega)]; have : (65 : Int32).toInt = 65 := rfl; omega))
  have f16 : ∀ i : Nat, 65 ≤ i → i < 91 → cl.slots[i]? = some (.int 1) := fun i lo hi => eq_ix evi hatx (by omega) (or_ix (or_ix (Cond.all_elim ev hatx n16 i (by omega)) lt_ix (by rw [Int32.lt_iff_toInt_lt, len_toInt (by omega)]; have : (65 : Int32).toInt = 65 := rfl; omega)) le_ix (by rw [Int32.le_iff_toInt_le, len_toInt (by omega)]; have : (91 : Int32).toInt = 91 := rfl; omega))
  have f17 : cl.slots[91]? = some (.int 0) := one_ix ev AT.1 rfl n17
  have f18 : cl.slots[92]? = some (.int 0) := one_ix ev AT.1 rfl n18
  have f19 : cl.slots[93]? = some (.int 0) := one_ix ev AT.1 rfl n19
  have f20 : ∀ i : Nat, 94 ≤ i → i < 123 → cl.slots[i]? = some (.int 1) := fun i lo hi => eq_ix evi hatx (by omega) (or_ix (or_ix (Cond.all_elim ev hatx n20 i (by omega)) lt_ix (by rw [Int32.lt_iff_toInt_lt, len_toInt (by omega)]; have : (94 : Int32).toInt = 94 := rfl; omega)) le_ix (by rw [Int32.le_iff_toInt_le, len_toInt (by omega)]; have : (123 : Int32).toInt = 123 := rfl; omega))
  have f21 : cl.slots[123]? = some (.int 0) := one_ix ev AT.1 rfl n21
  have f22 : cl.slots[124]? = some (.int 1) := one_ix ev AT.1 rfl n22
  have f23 : cl.slots[125]? = some (.int 0) := one_ix ev AT.1 rfl n23
  have f24 : cl.slots[126]? = some (.int 1) := one_ix ev AT.1 rfl n24
  have f25 : cl.slots[127]? = some (.int 0) := one_ix ev AT.1 rfl n25
  have ET : ∀ j : Int32, 0 ≤ j.toInt → j.toInt < 128 → ∃ z : Int32, cl.slots[j.toNatClampNeg]? = some (.int z) ∧ (z.toInt = 1 ∧ ((97 ≤ j.toInt ∧ j.toInt ≤ 122) ∨ (65 ≤ j.toInt ∧ j.toInt ≤ 90) ∨ (48 ≤ j.toInt ∧ j.toInt ≤ 57) ∨ j.toInt = 33 ∨ j.toInt = 35 ∨ j.toInt = 36 ∨ j.toInt = 37 ∨ j.toInt = 38 ∨ j.toInt = 39 ∨ j.toInt = 42 ∨ j.toInt = 43 ∨ j.toInt = 45 ∨ j.toInt = 46 ∨ j.toInt = 94 ∨ j.toInt = 95 ∨ j.toInt = 96 ∨ j.toInt = 124 ∨ j.toInt = 126) ∨ z.toInt = 0 ∧ ¬ ((97 ≤ j.toInt ∧ j.toInt ≤ 122) ∨ (65 ≤ j.toInt ∧ j.toInt ≤ 90) ∨ (48 ≤ j.toInt ∧ j.toInt ≤ 57) ∨ j.toInt = 33 ∨ j.toInt = 35 ∨ j.toInt = 36 ∨ j.toInt = 37 ∨ j.toInt = 38 ∨ j.toInt = 39 ∨ j.toInt = 42 ∨ j.toInt = 43 ∨ j.toInt = 45 ∨ j.toInt = 46 ∨ j.toInt = 94 ∨ j.toInt = 95 ∨ j.toInt = 96 ∨ j.toInt = 124 ∨ j.toInt = 126)) := by
    intro j j0 j1
    obtain ⟨i, hi⟩ : ∃ i, j.toNatClampNeg = i := ⟨_, rfl⟩
    have hj : j.toInt = (i : Int) := by rw [← hi]; simp only [Int32.toNatClampNeg]; omega
    rw [hi, hj]
    have hc : (0 ≤ i ∧ i < 33) ∨ i = 33 ∨ i = 34 ∨ (35 ≤ i ∧ i < 40) ∨ i = 40 ∨ i = 41 ∨ i = 42 ∨ i = 43 ∨ i = 44 ∨ i = 45 ∨ i = 46 ∨ i = 47 ∨ (48 ≤ i ∧ i < 58) ∨ (58 ≤ i ∧ i < 65) ∨ (65 ≤ i ∧ i < 91) ∨ i = 91 ∨ i = 92 ∨ i = 93 ∨ (94 ≤ i ∧ i < 123) ∨ i = 123 ∨ i = 124 ∨ i = 125 ∨ i = 126 ∨ i = 127 := by omega
    rcases hc with q | rfl | rfl | q | rfl | rfl | rfl | rfl | rfl | rfl | rfl | rfl | q | q | q | rfl | rfl | rfl | q | rfl | rfl | rfl | rfl | rfl
    · exact ⟨0, (f2 i q.2), Or.inr ⟨rfl, by omega⟩⟩
    · exact ⟨1, f3, Or.inl ⟨rfl, by omega⟩⟩
    · exact ⟨0, f4, Or.inr ⟨rfl, by omega⟩⟩
    · exact ⟨1, (f5 i q.1 q.2), Or.inl ⟨rfl, by omega⟩⟩
    · exact ⟨0, f6, Or.inr ⟨rfl, by omega⟩⟩
    · exact ⟨0, f7, Or.inr ⟨rfl, by omega⟩⟩
    · exact ⟨1, f8, Or.inl ⟨rfl, by omega⟩⟩
    · exact ⟨1, f9, Or.inl ⟨rfl, by omega⟩⟩
    · exact ⟨0, f10, Or.inr ⟨rfl, by omega⟩⟩
    · exact ⟨1, f11, Or.inl ⟨rfl, by omega⟩⟩
    · exact ⟨1, f12, Or.inl ⟨rfl, by omega⟩⟩
    · exact ⟨0, f13, Or.inr ⟨rfl, by omega⟩⟩
    · exact ⟨1, (f14 i q.1 q.2), Or.inl ⟨rfl, by omega⟩⟩
    · exact ⟨0, (f15 i q.1 q.2), Or.inr ⟨rfl, by omega⟩⟩
    · exact ⟨1, (f16 i q.1 q.2), Or.inl ⟨rfl, by omega⟩⟩
    · exact ⟨0, f17, Or.inr ⟨rfl, by omega⟩⟩
    · exact ⟨0, f18, Or.inr ⟨rfl, by omega⟩⟩
    · exact ⟨0, f19, Or.inr ⟨rfl, by omega⟩⟩
    · exact ⟨1, (f20 i q.1 q.2), Or.inl ⟨rfl, by omega⟩⟩
    · exact ⟨0, f21, Or.inr ⟨rfl, by omega⟩⟩
    · exact ⟨1, f22, Or.inl ⟨rfl, by omega⟩⟩
    · exact ⟨0, f23, Or.inr ⟨rfl, by omega⟩⟩
    · exact ⟨1, f24, Or.inl ⟨rfl, by omega⟩⟩
    · exact ⟨0, f25, Or.inr ⟨rfl, by omega⟩⟩
  obtain ⟨n, o, q1, q2, q3, v, L, rfl, ⟨N, ds', M', -, rfl⟩, hq⟩ := law_met s _ hw s.heap i0 i1 i2 cl tk ST AT LT ET l tables_1 s.heap (Mo.start s _ s.heap) p e ha hc hk s m _ below hf ((Spec.applies_iff_loose hf).mp happ).1 ⟨rfl, State.Warmed39.refl s, rfl⟩ trivial
  refine ⟨n, _, q1, q2, q3, hpost _ _ _ _ _ _ ⟨Cond.after_iff.mpr rfl, Cond.after_iff.mpr (eq_i res_at (Term.int_eval (1)) rfl), trivial⟩ ⟨hq.1, hq.2.1, (hq.2.2.sift fun y hy => Or.inr (N y hy)).mono (by decide) (by decide)⟩⟩
theorem main_1_1 : Claimed_1_1 := comes_1 fun _ _ _ _ _ _ h hF => ⟨h.1, hF⟩
theorem main_1_2 : Claimed_1_2 := comes_1 fun _ _ _ _ _ _ h hF => ⟨h.2.1, hF⟩

end Jvm.Pilot.@@N@@
namespace Jvm.Pilot.@@N@@
open Jvm Jvm.ClassFile Sem Op Lib Jvm.Free Jvm.Stand Jvm.Pilot.@@N@@.Jvm.D
/-! MADE BY PROGRAM (witnessworld.py) out of the Statement's table words and the real class files: 11 classes; the members and pool entries that the words name. The judged class is class 1, her method 3. -/
namespace start1
open Jvm.ClassFile
def u (s : String) : CpInfo := .utf8 (stringToUtf16 s)
/-- a pool by its gaps: so many unusable entries, then the entry; so many at the end -/
def gap : Nat → List CpInfo → List CpInfo
  | 0, r => r
  | n + 1, r => .unusable :: gap n r
def poolList (es : List (Nat × CpInfo)) (last : Nat) : List CpInfo := es.foldr (fun e r => gap e.1 (e.2 :: r)) (gap last [])
def pool (es : List (Nat × CpInfo)) (last : Nat) : Array CpInfo := ⟨poolList es last⟩
def fileOf (pool : Array CpInfo) (this : Nat) (attrs : Array Attribute := #[]) (ms : Array MethodInfo := #[]) (fl : Nat := 33) (sup : Nat := 0) (ifs : Array Nat := #[]) (fds : Array FieldInfo := #[]) : ClassFile where
  minorVersion := 0
  majorVersion := 65
  constantPool := pool
  accessFlags := fl
  thisClass := this
  superClass := sup
  interfaces := ifs
  fields := fds
  methods := ms
  attributes := attrs
def plain (name : String) (sup : Option ClassId) : Class where
  name := name
  kind := .ordinary
  loader := none
  accessFlags := 33
  super := sup
  interfaces := #[]
  cf := none
  fields := #[]
  methods := #[]
  instanceTypes := #[]
  staticTypes := #[]
  resolved := #[]
  callSites := []
  init := .initialized
  statics := none
  mirror := none

def pool0 : Array CpInfo := pool [(5, u "<init>"), (0, u "()V"), (1, .class_ 10), (1, u "java/lang/Object")] 113

def k0m0 : Method := { name := "<init>", desc := "()V", sig := { parameters := [], returnType := none }, accessFlags := 1, code := none }
/-- java/lang/Object -/
def k0 : Class := { plain "java/lang/Object" none with
  accessFlags := 33
  interfaces := #[]
  cf := some (fileOf pool0 8 #[] #[{ accessFlags := 1, nameIndex := 5, descriptorIndex := 6, attributes := #[] }] 33 0 #[] #[])
  fields := #[]
  methods := #[k0m0]
  instanceTypes := #[]
  staticTypes := #[]
  resolved := Array.replicate 124 none
  statics := none }

def pool1 : Array CpInfo := pool [(2, .class_ 4), (1, u "java/lang/Object"), (0, u "<init>"), (0, u "()V"), (0, .methodref 8 9), (0, .class_ 10), (0, .nameAndType 11 12), (0, u "com/example/tool_port/toolport/http/HttpSyntax"), (0, u "isTokenChar"), (0, u "(I)Z"), (0, .methodref 14 15), (0, .class_ 16), (0, .nameAndType 17 12), (0, u "com/example/tool_port/toolport/http/HttpSyntaxIsTokenCharPinLaw"), (0, u "expected"), (0, .integer 65535), (0, .integer 2147483647), (0, .methodref 14 21), (0, .nameAndType 22 12), (0, u "check"), (3, u "law"), (0, u "(III)Z")] 2

def k1m0 : Method := { name := "<init>", desc := "()V", sig := { parameters := [], returnType := none }, accessFlags := 2, code := none }
def k1c1 : Code := { maxStack := 2, maxLocals := 1, code := method_2_code, exceptionTable := #[], attributes := #[] }
def k1m1 : Method := { name := "expected", desc := "(I)Z", sig := { parameters := [.int], returnType := some .boolean }, accessFlags := 10, code := some k1c1 }
def k1c2 : Code := { maxStack := 2, maxLocals := 1, code := method_3_code, exceptionTable := #[], attributes := #[] }
def k1m2 : Method := { name := "check", desc := "(I)Z", sig := { parameters := [.int], returnType := some .boolean }, accessFlags := 10, code := some k1c2 }
def k1c3 : Code := { maxStack := 2, maxLocals := 6, code := code, exceptionTable := #[], attributes := #[] }
def k1m3 : Method := { name := "law", desc := "(III)Z", sig := { parameters := [.int, .int, .int], returnType := some .boolean }, accessFlags := 9, code := some k1c3 }
/-- com/example/tool_port/toolport/http/HttpSyntaxIsTokenCharPinLaw -/
def k1 : Class := { plain "com/example/tool_port/toolport/http/HttpSyntaxIsTokenCharPinLaw" (some 0) with
  accessFlags := 49
  interfaces := #[]
  cf := some (fileOf pool1 14 #[] #[{ accessFlags := 2, nameIndex := 5, descriptorIndex := 6, attributes := #[] }, { accessFlags := 10, nameIndex := 17, descriptorIndex := 12, attributes := #[] }, { accessFlags := 10, nameIndex := 22, descriptorIndex := 12, attributes := #[] }, { accessFlags := 9, nameIndex := 26, descriptorIndex := 27, attributes := #[] }] 49 2 #[] #[])
  fields := #[]
  methods := #[k1m0, k1m1, k1m2, k1m3]
  instanceTypes := #[]
  staticTypes := #[]
  resolved := Array.replicate 30 none
  statics := none }

def pool2 : Array CpInfo := pool [(2, .class_ 4), (1, u "java/lang/Object"), (0, u "<init>"), (0, u "()V"), (15, .class_ 24), (1, u "com/example/tool_port/toolport/http/HttpSyntax"), (0, u "isTokenChar"), (0, u "(I)Z"), (3, .fieldref 22 31), (0, .nameAndType 32 33), (0, u "TOKEN"), (0, u "[Z"), (12, u "TOKEN_SYMBOLS"), (0, u "Ljava/lang/String;")] 12

def k2m0 : Method := { name := "<init>", desc := "()V", sig := { parameters := [], returnType := none }, accessFlags := 2, code := none }
def k2c1 : Code := { maxStack := 2, maxLocals := 1, code := prog_33_method_4_code, exceptionTable := #[], attributes := #[] }
def k2m1 : Method := { name := "isTokenChar", desc := "(I)Z", sig := { parameters := [.int], returnType := some .boolean }, accessFlags := 8, code := some k2c1 }
/-- com/example/tool_port/toolport/http/HttpSyntax -/
def k2 : Class := { plain "com/example/tool_port/toolport/http/HttpSyntax" (some 0) with
  accessFlags := 49
  interfaces := #[]
  cf := some (fileOf pool2 22 #[] #[{ accessFlags := 2, nameIndex := 5, descriptorIndex := 6, attributes := #[] }, { accessFlags := 8, nameIndex := 25, descriptorIndex := 26, attributes := #[] }] 49 2 #[] #[{ accessFlags := 26, nameIndex := 46, descriptorIndex := 47, attributes := #[] }, { accessFlags := 26, nameIndex := 32, descriptorIndex := 33, attributes := #[] }])
  fields := #[{ name := "TOKEN_SYMBOLS", type := (.object "java/lang/String"), accessFlags := 26, slot := 0, constantValue := 0 }, { name := "TOKEN", type := (.array .boolean), accessFlags := 26, slot := 1, constantValue := 0 }]
  methods := #[k2m0, k2m1]
  instanceTypes := #[]
  staticTypes := #[(.object "java/lang/String"), (.array .boolean)]
  resolved := Array.replicate 60 none
  statics := some 0 }

def pool3 : Array CpInfo := pool [(1, u "java/lang/Cloneable"), (0, .class_ 1), (0, u "java/lang/Object"), (0, .class_ 3)] 3

/-- java/lang/Cloneable -/
def k3 : Class := { plain "java/lang/Cloneable" (some 0) with
  accessFlags := 1537
  interfaces := #[]
  cf := some (fileOf pool3 2 #[] #[] 1537 4 #[] #[])
  fields := #[]
  methods := #[]
  instanceTypes := #[]
  staticTypes := #[]
  resolved := Array.replicate 8 none
  statics := none }

def pool4 : Array CpInfo := pool [(1, u "java/io/Serializable"), (0, .class_ 1), (0, u "java/lang/Object"), (0, .class_ 3)] 3

/-- java/io/Serializable -/
def k4 : Class := { plain "java/io/Serializable" (some 0) with
  accessFlags := 1537
  interfaces := #[]
  cf := some (fileOf pool4 2 #[] #[] 1537 4 #[] #[])
  fields := #[]
  methods := #[]
  instanceTypes := #[]
  staticTypes := #[]
  resolved := Array.replicate 8 none
  statics := none }

/-- the primitive boolean -/
def k5 : Class := { plain "boolean" none with kind := .primitive 'Z', accessFlags := 0x411 }
/-- [Z -/
def k6 : Class := { plain "[Z" (some 0) with kind := .array 5 .boolean, interfaces := #[3, 4], accessFlags := 1041 }

/-- the primitive byte -/
def k7 : Class := { plain "byte" none with kind := .primitive 'B', accessFlags := 0x411 }
/-- [B -/
def k8 : Class := { plain "[B" (some 0) with kind := .array 7 .byte, interfaces := #[3, 4], accessFlags := 1041 }

/-- the primitive int -/
def k9 : Class := { plain "int" none with kind := .primitive 'I', accessFlags := 0x411 }
/-- [I -/
def k10 : Class := { plain "[I" (some 0) with kind := .array 9 .int, interfaces := #[3, 4], accessFlags := 1041 }

def heap : Heap := #[{ cls := 2, slots := #[.null, .ref 1], vm := .statics 2 },
  { cls := 6, slots := #[.int 0, .int 0, .int 0, .int 0, .int 0, .int 0, .int 0, .int 0, .int 0, .int 0, .int 0, .int 0, .int 0, .int 0, .int 0, .int 0, .int 0, .int 0, .int 0, .int 0, .int 0, .int 0, .int 0, .int 0, .int 0, .int 0, .int 0, .int 0, .int 0, .int 0, .int 0, .int 0, .int 0, .int 1, .int 0, .int 1, .int 1, .int 1, .int 1, .int 1, .int 0, .int 0, .int 1, .int 1, .int 0, .int 1, .int 1, .int 0, .int 1, .int 1, .int 1, .int 1, .int 1, .int 1, .int 1, .int 1, .int 1, .int 1, .int 0, .int 0, .int 0, .int 0, .int 0, .int 0, .int 0, .int 1, .int 1, .int 1, .int 1, .int 1, .int 1, .int 1, .int 1, .int 1, .int 1, .int 1, .int 1, .int 1, .int 1, .int 1, .int 1, .int 1, .int 1, .int 1, .int 1, .int 1, .int 1, .int 1, .int 1, .int 1, .int 1, .int 0, .int 0, .int 0, .int 1, .int 1, .int 1, .int 1, .int 1, .int 1, .int 1, .int 1, .int 1, .int 1, .int 1, .int 1, .int 1, .int 1, .int 1, .int 1, .int 1, .int 1, .int 1, .int 1, .int 1, .int 1, .int 1, .int 1, .int 1, .int 1, .int 1, .int 1, .int 1, .int 0, .int 1, .int 0, .int 1, .int 0], vm := .none }]
def classes : Array Class := #[k0, k1, k2, k3, k4, k5, k6, k7, k8, k9, k10]
def interned : List (Array UInt16 × Addr) := []
def slotsUsed : Nat := 130
def theMethod : MethodId := ⟨1, 3⟩
def args0 : Array Value := #[.int 2, .int 33, .int 300]
def aboutOver (below : List Frame) : State where
  vm := { classes := classes, interned := interned.toArray }
  heap := heap
  slotsUsed := slotsUsed
  threads := #[{ frames := .invoking theMethod args0 :: below }]
def below0 : List Frame := [.native { method := ⟨0, 0⟩, args := #[] }]
def about1 : State := aboutOver below0
def p0 : Program := .bare "" "" ""
def e0 : Env := launch0.env 0 0 0
theorem w_frames : about1.frames = Frame.invoking theMethod args0 :: below0 := rfl
set_option maxRecDepth 65536 in
theorem w_args : argsFit about1.vm theMethod args0 = true := by decide +kernel
set_option maxRecDepth 65536 in
theorem w_heap : heapFits about1 = true := by decide +kernel
set_option maxRecDepth 65536 in
theorem w_runnable : about1.curStatus? = some .runnable := by decide +kernel
set_option maxRecDepth 65536 in
theorem w_alone : about1.alone = true := by decide +kernel
set_option maxRecDepth 65536 in
theorem w_named : about1.methodNamed? x = some theMethod := by decide +kernel
set_option maxRecDepth 65536 in
theorem w_hears : about1.hears theMethod below0 = true := by decide +kernel
set_option maxRecDepth 65536 in
theorem w_ripe : about1.ripe theMethod args0 below0 = true := by decide +kernel
theorem w_running : about1.status = .running := rfl
set_option maxRecDepth 65536 in
theorem w_room : about1.hasRoom e0.platform room_1 = true :=
  launch0.hasRoom_least _ room_1 (by decide +kernel) (by decide +kernel) (by decide +kernel) (by decide +kernel) (by decide +kernel) (by decide +kernel)
theorem allAtoms_all (ts : List Jvm.Cond) (a : Array Jvm.Value) (st : Jvm.State) : (allAtoms ts).before a st = ts.all (fun c => c.before a st) := by
  induction ts with
  | nil => rfl
  | cons c t ih =>
    show (Jvm.Cond.and c (allAtoms t)).before a st = _
    rw [Jvm.Cond.before_and, ih, List.all_cons]
def words1 : List Jvm.Cond := Jvm.Cond.code x code maxLocals ret :: tables_1
/-- a 'code' word, met by the world's own term for the bytes: nothing is compared byte by byte -/
theorem code_word {y : MethodName} {bytes : ByteArray} {mx : Nat} {rt : Option FieldType} {a : Array Value} {s : State} {m : MethodId} {meth : Method} {c : Code} (h1 : s.methodNamed? y = some m) (h2 : s.vm.method? m = some meth) (h3 : meth.code = some c) (h4 : c.code = bytes)
    (h5 : (c.maxLocals == mx && c.exceptionTable.isEmpty && decide (c.maxStack ≤ mostOperands) && decide (meth.sig.returnType = rt) && !meth.locks && decide (parseMethodDescriptor y.desc = some meth.sig)) = true) : (Jvm.Cond.code y bytes mx rt).before a s = true := by
  simp only [Bool.and_eq_true, beq_iff_eq, Bool.not_eq_true', decide_eq_true_eq] at h5
  obtain ⟨⟨⟨⟨⟨g1, g2⟩, g3⟩, g4⟩, g5⟩, g6⟩ := h5
  simp [Cond.before, Cond.holds, Cond.value, h1, h2, h3, h4, g1, g2, g3, g4, g5, g6]
def isCode : Jvm.Cond → Bool
  | .code _ _ _ _ => true
  | _ => false
theorem all_split {L : List Jvm.Cond} {P : Jvm.Cond → Bool} (h1 : L.all (fun c => isCode c || P c) = true) (h2 : ∀ c ∈ L.filter isCode, P c = true) : L.all P = true := by
  refine List.all_eq_true.mpr fun c hc => ?_
  have h := List.all_eq_true.mp h1 c hc
  rcases Bool.eq_false_or_eq_true (isCode c) with hi | hi
  · exact h2 c (List.mem_filter.mpr ⟨hc, hi⟩)
  · simpa [hi] using h
set_option maxRecDepth 65536 in
theorem w_c0 : (Jvm.Cond.code x code maxLocals ret).before args0 about1 = true := code_word (m := ⟨1, 3⟩) (meth := k1m3) (c := k1c3) (by decide +kernel) rfl rfl rfl (by decide +kernel)
set_option maxRecDepth 65536 in
theorem w_c1 : (Jvm.Cond.code ({ cls := "com/example/tool_port/toolport/http/HttpSyntaxIsTokenCharPinLaw", name := "check", desc := "(I)Z" } : Jvm.MethodName) method_3_code (1 : Nat) (Option.some Jvm.ClassFile.FieldType.boolean)).before args0 about1 = true := code_word (m := ⟨1, 2⟩) (meth := k1m2) (c := k1c2) (by decide +kernel) rfl rfl rfl (by decide +kernel)
set_option maxRecDepth 65536 in
theorem w_c2 : (Jvm.Cond.code ({ cls := "com/example/tool_port/toolport/http/HttpSyntax", name := "isTokenChar", desc := "(I)Z" } : Jvm.MethodName) prog_33_method_4_code (1 : Nat) (Option.some Jvm.ClassFile.FieldType.boolean)).before args0 about1 = true := code_word (m := ⟨2, 1⟩) (meth := k2m1) (c := k2c1) (by decide +kernel) rfl rfl rfl (by decide +kernel)
set_option maxRecDepth 65536 in
theorem w_c3 : (Jvm.Cond.code ({ cls := "com/example/tool_port/toolport/http/HttpSyntaxIsTokenCharPinLaw", name := "expected", desc := "(I)Z" } : Jvm.MethodName) method_2_code (1 : Nat) (Option.some Jvm.ClassFile.FieldType.boolean)).before args0 about1 = true := code_word (m := ⟨1, 1⟩) (meth := k1m1) (c := k1c1) (by decide +kernel) rfl rfl rfl (by decide +kernel)
def codes1 : List Jvm.Cond := [Jvm.Cond.code x code maxLocals ret, Jvm.Cond.code ({ cls := "com/example/tool_port/toolport/http/HttpSyntaxIsTokenCharPinLaw", name := "check", desc := "(I)Z" } : Jvm.MethodName) method_3_code (1 : Nat) (Option.some Jvm.ClassFile.FieldType.boolean), Jvm.Cond.code ({ cls := "com/example/tool_port/toolport/http/HttpSyntax", name := "isTokenChar", desc := "(I)Z" } : Jvm.MethodName) prog_33_method_4_code (1 : Nat) (Option.some Jvm.ClassFile.FieldType.boolean), Jvm.Cond.code ({ cls := "com/example/tool_port/toolport/http/HttpSyntaxIsTokenCharPinLaw", name := "expected", desc := "(I)Z" } : Jvm.MethodName) method_2_code (1 : Nat) (Option.some Jvm.ClassFile.FieldType.boolean)]
set_option maxRecDepth 65536 in
theorem codes_eq : words1.filter isCode = codes1 := rfl
theorem w_codes : ∀ c ∈ words1.filter isCode, c.before args0 about1 = true := by
  rw [codes_eq]
  intro c hc
  simp only [codes1, List.mem_cons, List.not_mem_nil, or_false] at hc
  rcases hc with rfl | rfl | rfl | rfl
  · exact w_c0
  · exact w_c1
  · exact w_c2
  · exact w_c3
set_option maxRecDepth 65536 in
theorem w_t1 : words1.all (fun c => isCode c || c.before args0 about1) = true := by decide +kernel
theorem w_tables : (allAtoms (Jvm.Cond.code x code maxLocals ret :: tables_1)).before args0 about1 = true := by
  rw [allAtoms_all]
  show words1.all (fun c => c.before args0 about1) = true
  refine all_split ?_ w_codes
  rw [w_t1]
set_option maxRecDepth 65536 in
theorem w_case : (Jvm.Cond.and given_1 narrow_1).before args0 about1 = true := by decide +kernel
theorem w_applies : (headSpec (Jvm.Cond.code x code maxLocals ret :: tables_1) room_1).applies x e0.platform about1 = true :=
  (Spec.applies_iff w_frames).mpr ⟨w_running, w_runnable, w_alone, w_named, w_hears, w_ripe, w_room, w_tables⟩
theorem atStart : AtStart classFile x code maxLocals ret World_1 tables_1 room_1 Calls_1 rest_1 Pre_1 launch0 p0 e0 about1 theMethod args0 below0 :=
  ⟨lists_1, trivial, launch0.admits_env _ _ _, launch0.least_env, fairChoices_fair.cas, fairChoices_fair.clock, w_frames, w_args, w_heap, w_applies, trivial, trivial, w_case⟩
end start1
theorem witness_1 : WitnessClaimed_1 := ⟨start1.p0, start1.e0, start1.about1, start1.theMethod, start1.args0, start1.below0, start1.atStart⟩
end Jvm.Pilot.@@N@@
