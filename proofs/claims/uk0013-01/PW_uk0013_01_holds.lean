import PyProof.Rows.All
import Wide.All
import OpenK.AllK
import Wide.FinOn
import KE.KTryDeep
import KE.LcSums
import Lean
import PySem.Challenge.RW_uk0013_01
set_option Elab.async false
set_option maxRecDepth 100000
set_option maxHeartbeats 40000000
set_option linter.unusedVariables false
set_option linter.unusedSimpArgs false
section
open PySem PySem.W PyProof.Rows
open_top hd for PySem.Challenge.rw_uk0013_01
end
noncomputable section
open PySem PySem.W PyProof.Rows PySem.Spec PySem.Calls
namespace Mine
/-- a mark at which the walk stands still -/
noncomputable def Halt (P : Prop) : Prop := P
theorem halt_in {P : Prop} (h : Halt P) : P := h
theorem halt_out {P : Prop} (h : P) : Halt P := h
/-- a def of the text, told: P of the ledger ahead, R of the ledger behind and the value -/
noncomputable abbrev MC (f : Addr) (lv : Nat) (vs : List Value) (P : List (Addr × Obj) → Prop) (R : List (Addr × Obj) → List (Addr × Obj) → Value → Prop) : Prop :=
  ∀ (w : World) (p : Program) (loose : List Str) (mean : ExcName → Option Value) (mg mb : Str → Option Value) (news : List (Addr × Obj)) (dp un : Nat) (gd : Option (List Code)) (cn : Str) (cs : Scope) (a : Addr) (ccd : Value) (cl : List (Str × Addr)) (outer : List Env) (A₀ : Around) (base h₀ : Heap) (L : Addr) (m : Str → Option Value) (s : Shared) (Q E : Value → Shared → Prop),
    Below A₀ base outer h₀ → Fr h₀ L s.heap m → (hd.heap_39 w.params).In h₀ → News h₀ L s.heap news → Top p loose mean mg mb h₀ → cs.kind = .function →
    P news → dp + 10 * lv < recursionLimit → un + 100 * lv < cLine →
    (∀ v news' h' tk', R news news' v → Fr h₀ L h' m → News h₀ L h' news' → Q v { s with heap := h', toks := tk' }) →
      wpAny (model PySem.Challenge.rw_uk0013_01.row.prog w) (ktrTop dp un gd cn cs L a ccd cl outer) (call (.ref f) vs) Q E s
noncomputable abbrev tupO (vs : List Value) : Obj := { cls := .type "tuple", data := .seq vs.toArray 0 }
section
variable {prog : Program} {w : World} {A : Around} {E : Value → Shared → Prop} {s : Shared} {Q : Value → Shared → Prop} {h₀ : Heap} {L : Addr} {m : Str → Option Value} {news : List (Addr × Obj)}
theorem tok3 {x y z b : UInt64} {t u v r : Tok} {i : Nat} (h : (#[Value.float x t, Value.float y u, Value.float z v])[i]? = some (.float b r)) : r = t ∨ r = u ∨ r = v := by
  rcases i with _ | _ | _ | i
  · exact .inl (Value.float.inj (Option.some.inj h)).2.symm
  · exact .inr (.inl (Value.float.inj (Option.some.inj h)).2.symm)
  · exact .inr (.inr (Value.float.inj (Option.some.inj h)).2.symm)
  · cases h
theorem max3f {x y z : UInt64} {t u v : Tok} (hh : A.handled = none) (F : Fr h₀ L s.heap m) (N : News h₀ L s.heap news)
    (h : ∀ h' tk r, (r = t ∨ r = u ∨ r = v) → Fr h₀ L h' m → News h₀ L h' news → Q (.float (Flt.maxOfBits [x, y, z]) r) { s with heap := h', toks := tk }) :
    wpAny (model prog w) A (call (.builtin "max") [.float x t, .float y u, .float z v]) Q E s := by
  have hT : (s.heap.push { cls := .type "tuple", data := .seq #[.float x t, .float y u, .float z v] }).IsTuple s.heap.objs.size #[.float x t, .float y u, .float z v] := ⟨_, Heap.get?_push_size _ rfl, rfl, 0, rfl⟩
  refine call_max_three (wpAny_pyIter_tuple hT ?_)
  have hsz : (s.heap.push { cls := .type "tuple", data := .seq #[.float x t, .float y u, .float z v] }).objs.size = s.heap.objs.size + 1 := Heap.size_push ..
  have hf : Flt.FloatsAre [.float x t, .float y u, .float z v] [x, y, z] := .cons _ _ (.cons _ _ (.cons _ _ .nil))
  refine ⟨_, [_, s.heap.objs.size], [_], _, _, _, fun i j => Flt.gtB ([x, y, z].getD i 0) ([x, y, z].getD j 0), rfl, Walks.tuple (A := A.in1) hh _ s.heap.objs.size (by rw [hsz]; exact Nat.ne_of_lt (Nat.lt_succ_self _)) #[.float x t, .float y u, .float z v],
    ⟨⟨_, Heap.get?_push_size _ rfl, rfl, rfl⟩, hT.push _⟩, fun c hc => ?_, by simp, fun i j vi vj s Q E hi hj h => ?_, fun v h' tk hP hk => ?_⟩
  · show c < ((s.heap.push _).push _).objs.size
    rw [Heap.size_push, hsz]
    rcases List.mem_cons.mp hc with rfl | hc
    · rw [hsz]; exact Nat.lt_succ_self _
    · rcases List.mem_cons.mp hc with rfl | hc
      · exact Nat.lt_succ_of_lt (Nat.lt_succ_self _)
      · cases hc
  · obtain ⟨b, t, rfl, e1⟩ := hf.at i vi (by simpa using hi)
    obtain ⟨c, u, rfl, e2⟩ := hf.at j vj (by simpa using hj)
    simp only [List.getD_eq_getElem?_getD, e1, e2, Option.getD_some] at h
    exact AutoFloatOps.gt_0 (by rw [Flt.cmp_gt]; exact h)
  · have hold : ∀ c o, s.heap.get? c = some o → h'.get? c = some o := fun c o e => by
      refine hk c o (fun hm => ?_) (Heap.get?_push_of_some _ (Heap.get?_push_of_some _ e))
      rcases List.mem_cons.mp hm with e1 | hm
      · have := Heap.lt_size e; rw [e1, hsz] at this; exact Nat.lt_irrefl _ (Nat.lt_of_succ_lt this)
      · cases hm
    obtain ⟨b, t', rfl, e1⟩ := hf.at _ v ((List.getElem?_toArray).symm.trans hP)
    have hr := tok3 hP
    have e2 := Flt.argBest_bits Flt.gtB [x, y, z] 2 (Nat.lt_succ_self 2)
    rw [List.getD_eq_getElem?_getD] at e2
    have e3 := e2
    rw [show [x, y, z][argBest (fun i j => Flt.gtB ([x, y, z].getD i 0) ([x, y, z].getD j 0)) 2]? = some b from e1] at e3
    have e4 : b = Flt.maxOfBits [x, y, z] := e3
    subst e4
    exact h h' tk t' hr (F.grownK hold) (N.grown hold)
theorem min3f {x y z : UInt64} {t u v : Tok} (hh : A.handled = none) (F : Fr h₀ L s.heap m) (N : News h₀ L s.heap news)
    (h : ∀ h' tk r, Fr h₀ L h' m → News h₀ L h' news → Q (.float (Flt.minOfBits [x, y, z]) r) { s with heap := h', toks := tk }) :
    wpAny (model prog w) A (call (.builtin "min") [.float x t, .float y u, .float z v]) Q E s := by
  have hT : (s.heap.push { cls := .type "tuple", data := .seq #[.float x t, .float y u, .float z v] }).IsTuple s.heap.objs.size #[.float x t, .float y u, .float z v] := ⟨_, Heap.get?_push_size _ rfl, rfl, 0, rfl⟩
  refine call_min_three (wpAny_pyIter_tuple hT ?_)
  have hsz : (s.heap.push { cls := .type "tuple", data := .seq #[.float x t, .float y u, .float z v] }).objs.size = s.heap.objs.size + 1 := Heap.size_push ..
  have hf : Flt.FloatsAre [.float x t, .float y u, .float z v] [x, y, z] := .cons _ _ (.cons _ _ (.cons _ _ .nil))
  refine ⟨_, [_, s.heap.objs.size], [_], _, _, _, fun i j => Flt.ltB ([x, y, z].getD i 0) ([x, y, z].getD j 0), rfl, Walks.tuple (A := A.in1) hh _ s.heap.objs.size (by rw [hsz]; exact Nat.ne_of_lt (Nat.lt_succ_self _)) #[.float x t, .float y u, .float z v],
    ⟨⟨_, Heap.get?_push_size _ rfl, rfl, rfl⟩, hT.push _⟩, fun c hc => ?_, by simp, fun i j vi vj s Q E hi hj h => ?_, fun v h' tk hP hk => ?_⟩
  · show c < ((s.heap.push _).push _).objs.size
    rw [Heap.size_push, hsz]
    rcases List.mem_cons.mp hc with rfl | hc
    · rw [hsz]; exact Nat.lt_succ_self _
    · rcases List.mem_cons.mp hc with rfl | hc
      · exact Nat.lt_succ_of_lt (Nat.lt_succ_self _)
      · cases hc
  · obtain ⟨b, t, rfl, e1⟩ := hf.at i vi (by simpa using hi)
    obtain ⟨c, u, rfl, e2⟩ := hf.at j vj (by simpa using hj)
    simp only [List.getD_eq_getElem?_getD, e1, e2, Option.getD_some] at h
    exact AutoFloatOps.lt_0 h
  · have hold : ∀ c o, s.heap.get? c = some o → h'.get? c = some o := fun c o e => by
      refine hk c o (fun hm => ?_) (Heap.get?_push_of_some _ (Heap.get?_push_of_some _ e))
      rcases List.mem_cons.mp hm with e1 | hm
      · have := Heap.lt_size e; rw [e1, hsz] at this; exact Nat.lt_irrefl _ (Nat.lt_of_succ_lt this)
      · cases hm
    obtain ⟨b, t, rfl, e1⟩ := hf.at _ v ((List.getElem?_toArray).symm.trans hP)
    have e2 := Flt.argBest_bits Flt.ltB [x, y, z] 2 (Nat.lt_succ_self 2)
    rw [List.getD_eq_getElem?_getD] at e2
    have e3 := e2
    rw [show [x, y, z][argBest (fun i j => Flt.ltB ([x, y, z].getD i 0) ([x, y, z].getD j 0)) 2]? = some b from e1] at e3
    have e4 : b = Flt.minOfBits [x, y, z] := e3
    subst e4
    exact h h' tk t (F.grownK hold) (N.grown hold)
end
end Mine
end
noncomputable section
open PySem PySem.W PyProof.Rows PySem.Spec PySem.Calls
namespace Mine
open PyProof.Rows.LCg (NsObj ns_obj lst lst_snoc Off3 fr_but news_but)
section
variable {prog : Program} {w : World} {A : Around} {E : Value → Shared → Prop} {s : Shared} {h₀ : Heap} {L : Addr} {m : Str → Option Value} {env : Env}
/-- a turn's end -/
noncomputable def CEnd (h₀ : Heap) (L : Addr) (m : Str → Option Value) (all : List (Addr × Obj)) (s : Shared) (J : Prop) (s' : Shared) : Prop :=
  ∃ h' tk', s' = { s with heap := h', toks := tk' } ∧ Fr h₀ L h' m ∧ News h₀ L h' all ∧ J
theorem CEnd.of {all : List (Addr × Obj)} {J : Prop} {h' : Heap} {tk' : Nat} (F : Fr h₀ L h' m) (N : News h₀ L h' all) (j : J) : CEnd h₀ L m all s J { s with heap := h', toks := tk' } := ⟨h', tk', rfl, F, N, j⟩
theorem CEnd.sub {all big : List (Addr × Obj)} {J : Prop} {h' : Heap} {tk' : Nat} (F : Fr h₀ L h' m) (N : News h₀ L h' big) (hs : ∀ p ∈ all, p ∈ big) (j : J) : CEnd h₀ L m all s J { s with heap := h', toks := tk' } := ⟨h', tk', rfl, F, fun p hp => N p (hs p hp), j⟩
/-! sources -/
/-! turns -/
end
end Mine
end
noncomputable section
open PySem PySem.W PyProof.Rows PySem.Spec PySem.Calls
namespace Mine
section
variable {prog : Program} {w : World} {A : Around} {E : Value → Shared → Prop} {s : Shared} {h₀ : Heap} {L : Addr} {m : Str → Option Value} {env : Env}
/-- a turn's end of a for -/
noncomputable def FEnd (h₀ : Heap) (L : Addr) (I : Addr) (oI : Obj) (J : (Str → Option Value) → List (Addr × Obj) → Prop) (Q : Flow → Shared → Prop) (s : Shared) (f : Flow) (s' : Shared) : Prop := match f with
  | .ret v => Q (.ret v) s'
  | .brk => Q .next s'
  | _ => ∃ h' tk' m₂ news₂, s' = { s with heap := h', toks := tk' } ∧ Fr h₀ L h' m₂ ∧ News h₀ L h' ((I, oI) :: news₂) ∧ (∀ p ∈ news₂, p.1 ≠ I) ∧ J m₂ news₂
theorem FEnd.next {I : Addr} {oI : Obj} {J : (Str → Option Value) → List (Addr × Obj) → Prop} {Q : Flow → Shared → Prop} {h' : Heap} {tk' : Nat} {m₂ : Str → Option Value} {news₂ big : List (Addr × Obj)} (F : Fr h₀ L h' m₂) (N : News h₀ L h' big) (hi : (I, oI) ∈ big) (hs : ∀ p ∈ news₂, p ∈ big)
    (hI : ∀ p ∈ news₂, p.1 ≠ I) (j : J m₂ news₂) : FEnd h₀ L I oI J Q s .next { s with heap := h', toks := tk' } :=
  ⟨h', tk', m₂, news₂, rfl, F, fun p hp => N p ((List.mem_cons.mp hp).elim (fun e => e ▸ hi) (hs p)), hI, j⟩
end
end Mine
end
noncomputable section
open PySem PySem.W PyProof.Rows PySem.Spec PySem.Calls
namespace Mine
section
variable {prog : Program} {w : World} {A : Around} {E : Value → Shared → Prop} {s : Shared} {h₀ : Heap} {m : Str → Option Value} {env : Env}
noncomputable def WEnd (h₀ : Heap) (L : Addr) (J : Nat → (Str → Option Value) → List (Addr × Obj) → Prop) (k : Nat) (Q : Flow → Shared → Prop) (s : Shared) (f : Flow) (s' : Shared) : Prop := match f with
  | .ret v => Q (.ret v) s'
  | .brk => Q .next s'
  | _ => ∃ h' tk' m₂ news₂ k', s' = { s with heap := h', toks := tk' } ∧ Fr h₀ L h' m₂ ∧ News h₀ L h' news₂ ∧ k' < k ∧ J k' m₂ news₂
theorem WEnd.next {L : Addr} {J : Nat → (Str → Option Value) → List (Addr × Obj) → Prop} {k k' : Nat} {Q : Flow → Shared → Prop} {h' : Heap} {tk' : Nat} {m₂ : Str → Option Value} {news₂ big : List (Addr × Obj)} (F : Fr h₀ L h' m₂) (N : News h₀ L h' big) (hs : ∀ p ∈ news₂, p ∈ big) (hk : k' < k) (j : J k' m₂ news₂) :
    WEnd h₀ L J k Q s .next { s with heap := h', toks := tk' } := ⟨h', tk', m₂, news₂, k', rfl, F, fun p hp => N p (hs p hp), hk, j⟩
end
section
variable {K : Frag} {s : Shared}
theorem ns_of_K {h : Heap} {D : Addr} {c : Value} {d : Option Addr} {es : Array DictEntry} {n : Nat} {sl : Array (Option Value)} (X : K.In h) (hl : K.lookup D = some ⟨c, d, .dict es n, sl⟩) (hk : ∀ e ∈ es, ∃ n t, e.key = .str n t) : h.Ns D (fun x => nsFind es x) :=
  ⟨_, es, n, X _ _ hl, rfl, hk, fun _ => rfl⟩
theorem binds_K3 {fd : FuncData} {args : Args} {binds : List (Str × Value)} {T D : Addr} {o : Obj} {items : Array Value} {n n' : Nat} {k : Option (Array Value) → Sem (List (Str × Value))} {c : Value} {d : Option Addr} {es : Array DictEntry} {sl : Array (Option Value)}
    (X : K.In s.heap) (hd : fd.defaults = .ref T) (ho : K.lookup T = some o) (hs : o.data = .seq items n) (_hkw : fd.kwdefaults = .ref D) (hl : K.lookup D = some ⟨c, d, .dict es n', sl⟩) (hk : ∀ e ∈ es, ∃ n t, e.key = .str n t)
    (h₁ : bindArgs fd args = seqItems? fd.defaults >>= k) (h₂ : ∀ (M : Model) (A : Around) (E : Value → Shared → Prop) (Q : List (Str × Value) → Shared → Prop), s.heap.Ns D (fun x => nsFind es x) → Q binds s → wpAny M A (k (some items)) Q E s) : BindsTo s fd args binds := fun M A E Q hq => by
  rw [h₁, hd]
  exact wpAny_bind (wpAny_seqItems (X _ _ ho) hs (h₂ M A E Q (ns_of_K X hl hk) hq))
theorem nsGet_v {M : Model} {A : Around} {E : Value → Shared → Prop} {a : Addr} {m : Str → Option Value} {name : Str} {v : Option Value} {Q : Option Value → Shared → Prop} (hn : s.heap.Ns a m) (hv : m name = v) (h : Q v s) : wpAny M A (nsGet a name) Q E s := wpAny_nsGet hn (hv ▸ h)
end
/-- as MC, with keywords -/
noncomputable abbrev MCk (f : Addr) (lv : Nat) (vs : List Value) (kw : List (Str × Value)) (P : List (Addr × Obj) → Prop) (R : List (Addr × Obj) → List (Addr × Obj) → Value → Prop) : Prop :=
  ∀ (w : World) (p : Program) (loose : List Str) (mean : ExcName → Option Value) (mg mb : Str → Option Value) (news : List (Addr × Obj)) (dp un : Nat) (gd : Option (List Code)) (cn : Str) (cs : Scope) (a : Addr) (ccd : Value) (cl : List (Str × Addr)) (outer : List Env) (A₀ : Around) (base h₀ : Heap) (L : Addr) (m : Str → Option Value) (s : Shared) (Q E : Value → Shared → Prop),
    Below A₀ base outer h₀ → Fr h₀ L s.heap m → (hd.heap_39 w.params).In h₀ → News h₀ L s.heap news → Top p loose mean mg mb h₀ → cs.kind = .function →
    P news → dp + 10 * lv < recursionLimit → un + 100 * lv < cLine →
    (∀ v news' h' tk', R news news' v → Fr h₀ L h' m → News h₀ L h' news' → Q v { s with heap := h', toks := tk' }) →
      wpAny (model PySem.Challenge.rw_uk0013_01.row.prog w) (ktrTop dp un gd cn cs L a ccd cl outer) (call (.ref f) vs kw) Q E s
theorem mck_use {f : Addr} {lv : Nat} {vs : List Value} {kw : List (Str × Value)} {P : List (Addr × Obj) → Prop} {R : List (Addr × Obj) → List (Addr × Obj) → Value → Prop} (C : MCk f lv vs kw P R)
    {w : World} {p : Program} {loose : List Str} {mean : ExcName → Option Value} {mg mb : Str → Option Value} {news : List (Addr × Obj)} {dp un : Nat} {gd : Option (List Code)} {cn : Str} {cs : Scope} {a : Addr} {ccd : Value} {cl : List (Str × Addr)} {outer : List Env} {A₀ : Around} {base h₀ : Heap} {L : Addr} {m : Str → Option Value} {s : Shared} {Q E : Value → Shared → Prop}
    (B : Below A₀ base outer h₀) (F : Fr h₀ L s.heap m) (X : (hd.heap_39 w.params).In h₀) (N : News h₀ L s.heap news) (T : Top p loose mean mg mb h₀) (hk : cs.kind = .function)
    (hP : P news) (hd : dp + 10 * lv < recursionLimit) (hu : un + 100 * lv < cLine)
    (ret : ∀ v news' h' tk', R news news' v → Fr h₀ L h' m → News h₀ L h' news' → Q v { s with heap := h', toks := tk' }) :
    wpAny (model PySem.Challenge.rw_uk0013_01.row.prog w) (ktrTop dp un gd cn cs L a ccd cl outer) (call (.ref f) vs kw) Q E s :=
  C w p loose mean mg mb news dp un gd cn cs a ccd cl outer A₀ base h₀ L m s Q E B F X N T hk hP hd hu ret
end Mine
end
noncomputable section
open PySem PySem.W PyProof.Rows PySem.Spec PySem.Calls
namespace Mine
noncomputable def ofL : List (Str × Value) → Str → Option Value
  | [], _ => none
  | (n, v) :: r, y => if y = n then some v else ofL r y
theorem ofL_lookup : ∀ (l : List (Str × Value)), (fun y => List.lookup y l) = ofL l
  | [] => rfl
  | (n, v) :: r => by
    funext y
    have ih := congrFun (ofL_lookup r) y
    by_cases h : y = n
    · subst h; simp [ofL, List.lookup_cons]
    · simp only [ofL, if_neg h, ← ih, List.lookup_cons, beq_eq_false_iff_ne.mpr h]
theorem ofL_not : ∀ {l : List (Str × Value)} {y : Str}, y ∉ l.map (·.1) → ofL l y = none
  | [], _, _ => rfl
  | (n, v) :: r, y, h => by
    simp only [List.map_cons, List.mem_cons, not_or] at h
    simp only [ofL, if_neg h.1]; exact ofL_not h.2
theorem ofL_mem : ∀ {l : List (Str × Value)} {y : Str} {v : Value}, (l.map (·.1)).Nodup → (y, v) ∈ l → ofL l y = some v
  | (n, u) :: r, y, v, hn, h => by
    simp only [List.map_cons, List.nodup_cons] at hn
    rcases List.mem_cons.mp h with e | h
    · cases e; simp [ofL]
    · have : y ≠ n := fun e => hn.1 (e ▸ List.mem_map_of_mem h)
      simp only [ofL, if_neg this]; exact ofL_mem hn.2 h
theorem ofL_rev (l : List (Str × Value)) (hn : (l.map (·.1)).Nodup) : (fun y => List.lookup y l.reverse) = ofL l := by
  rw [ofL_lookup]
  funext y
  have hr : (l.reverse.map (·.1)).Nodup := by rw [List.map_reverse]; exact (List.reverse_perm _).nodup_iff.mpr hn
  by_cases h : y ∈ l.map (·.1)
  · obtain ⟨p, hp, rfl⟩ := List.mem_map.mp h
    rw [ofL_mem hn hp, ofL_mem hr (List.mem_reverse.mpr hp)]
  · rw [ofL_not h, ofL_not (by rw [List.map_reverse]; simpa using h)]
/-- a call's end, the caller out of sight -/
noncomputable def Done (g : Heap) (L' : Addr) (R : List (Addr × Obj) → Value → Prop) (s : Shared) (v : Value) (s' : Shared) : Prop :=
  ∃ h' tk' m' news', s' = { s with heap := h', toks := tk' } ∧ Fr g L' h' m' ∧ News g L' h' news' ∧ R news' v
theorem Done.of {g : Heap} {L' : Addr} {R : List (Addr × Obj) → Value → Prop} {s : Shared} {v : Value} {h' : Heap} {tk' : Nat} {m' : Str → Option Value} {news' big : List (Addr × Obj)} (F : Fr g L' h' m') (N : News g L' h' big) (hs : ∀ p ∈ news', p ∈ big) (r : R news' v) :
    Done g L' R s v { s with heap := h', toks := tk' } := ⟨h', tk', m', news', rfl, F, fun p hp => N p (hs p hp), r⟩
section
variable {f : Addr} {lv : Nat} {vs : List Value} {kw : List (Str × Value)} {P : List (Addr × Obj) → Prop} {R : List (Addr × Obj) → List (Addr × Obj) → Value → Prop} {name qual : Str} {params : Arguments} {body : List Stmt} {scope : Scope} {dV kV doc pm cdv ct oc : Value} {an od : Option Addr} {osl : Array (Option Value)}
theorem mc_def (binds : List (Str × Value))
    (ho : ∀ P : Params, (hd.heap_39 P).lookup f = some ⟨oc, od, .func (fnOf name qual params body scope dV kV doc pm an cdv ct), osl⟩) (hcd : ∀ P : Params, codeIn (hd.heap_39 P) cdv qual = true)
    (hbind : ∀ (w : World) (s : Shared), (hd.heap_39 w.params).In s.heap → BindsTo s (fnOf name qual params body scope dV kV doc pm an cdv ct) ⟨vs, kw⟩ binds)
    (hnd : (binds.map (·.1)).Nodup) (hloc : ∀ y ∈ binds, scope.names.lookup y.1 = some .local)
    (hco : scope.isCoroutine = false) (hgen : scope.isGenerator = false) (hk : scope.kind = .function) (hcell : ∀ x ∈ scope.names, x.2 ≠ .cell) (hlv : 1 ≤ lv)
    (h : ∀ (w : World) (p : Program) (loose : List Str) (mean : ExcName → Option Value) (mg mb : Str → Option Value) (news : List (Addr × Obj)) (dp un : Nat) (gd : Option (List Code)) (outer : List Env) (A₀ : Around) (base g : Heap) (L' : Addr) (s : Shared),
      Below A₀ base outer g → (hd.heap_39 w.params).In g → Top p loose mean mg mb g → P news → dp + 10 * lv < recursionLimit + 1 → un + 100 * lv < cLine + 3 →
      Fr g L' s.heap (ofL binds) → News g L' s.heap news → (∀ p ∈ news, p.1 < L') →
      wpAny (model PySem.Challenge.rw_uk0013_01.row.prog w) (ktrTop dp un gd qual scope L' f cdv [] outer) (execs body (envOf qual scope L' f cdv)) (fun fl s' => Done g L' (R news) s (match fl with | .ret v => v | _ => .none) s') (fun _ _ => False) s) :
    MCk f lv vs kw P R := by
  intro w p loose mean mg mb news dp un gd cn cs a ccd cl outer A₀ base h₀ L m s Q E B F X N T hck hP hdp hun ret
  refine wpAny_call ?_
  refine callX_plain (cl := []) B F N T.nolimit rfl rfl hck ((X.keeps F.keep) _ _ (ho _)) rfl (codeRec_of (X.keeps F.keep) (hcd _)) (by show dp < recursionLimit; lia) (hbind w s (X.keeps F.keep)) hloc (fun g L' h₁ FG F' N' B' st lt => ?_) hcell hco hgen hk
  rw [ofL_rev binds hnd] at F'
  refine wpAny_mono (h w p loose mean mg mb news (dp + 1) (un + 3) gd (envX cn cs L a ccd cl :: outer) _ base g L' { s with heap := h₁, toks := s.toks + binds.length } B' (X.keeps st) (T.keeps st) hP (by lia) (by lia) F' N' lt) (fun fl s' hd => ?_) fun _ _ z => z.elim
  obtain ⟨h', tk', m', news', rfl, F₂, N₂, r⟩ := hd
  exact ⟨L', m', news', F₂, N₂, fun Fc Nc => ret _ news' h' tk' r Fc Nc⟩
theorem mc_defC (binds : List (Str × Value))
    (ho : ∀ P : Params, (hd.heap_39 P).lookup f = some ⟨oc, od, .func (fnOf name qual params body scope dV kV doc pm an cdv ct), osl⟩) (hcd : ∀ P : Params, codeIn (hd.heap_39 P) cdv qual = true)
    (hbind : ∀ (w : World) (s : Shared), (hd.heap_39 w.params).In s.heap → BindsTo s (fnOf name qual params body scope dV kV doc pm an cdv ct) ⟨vs, kw⟩ binds)
    (hkind : (binds.all fun y => scope.names.lookup y.1 == some .local || scope.names.lookup y.1 == some .cell) = true) (hnd : ((cellsFrom 0 scope.names []).map (·.1)).Nodup)
    (hco : scope.isCoroutine = false) (hgen : scope.isGenerator = false) (hk : scope.kind = .function) (hlv : 1 ≤ lv)
    (h : ∀ (w : World) (p : Program) (loose : List Str) (mean : ExcName → Option Value) (mg mb : Str → Option Value) (news : List (Addr × Obj)) (dp un : Nat) (gd : Option (List Code)) (outer : List Env) (A₀ : Around) (base g : Heap) (L' : Addr) (cells : List (Addr × Obj)) (s : Shared),
      Below A₀ base outer g → (hd.heap_39 w.params).In g → Top p loose mean mg mb g → P news → dp + 10 * lv < recursionLimit + 1 → un + 100 * lv < cLine + 3 →
      Fr g L' s.heap (bindL (envX qual scope L' f cdv (cellsFrom (L' + 1) scope.names [])).kindOf binds fun _ => none) → News g L' s.heap (cells ++ news) →
      CellsAre (bindC (envX qual scope L' f cdv (cellsFrom (L' + 1) scope.names [])).kindOf binds fun _ => none) (cellsFrom (L' + 1) scope.names []) cells → (∀ p ∈ news, p.1 < L') →
      wpAny (model PySem.Challenge.rw_uk0013_01.row.prog w) (ktrTop dp un gd qual scope L' f cdv (cellsFrom (L' + 1) scope.names []) outer) (execs body (envOfC qual scope L' f cdv)) (fun fl s' => Done g L' (R news) s (match fl with | .ret v => v | _ => .none) s') (fun _ _ => False) s) :
    MCk f lv vs kw P R := by
  intro w p loose mean mg mb news dp un gd cn cs a ccd cl outer A₀ base h₀ L m s Q E B F X N T hck hP hdp hun ret
  refine wpAny_call ?_
  refine callX_cells B F N T.nolimit rfl rfl hck ((X.keeps F.keep) _ _ (ho _)) rfl (codeRec_of (X.keeps F.keep) (hcd _)) (by show dp < recursionLimit; lia) (hbind w s (X.keeps F.keep)) (kindsX hkind) hnd (fun g L' h₁ tk cells FG F' N' Y B' st lt => ?_) hco hgen hk
  refine wpAny_mono (h w p loose mean mg mb news (dp + 1) (un + 3) gd (envX cn cs L a ccd cl :: outer) _ base g L' cells { s with heap := h₁, toks := tk } B' (X.keeps st) (T.keeps st) hP (by lia) (by lia) F' N' Y lt) (fun fl s' hd => ?_) fun _ _ z => z.elim
  obtain ⟨h', tk', m', news', rfl, F₂, N₂, r⟩ := hd
  exact ⟨L', m', news', F₂, N₂, fun Fc Nc => ret _ news' h' tk' r Fc Nc⟩
end
end Mine
end
noncomputable section
open PySem PySem.W PyProof.Rows PySem.Spec PySem.Calls
namespace Mine
/-! pure expressions, by reflection: no binder a step -/
set_option genInjectivity false
set_option genSizeOf false
/-- what is known of a value: u, p are rows of values, t a tuple, l a list, li a list of ints -/
inductive SV where
  | i (n : Int)
  | f (x : UInt64) (z : Bool)
  | b (p : Bool)
  | s (x : Str)
  | v (u : Value)
  | nl
  | p (a r : SV)
  | t (c : SV)
  | l (c : SV)
  | li (l : List Int)
  | lv (q : Addr) (l : List Value)
  | m (q : Addr) (l : List Value)
noncomputable abbrev listO (us : List Value) (n : Nat) : Obj := { cls := .type "list", data := .seq us.toArray n }
noncomputable abbrev Lg : Type := List (Addr × Obj)
noncomputable abbrev VP : Type := (Value → Prop) × (List Value → Prop)
noncomputable def VP.one (P : Value → Prop) : VP := (P, fun _ => False)
noncomputable def IntsL : List Int → List Value → Prop
  | [], us => us = []
  | k :: r, us => ∃ t ur, us = .int k t :: ur ∧ IntsL r ur
noncomputable def IsX (ν : Lg) : SV → VP
  | .i n => .one fun u => ∃ t, u = .int n t
  | .f x z => .one fun u => ∃ t, u = .float x t ∧ (z = true → t ≠ 0)
  | .b p => .one fun u => u = .bool p
  | .s x => .one fun u => ∃ t, u = .str x t
  | .v w => .one fun u => u = w
  | .nl => (fun _ => False, fun us => us = [])
  | .p a r => (fun _ => False, fun us => ∃ u ur, us = u :: ur ∧ (IsX ν a).1 u ∧ (IsX ν r).2 ur)
  | .t c => .one fun u => ∃ q us, u = .ref q ∧ (q, tupO us) ∈ ν ∧ (IsX ν c).2 us
  | .l c => .one fun u => ∃ q us n, u = .ref q ∧ (q, listO us n) ∈ ν ∧ (IsX ν c).2 us
  | .li l => .one fun u => ∃ q us n, u = .ref q ∧ (q, listO us n) ∈ ν ∧ IntsL l us
  | .lv q l => .one fun u => u = .ref q ∧ ∃ n, (q, listO l n) ∈ ν
  | .m _ _ => .one fun _ => False
noncomputable abbrev Is (ν : Lg) (x : SV) (u : Value) : Prop := (IsX ν x).1 u
noncomputable abbrev IsL (ν : Lg) (x : SV) (us : List Value) : Prop := (IsX ν x).2 us
theorem isX_mono {ν ν' : Lg} (hs : ∀ p ∈ ν, p ∈ ν') : ∀ x : SV, (∀ u, Is ν x u → Is ν' x u) ∧ ∀ us, IsL ν x us → IsL ν' x us
  | .p a r => ⟨fun _ h => h, fun _ ⟨u, ur, e, h1, h2⟩ => ⟨u, ur, e, (isX_mono hs a).1 _ h1, (isX_mono hs r).2 _ h2⟩⟩
  | .t c => ⟨fun _ ⟨q, us, e, h1, h2⟩ => ⟨q, us, e, hs _ h1, (isX_mono hs c).2 _ h2⟩, fun _ h => h⟩
  | .l c => ⟨fun _ ⟨q, us, n, e, h1, h2⟩ => ⟨q, us, n, e, hs _ h1, (isX_mono hs c).2 _ h2⟩, fun _ h => h⟩
  | .li _ => ⟨fun _ ⟨q, us, n, e, h1, h2⟩ => ⟨q, us, n, e, hs _ h1, h2⟩, fun _ h => h⟩
  | .m _ _ => ⟨fun _ h => h, fun _ h => h⟩
  | .lv _ _ => ⟨fun _ h => h.imp id fun h => h.imp fun _ h => hs _ h, fun _ h => h⟩
  | .i _ => ⟨fun _ h => h, fun _ h => h⟩
  | .f _ _ => ⟨fun _ h => h, fun _ h => h⟩
  | .b _ => ⟨fun _ h => h, fun _ h => h⟩
  | .s _ => ⟨fun _ h => h, fun _ h => h⟩
  | .v _ => ⟨fun _ h => h, fun _ h => h⟩
  | .nl => ⟨fun _ h => h, fun _ h => h⟩
theorem Is.mono {ν ν' : Lg} (hs : ∀ p ∈ ν, p ∈ ν') {x : SV} {u : Value} : Is ν x u → Is ν' x u := (isX_mono hs x).1 u
theorem IsL.mono {ν ν' : Lg} (hs : ∀ p ∈ ν, p ∈ ν') {x : SV} {us : List Value} : IsL ν x us → IsL ν' x us := (isX_mono hs x).2 us
theorem Is.wk {ν : Lg} {x : SV} {u : Value} : Is [] x u → Is ν x u := Is.mono fun _ h => (List.not_mem_nil h).elim
theorem IsL.wk {ν : Lg} {x : SV} {us : List Value} : IsL [] x us → IsL ν x us := IsL.mono fun _ h => (List.not_mem_nil h).elim
noncomputable def OptP {α : Type} (P : α → Prop) (o : Option α) : Prop := Option.rec True P o
theorem OptP.get {α : Type} {P : α → Prop} {o : Option α} {x : α} (h : OptP P o) (e : o = some x) : P x := by subst e; exact h
theorem OptP.bind {α β : Type} {P : α → Prop} {R : β → Prop} {o : Option α} {k : α → Option β} (h : OptP P o) (hk : ∀ x, P x → OptP R (k x)) : OptP R (o.bind k) := by
  cases o with
  | none => trivial
  | some x => exact hk x h
theorem OptP.or {α : Type} {P : α → Prop} {o o' : Option α} (h : OptP P o) (h' : OptP P o') : OptP P (o.or o') := by
  cases o with
  | none => exact h'
  | some x => exact h
theorem OptP.mono {α : Type} {P R : α → Prop} {o : Option α} (h : OptP P o) (hk : ∀ x, P x → R x) : OptP R o := by
  cases o with
  | none => trivial
  | some x => exact hk x h
theorem OptP.ite {α : Type} {P : α → Prop} {b : Bool} {o : Option α} (h : b = true → OptP P o) : OptP P (bif b then o else none) := by
  cases b with
  | false => trivial
  | true => exact h rfl
noncomputable abbrev Sg : Type := List (Str × SV)
noncomputable abbrev R2 : Type := Option (SV × List Prop)
noncomputable abbrev Ora : Type := List (Str × (Sg → SV → R2))
noncomputable abbrev Rs : Type := Option (SV × Bool × List Prop)
noncomputable abbrev Rb : Type := Option (Bool × Bool × List Prop)
noncomputable def bnd {α β : Type} (o : Option (α × Bool × List Prop)) (k : α → Bool → List Prop → Option β) : Option β := match o with
  | some (x, z, p) => k x z p
  | none => none
noncomputable def bd2 {β : Type} (o : R2) (k : SV → List Prop → Option β) : Option β := match o with
  | some (x, p) => k x p
  | none => none
theorem OptP.bnd {α β : Type} {P : α × Bool × List Prop → Prop} {R : β → Prop} {o : Option (α × Bool × List Prop)} {k : α → Bool → List Prop → Option β} (h : OptP P o) (hk : ∀ x z p, P (x, z, p) → OptP R (k x z p)) : OptP R (Mine.bnd o k) := by
  cases o with
  | none => trivial
  | some y => exact hk _ _ _ h
theorem OptP.bd2 {β : Type} {R : β → Prop} {o : R2} {k : SV → List Prop → Option β} (hk : ∀ x p, o = some (x, p) → OptP R (k x p)) : OptP R (Mine.bd2 o k) := by
  cases o with
  | none => trivial
  | some y => exact hk _ _ rfl
theorem OptP.bind' {α β : Type} {R : β → Prop} {o : Option α} {k : α → Option β} (hk : ∀ x, o = some x → OptP R (k x)) : OptP R (o.bind k) := by
  cases o with
  | none => trivial
  | some y => exact hk _ rfl
noncomputable def All : List Prop → Prop
  | [] => True
  | p :: r => p ∧ All r
theorem All.left : ∀ {l r : List Prop}, All (l ++ r) → All l
  | [], _, _ => trivial
  | _ :: _, _, h => ⟨h.1, All.left h.2⟩
theorem All.right : ∀ {l r : List Prop}, All (l ++ r) → All r
  | [], _, h => h
  | _ :: _, _, h => All.right (l := _) h.2
noncomputable def isM : SV → Bool
  | .m _ _ => true
  | _ => false
noncomputable def iOf : SV → Option Int
  | .i n => some n
  | _ => none
noncomputable def fOf : SV → Option UInt64
  | .f x _ => some x
  | _ => none
noncomputable def fzOf : SV → Bool
  | .f _ z => z
  | _ => false
noncomputable def sOf : SV → Option Str
  | .s x => some x
  | _ => none
noncomputable def bOf : SV → Option Bool
  | .b x => some x
  | _ => none
noncomputable def vOf : SV → Option Value
  | .v x => some x
  | _ => none
noncomputable def liOf : SV → Option (List Int)
  | .li x => some x
  | _ => none
noncomputable def lvOf : SV → Option (List Value)
  | .lv _ x => some x
  | _ => none
noncomputable def tOf : SV → Option SV
  | .t x => some x
  | _ => none
noncomputable def lOf : SV → Option SV
  | .l x => some x
  | _ => none
noncomputable def pOf {β : Type} (k : SV → SV → Option β) : SV → Option β
  | .p a r => k a r
  | _ => none
noncomputable def nlOf : SV → Option Unit
  | .nl => some ()
  | _ => none
noncomputable def nth : SV → Nat → Option SV
  | .p a _, 0 => some a
  | .p _ r, n + 1 => nth r n
  | _, _ => none
noncomputable def len : SV → Nat
  | .p _ r => len r + 1
  | _ => 0
section
variable {ν : Lg}
theorem iOf_is {x : SV} {u : Value} (h : Is ν x u) : OptP (fun n => ∃ t, u = .int n t) (iOf x) := by cases x <;> first | exact h | trivial
theorem fOf_is {x : SV} {u : Value} (h : Is ν x u) : OptP (fun n => ∃ t, u = .float n t ∧ (fzOf x = true → t ≠ 0)) (fOf x) := by cases x <;> first | exact h | trivial
theorem bOf_is {x : SV} {u : Value} (h : Is ν x u) : OptP (fun n => u = .bool n) (bOf x) := by cases x <;> first | exact h | trivial
theorem sOf_is {x : SV} {u : Value} (h : Is ν x u) : OptP (fun n => ∃ t, u = .str n t) (sOf x) := by cases x <;> first | exact h | trivial
theorem vOf_is {x : SV} {u : Value} (h : Is ν x u) : OptP (fun n => u = n) (vOf x) := by cases x <;> first | exact h | trivial
theorem liOf_is {x : SV} {u : Value} (h : Is ν x u) : OptP (fun n => ∃ q us k, u = .ref q ∧ (q, listO us k) ∈ ν ∧ IntsL n us) (liOf x) := by cases x <;> first | exact h | trivial
theorem lvOf_is {x : SV} {u : Value} (h : Is ν x u) : OptP (fun l => ∃ q k, u = .ref q ∧ (q, listO l k) ∈ ν) (lvOf x) := by cases x <;> first | exact ⟨_, h.2.choose, h.1, h.2.choose_spec⟩ | trivial
theorem tOf_is {x : SV} {u : Value} (h : Is ν x u) : OptP (fun n => ∃ q us, u = .ref q ∧ (q, tupO us) ∈ ν ∧ IsL ν n us) (tOf x) := by cases x <;> first | exact h | trivial
theorem lOf_is {x : SV} {u : Value} (h : Is ν x u) : OptP (fun n => ∃ q us k, u = .ref q ∧ (q, listO us k) ∈ ν ∧ IsL ν n us) (lOf x) := by cases x <;> first | exact h | trivial
theorem pOf_is {β : Type} {R : β → Prop} {k : SV → SV → Option β} {x : SV} {us : List Value} (h : IsL ν x us) (hk : ∀ a r u ur, us = u :: ur → Is ν a u → IsL ν r ur → OptP R (k a r)) : OptP R (pOf k x) := by
  cases x with
  | p a r => obtain ⟨u, ur, e, h1, h2⟩ := h; exact hk a r u ur e h1 h2
  | _ => trivial
theorem nlOf_is {x : SV} {us : List Value} (h : IsL ν x us) : OptP (fun _ => us = []) (nlOf x) := by cases x <;> first | exact h | trivial
theorem nth_is : ∀ {x : SV} {us : List Value} (n : Nat), IsL ν x us → OptP (fun y => ∃ u, us[n]? = some u ∧ Is ν y u) (nth x n)
  | .p _ _, _, 0, ⟨u, _, e, h, _⟩ => ⟨u, e ▸ rfl, h⟩
  | .p _ _, _, n + 1, ⟨_, _, e, _, h⟩ => e ▸ nth_is n h
  | .nl, _, _, _ => trivial
theorem IsL.length : ∀ {x : SV} {us : List Value}, IsL ν x us → us.length = len x
  | .p _ _, _, ⟨_, _, e, _, h⟩ => by rw [e]; exact congrArg (· + 1) (IsL.length h)
  | .nl, _, h => by cases h; rfl
@[elab_as_elim] theorem IsL.e1 {ν : Lg} {a : SV} {us : List Value} {C : List Value → Prop} (h : IsL ν (.p a .nl) us) (k : ∀ u1, Is ν a u1 → C [u1]) : C us := by
  obtain ⟨u, _, rfl, i, rfl⟩ := h
  exact k u i
@[elab_as_elim] theorem IsL.e2 {ν : Lg} {a b : SV} {us : List Value} {C : List Value → Prop} (h : IsL ν (.p a (.p b .nl)) us) (k : ∀ u1 u2, Is ν a u1 → Is ν b u2 → C [u1, u2]) : C us := by
  obtain ⟨u, r, rfl, i, h⟩ := h
  exact IsL.e1 (C := fun us => C (u :: us)) h fun u2 => k u u2 i
@[elab_as_elim] theorem IsL.e3 {ν : Lg} {a b c : SV} {us : List Value} {C : List Value → Prop} (h : IsL ν (.p a (.p b (.p c .nl))) us) (k : ∀ u1 u2 u3, Is ν a u1 → Is ν b u2 → Is ν c u3 → C [u1, u2, u3]) : C us := by
  obtain ⟨u, r, rfl, i, h⟩ := h
  exact IsL.e2 (C := fun us => C (u :: us)) h fun u2 u3 => k u u2 u3 i
@[elab_as_elim] theorem IsL.e4 {ν : Lg} {a b c d : SV} {us : List Value} {C : List Value → Prop} (h : IsL ν (.p a (.p b (.p c (.p d .nl)))) us) (k : ∀ u1 u2 u3 u4, Is ν a u1 → Is ν b u2 → Is ν c u3 → Is ν d u4 → C [u1, u2, u3, u4]) : C us := by
  obtain ⟨u, r, rfl, i, h⟩ := h
  exact IsL.e3 (C := fun us => C (u :: us)) h fun u2 u3 u4 => k u u2 u3 u4 i
@[elab_as_elim] theorem IsL.e5 {ν : Lg} {a b c d e : SV} {us : List Value} {C : List Value → Prop} (h : IsL ν (.p a (.p b (.p c (.p d (.p e .nl))))) us) (k : ∀ u1 u2 u3 u4 u5, Is ν a u1 → Is ν b u2 → Is ν c u3 → Is ν d u4 → Is ν e u5 → C [u1, u2, u3, u4, u5]) : C us := by
  obtain ⟨u, r, rfl, i, h⟩ := h
  exact IsL.e4 (C := fun us => C (u :: us)) h fun u2 u3 u4 u5 => k u u2 u3 u4 u5 i
@[elab_as_elim] theorem IsL.e6 {ν : Lg} {a b c d e f : SV} {us : List Value} {C : List Value → Prop} (h : IsL ν (.p a (.p b (.p c (.p d (.p e (.p f .nl)))))) us) (k : ∀ u1 u2 u3 u4 u5 u6, Is ν a u1 → Is ν b u2 → Is ν c u3 → Is ν d u4 → Is ν e u5 → Is ν f u6 → C [u1, u2, u3, u4, u5, u6]) : C us := by
  obtain ⟨u, r, rfl, i, h⟩ := h
  exact IsL.e5 (C := fun us => C (u :: us)) h fun u2 u3 u4 u5 u6 => k u u2 u3 u4 u5 u6 i
@[elab_as_elim] theorem mem_c {α : Type} {P : α → Prop} {p a : α} {l : List α} (h : p ∈ a :: l) (h1 : P a) (h2 : p ∈ l → P p) : P p := (List.mem_cons.mp h).elim (fun e => e ▸ h1) h2
@[elab_as_elim] theorem mem_1 {α : Type} {P : α → Prop} {p a : α} (h : p ∈ [a]) (h1 : P a) : P p := List.mem_singleton.mp h ▸ h1
@[elab_as_elim] theorem Is.ie {ν : Lg} {n : Int} {u : Value} {C : Value → Prop} (h : Is ν (.i n) u) (k : ∀ t, C (.int n t)) : C u := h.elim fun t e => e ▸ k t
@[elab_as_elim] theorem Is.te {ν : Lg} {x : SV} {u : Value} {C : Value → Prop} (h : Is ν (.t x) u) (k : ∀ q us, (q, tupO us) ∈ ν → IsL ν x us → C (.ref q)) : C u := h.elim fun q h => h.elim fun us h => h.1 ▸ k q us h.2.1 h.2.2
theorem IntsL.at : ∀ {l : List Int} {us : List Value} {n : Nat}, IntsL l us → n < l.length → ∃ t, us[n]? = some (.int (l.getD n 0) t)
  | _ :: _, _, 0, ⟨t, _, e, _⟩, _ => ⟨t, by rw [e]; rfl⟩
  | _ :: _, _, _ + 1, ⟨_, _, e, h⟩, hn => (IntsL.at h (Nat.lt_of_succ_lt_succ hn)).imp fun t q => e ▸ q
theorem IntsL.length : ∀ {l : List Int} {us : List Value}, IntsL l us → us.length = l.length
  | [], _, h => by cases h; rfl
  | _ :: _, _, ⟨_, _, e, h⟩ => by rw [e]; exact congrArg (· + 1) (IntsL.length h)
theorem IntsL.are : ∀ {l : List Int} {us : List Value}, IntsL l us → IntsAre us l
  | [], _, h => by cases h; exact .nil
  | _ :: _, _, ⟨t, _, e, h⟩ => by rw [e]; exact .cons _ t (IntsL.are h)
theorem IntsL.of : ∀ {l : List Int} {us : List Value}, IntsAre us l → IntsL l us
  | _, _, .nil => rfl
  | _, _, .cons _ t h => ⟨t, _, rfl, IntsL.of h⟩
end
noncomputable def binI (z : Bool) : Operator → Int → Int → R2
  | .Add, a, b => some (.i (a + b), [])
  | .Sub, a, b => some (.i (a - b), [])
  | .Mult, a, b => some (.i (a * b), [IntMulOk a b])
  | .Mod, a, b => some (.i (a.fmod b), [b ≠ 0])
  | .FloorDiv, a, b => some (.i (a.fdiv b), [b ≠ 0, b.natAbs < 1073741824])
  | .RShift, a, b => some (.i (a.fdiv (2 ^ b.toNat)), [0 ≤ b])
  | .LShift, a, b => some (.i (a * 2 ^ b.toNat), [0 ≤ b, (Builtin.Int.intBits a : Int) + b ≤ 2 ^ 27])
  | .BitAnd, a, b => some (.i (Builtin.bitAnd a b), [])
  | .BitOr, a, b => some (.i (Builtin.bitOr a b), [])
  | .BitXor, a, b => some (.i (Builtin.bitXor a b), [])
  | .Pow, a, b => some (.i (a ^ b.toNat), [0 ≤ b, (Builtin.Int.intBits a : Int) * b ≤ 2 ^ 27])
  | .Div, a, b => some (.f (Float64.ofFrac (decide (a < 0) != decide (b < 0)) a.natAbs b.natAbs) z, [a.natAbs < 2 ^ 1023, b ≠ 0])
  | _, _, _ => none
noncomputable def binF (z : Bool) : Operator → UInt64 → UInt64 → R2
  | .Add, a, b => some (.f (Float64.add a b) z, [])
  | .Sub, a, b => some (.f (Float64.sub a b) z, [])
  | .Mult, a, b => some (.f (Float64.mul a b) z, [])
  | .Div, a, b => some (.f (Float64.div a b) z, [Float64.isZero b = false])
  | .Mod, a, b => some (.f (Float64.divmod a b).2 z, [Float64.isZero b = false])
  | _, _, _ => none
noncomputable def binFI (z : Bool) : Operator → UInt64 → Int → R2
  | .Add, a, b => some (.f (Float64.add a (Float64.ofInt b)) z, [b.natAbs < 2 ^ 1024 - 2 ^ 970])
  | .Sub, a, b => some (.f (Float64.sub a (Float64.ofInt b)) z, [b.natAbs < 2 ^ 1024 - 2 ^ 970])
  | _, _, _ => none
noncomputable def binIF (z : Bool) : Operator → Int → UInt64 → R2
  | .Mult, a, b => some (.f (Float64.mul (Float64.ofInt a) b) z, [a.natAbs < 2 ^ 1024 - 2 ^ 970])
  | _, _, _ => none
/-- m dots -/
noncomputable def dots (m : Nat) : Str := ⟨(List.replicate m 46).toArray⟩
noncomputable def binS (op : Operator) (a : Str) (y : SV) : R2 := match op with
  | .Add => (sOf y).bind fun b => some (.s (a ++ b), [a.length + b.length ≤ sizeLine])
  | .Mult => (iOf y).bind fun n => some (.s (dots n.toNat), [a = Str.ofString ".", 1 ≤ n, n ≤ 100])
  | _ => none
/-- a number is made anew, a string maybe not -/
noncomputable def nzS : SV → Bool
  | .s _ => false
  | _ => true
noncomputable def bin (z : Bool) (op : Operator) (x y : SV) : R2 :=
  (((iOf x).bind fun a => ((iOf y).bind fun b => binI z op a b).or ((fOf y).bind fun b => binIF z op a b))).or
    (((fOf x).bind fun a => ((fOf y).bind fun b => binF z op a b).or ((iOf y).bind fun b => binFI z op a b)).or ((sOf x).bind fun a => binS op a y))
noncomputable def un : UnaryOp → SV → Option SV
  | .USub, x => (iOf x).bind fun a => some (.i (-a))
  | .Invert, x => (iOf x).bind fun a => some (.i (Builtin.bitNot a))
  | _, _ => none
noncomputable def cmpI : CmpOp → Int → Int → Option Bool
  | .Lt, a, b => some (decide (a < b))
  | .LtE, a, b => some (decide (a ≤ b))
  | .Gt, a, b => some (decide (b < a))
  | .GtE, a, b => some (decide (b ≤ a))
  | .Eq, a, b => some (a == b)
  | .NotEq, a, b => some (a != b)
  | _, _, _ => none
noncomputable def cmpF : CmpOp → UInt64 → UInt64 → Option Bool
  | .Eq, a, b => some (Float64.cmp a b == some .eq)
  | .Lt, a, b => some (Float64.cmp a b == some .lt)
  | .LtE, a, b => some (Float64.cmp a b == some .lt || Float64.cmp a b == some .eq)
  | _, _, _ => none
noncomputable def cmpT : CmpOp → Str → Str → Option Bool
  | .NotEq, a, b => some (a != b)
  | _, _, _ => none
noncomputable def isNoneV : SV → Option Bool
  | .v .none => some true
  | .v (.ref _) => some false
  | .i _ => some false
  | _ => none
noncomputable def cmpS : CmpOp → SV → SV → Option Bool
  | .Is, x, y => (vOf y).bind fun w => match w with
    | .none => isNoneV x
    | _ => none
  | .In, x, y => (iOf x).bind fun a => (liOf y).bind fun l => some (l.contains a)
  | op, x, y => ((iOf x).bind fun a => (iOf y).bind fun b => cmpI op a b).or (((fOf x).bind fun a => (fOf y).bind fun b => cmpF op a b).or ((sOf x).bind fun a => (sOf y).bind fun b => cmpT op a b))
noncomputable def selS (p : Bool) (x y : SV) : Option SV :=
  ((iOf x).bind fun a => (iOf y).bind fun b => some (.i (if p = true then a else b))).or ((fOf x).bind fun a => (fOf y).bind fun b => some (.f (if p = true then a else b) (fzOf x && fzOf y)))
noncomputable def truS (x : SV) : Option Bool := ((iOf x).bind fun a => some (a != 0)).or (bOf x)
noncomputable def noStar : List Expr → Bool
  | [] => true
  | .Starred _ _ :: _ => false
  | _ :: r => noStar r
noncomputable def okArgs (es : List Expr) : Bool := !es.isEmpty && noStar es
noncomputable def isSlice : Expr → Bool
  | .Slice _ _ _ _ => true
  | _ => false
noncomputable def itemS (x y : SV) : R2 := (iOf y).bind fun k =>
  ((tOf x).bind fun c => bif decide (0 ≤ k) && decide (k < 1000) then (nth c k.toNat).bind fun a => some (a, []) else none).or <| ((lOf x).bind fun c => bif decide (0 ≤ k) && decide (k < 1000) then (nth c k.toNat).bind fun a => some (a, []) else none).or
    (((liOf x).bind fun l => some (.i (l.getD k.toNat 0), [0 ≤ k ∧ k.toNat < l.length ∧ l.length ≤ 1048576])).or
      ((lvOf x).bind fun l => some (.v (l.getD k.toNat .none), [0 ≤ k ∧ k.toNat < l.length ∧ l.length ≤ 1048576])))
noncomputable def metS (m : Str) (x : SV) : Option SV := bif m == "bit_length" then (iOf x).bind fun a => some (.i (Builtin.Int.intBits a)) else none
noncomputable def evLs (ev : Bool → Expr → Rs) : Bool → List Expr → Rs
  | z, [] => some (.nl, z, [])
  | z, e :: r => bnd (ev z e) fun x z1 p => bnd (evLs ev z1 r) fun y z2 q => some (.p x y, z2, p ++ q)
noncomputable def allT (ts : Bool → Expr → Rb) (op : BoolOp) : Bool → List Expr → Rb
  | _, [] => none
  | z, e :: r => bnd (ts z e) fun x z1 p => match r.isEmpty with
    | true => some (x, false, p)
    | false => bnd (allT ts op z1 r) fun y _ q => match op with
      | .And => some (x && y, false, p ++ [x = true → All q])
      | .Or => some (x || y, false, p ++ [x = false → All q])
/-- one layer of an expression -/
noncomputable def evStep (Φ : Ora) (σ : Sg) (ev : Bool → Expr → Rs) (ts : Bool → Expr → Rb) (z : Bool) (e : Expr) : Rs := match e with
  | .Name x _ => (σ.lookup x).bind fun sv => bif isM sv then none else some (sv, z, [])
  | .Constant c _ _ => match c with
    | .int n => some (.i n, true, [])
    | .float x => some (.f x z, true, [])
    | .str x => some (.s x, true, [])
    | .none => some (.v .none, z, [])
    | _ => none
  | .BinOp l op r _ => bnd (ev z l) fun x z1 p => bnd (ev z1 r) fun y z2 q => bd2 (bin z2 op x y) fun u c => some (u, nzS u, p ++ (q ++ c))
  | .UnaryOp op x _ => bnd (ev z x) fun x _ p => (un op x).bind fun u => some (u, nzS u, p)
  | .Compare l [op] [r] _ => bif behindInMarks op r then none else bnd (ev z l) fun x z1 p => bnd (ev z1 r) fun y z2 q => (cmpS op x y).bind fun b => some (.b b, z2, p ++ q)
  | .IfExp t a b _ => bnd (ts z t) fun p z1 c => bnd (ev z1 a) fun x _ d => bnd (ev z1 b) fun y _ d' => (selS p x y).bind fun u => some (u, false, c ++ [p = true → All d, p = false → All d'])
  | .Subscript a k _ => bif isSlice k then none else bnd (ev z a) fun x z1 p => bnd (ev z1 k) fun y z2 q => bd2 (itemS x y) fun u c => some (u, z2, p ++ (q ++ c))
  | .Call (.Name f _) es [] _ => (Φ.lookup f).bind fun φ => bif okArgs es then bnd (evLs ev z es) fun x _ p => bd2 (φ σ x) fun u c => some (u, false, p ++ c) else none
  | .Call (.Attribute (.Name x q) m p) [] [] pos => bif p.endLine == pos.line then bnd (ev z (.Name x q)) fun x _ p => (metS m x).bind fun u => some (u, nzS u, p) else none
  | _ => none
/-- one layer of a test -/
noncomputable def tsStep (ev : Bool → Expr → Rs) (ts : Bool → Expr → Rb) (z : Bool) (e : Expr) : Rb := match e with
  | .Compare l [op] [r] _ => bif behindInMarks op r then none else bnd (ev z l) fun x z1 p => bnd (ev z1 r) fun y z2 q => (cmpS op x y).bind fun b => some (b, z2, p ++ q)
  | .BoolOp op vs _ => allT ts op z vs
  | .Name x p => bnd (ev z (.Name x p)) fun x z1 p => ((truS x).bind fun b => some (b, z1, p)).or ((liOf x).bind fun l => some (!l.isEmpty, true, p ++ [l.length < 2 ^ 63]))
  | .BinOp l op r p => bnd (ev z (.BinOp l op r p)) fun x z1 p => (truS x).bind fun b => some (b, z1, p)
  | _ => none
noncomputable def evT (Φ : Ora) (σ : Sg) : Nat → (Bool → Expr → Rs) × (Bool → Expr → Rb)
  | 0 => (fun _ _ => none, fun _ _ => none)
  | n + 1 => (evStep Φ σ (evT Φ σ n).1 (evT Φ σ n).2, tsStep (evT Φ σ n).1 (evT Φ σ n).2)
noncomputable abbrev ev (Φ : Ora) (σ : Sg) (z : Bool) (e : Expr) : Rs := (evT Φ σ 12).1 z e
noncomputable abbrev ts (Φ : Ora) (σ : Sg) (z : Bool) (e : Expr) : Rb := (evT Φ σ 12).2 z e
noncomputable abbrev evl (Φ : Ora) (σ : Sg) (z : Bool) (es : List Expr) : Rs := evLs (evT Φ σ 12).1 z es
end Mine
end
noncomputable section
open PySem PySem.W PyProof.Rows PySem.Spec PySem.Calls
namespace Mine
set_option genInjectivity false
set_option genSizeOf false
section
variable {w : World} {A : Around} {env : Env} {ν : Lg} {At : Bool → Shared → Prop} {σ : Sg} {Φ : Ora} {z : Bool} {s : Shared} {E Q : Value → Shared → Prop}
noncomputable abbrev PM (w : World) : Model := model PySem.Challenge.rw_uk0013_01.row.prog w
/-- the arguments of a call, told -/
noncomputable def ArgsAt (w : World) (A : Around) (env : Env) (ν : Lg) (At : Bool → Shared → Prop) (E : Value → Shared → Prop) (s : Shared) (es : List Expr) (pos : Pos) (x : SV) : Prop :=
  ∀ {Q : List Value → Shared → Prop}, (∀ us z s, At z s → IsL ν x us → Q us s) → wpAny (PM w) A (spliced (backTo pos (starEach es env))) Q E s
noncomputable def CalE (w : World) (A : Around) (env : Env) (ν : Lg) (At : Bool → Shared → Prop) (f : Str) (φ : SV → R2) : Prop :=
  ∀ es pos p x z s (E Q : Value → Shared → Prop), okArgs es = true → At z s → ArgsAt w A env ν At E s es pos x → OptP (fun r => All r.2 → (∀ u s, At false s → Is ν r.1 u → Q u s) → wpAny (PM w) A (eval (.Call (.Name f p) es [] pos) env) Q E s) (φ x)
/-- where expressions are looked at -/
structure EV (w : World) (A : Around) (env : Env) (ν : Lg) (At : Bool → Shared → Prop) (σ : Sg) (Φ : Ora) : Prop where
  han : A.handled = none
  weak : ∀ {z s}, At z s → At false s
  tick : ∀ {z s}, At z s → At true { s with toks := s.toks + 1 }
  nz : ∀ {s}, At true s → s.toks ≠ 0
  tok : ∀ {z s} tk, At z s → At false { s with toks := tk }
  new : ∀ {z s p}, At z s → p ∈ ν → s.heap.get? p.1 = some p.2
  loc : ∀ {x sv z s pos} {E Q : Value → Shared → Prop}, σ.lookup x = some sv → isM sv = false → At z s → (∀ u, Is ν sv u → Q u s) → wpAny (PM w) A (eval (.Name x pos) env) Q E s
  cal : ∀ {f φ}, Φ.lookup f = some φ → CalE w A env ν At f (φ σ)
/-- a value made, with a token or none -/
noncomputable def Made1 (ν : Lg) (At : Bool → Shared → Prop) (Q : Value → Shared → Prop) (x : SV) : Prop := ∀ u s, At (nzS x) s → Is ν x u → Q u s
noncomputable def BinP (w : World) (A : Around) (ν : Lg) (At : Bool → Shared → Prop) (op : Operator) (s : Shared) (E Q : Value → Shared → Prop) (u1 u2 : Value) (r : SV × List Prop) : Prop :=
  All r.2 → Made1 ν At Q r.1 → wpAny (PM w) A (binaryOp op u1 u2) Q E s
theorem binI_ok (V : EV w A env ν At σ Φ) (hs : At z s) (op : Operator) (a b : Int) (t t' : Tok) : OptP (BinP w A ν At op s E Q (.int a t) (.int b t')) (binI z op a b) := by
  have fin : ∀ {k}, Made1 ν At Q (.i k) → Q (.int k s.toks) { s with toks := s.toks + 1 } := fun h => h _ _ (V.tick hs) ⟨_, rfl⟩
  cases op with
  | Add => exact fun _ h => add_int (fin h)
  | Sub => exact fun _ h => sub_int (fin h)
  | Mult => exact fun hc h => mul_int (fin h) hc.1
  | Mod => exact fun hc h => PyProof.Rows.mod_int hc.1 (fin h)
  | FloorDiv => exact fun hc h => PyProof.Rows.floordiv_int hc.1 (fin h) (.inl (PyProof.noPylong_small hc.2.1))
  | RShift => exact fun hc h => rshift_int hc.1 (fin h)
  | LShift => exact fun hc h => lshift_int hc.1 hc.2.1 (fin h)
  | BitAnd => exact fun _ h => and_int (fin h)
  | BitOr => exact fun _ h => or_int (fin h)
  | BitXor => exact fun _ h => xor_int (fin h)
  | Pow => exact fun hc h => pow_int hc.1 hc.2.1 (fin h)
  | Div => exact fun hc h => Flt.div_ii_fits V.han hc.1 (fun e => absurd e hc.2.1) fun _ _ => h _ _ (V.tick hs) ⟨_, rfl, fun hz => V.nz (hz ▸ hs)⟩
  | _ => trivial
theorem binF_ok (V : EV w A env ν At σ Φ) (hs : At z s) (op : Operator) (a b : UInt64) (t t' : Tok) : OptP (BinP w A ν At op s E Q (.float a t) (.float b t')) (binF z op a b) := by
  have fin : ∀ {k}, Made1 ν At Q (.f k z) → Q (.float k s.toks) { s with toks := s.toks + 1 } := fun h => h _ _ (V.tick hs) ⟨_, rfl, fun hz => V.nz (hz ▸ hs)⟩
  cases op with
  | Add => exact fun _ h => add_float (fin h)
  | Sub => exact fun _ h => sub_float (fin h)
  | Mult => exact fun _ h => mul_float (fin h)
  | Div => exact fun hc h => truediv_float_or V.han (fun e => absurd (hc.1.symm.trans e) Bool.false_ne_true) fun _ => fin h
  | Mod => exact fun hc h => Flt.mod_ff V.han (fun e => absurd (hc.1.symm.trans e) Bool.false_ne_true) fun _ => fin h
  | _ => trivial
theorem binFI_ok (V : EV w A env ν At σ Φ) (hs : At z s) (op : Operator) (a : UInt64) (b : Int) (t t' : Tok) : OptP (BinP w A ν At op s E Q (.float a t) (.int b t')) (binFI z op a b) := by
  have fin : ∀ {k}, Made1 ν At Q (.f k z) → Q (.float k s.toks) { s with toks := s.toks + 1 } := fun h => h _ _ (V.tick hs) ⟨_, rfl, fun hz => V.nz (hz ▸ hs)⟩
  cases op with
  | Add => exact fun hc h => add_fi_sharp V.han (fun hx => absurd hx (Nat.not_le_of_lt hc.1)) fun _ => fin h
  | Sub => exact fun hc h => sub_fi_sharp V.han (fun hx => absurd hx (Nat.not_le_of_lt hc.1)) fun _ => fin h
  | _ => trivial
theorem binIF_ok (V : EV w A env ν At σ Φ) (hs : At z s) (op : Operator) (a : Int) (b : UInt64) (t t' : Tok) : OptP (BinP w A ν At op s E Q (.int a t) (.float b t')) (binIF z op a b) := by
  have fin : ∀ {k}, Made1 ν At Q (.f k z) → Q (.float k s.toks) { s with toks := s.toks + 1 } := fun h => h _ _ (V.tick hs) ⟨_, rfl, fun hz => V.nz (hz ▸ hs)⟩
  cases op with
  | Mult => exact fun hc h => mul_if_sharp V.han (fun hx => absurd hx (Nat.not_le_of_lt hc.1)) fun _ => fin h
  | _ => trivial
theorem fold_dots : ∀ (m : Nat) (acc : Array Nat), (List.replicate m (#[46] : Array Nat)).foldl (· ++ ·) acc = acc ++ (List.replicate m 46).toArray
  | 0, acc => (Array.append_empty ..).symm
  | m + 1, acc => by
    rw [List.replicate_succ, List.foldl_cons, fold_dots m, Array.append_assoc]
    exact congrArg (acc ++ ·) (List.append_toArray [46] (List.replicate m 46))
theorem dot_cps : (Str.ofString ".") = ⟨#[46]⟩ := by decide +kernel
/-- '.' * n -/
theorem mul_dot {t u : Tok} {n : Int} (h1 : 1 ≤ n) (h2 : n ≤ 100) (h : ∀ t' tk, Q (.str (dots n.toNat) t') { s with toks := tk }) : wpAny (PM w) A (binaryOp .Mult (.str (Str.ofString ".") t) (.int n u)) Q E s := by
  obtain ⟨m, rfl⟩ := Int.eq_ofNat_of_zero_le (Int.le_trans (by decide) h1)
  have h1 : 1 ≤ m := Int.ofNat_le.mp h1
  have h2 : m ≤ 100 := Int.ofNat_le.mp h2
  rw [dot_cps]
  refine PySem.P.mul_str (by simp; lia) (fun _ _ => ?_) (fun _ _ => ?_) ?_
  · have : (1 : Int) ≤ (2 ^ 63 - 1) / (m : Int) := by
      rw [Int.le_ediv_iff_mul_le (Int.natCast_pos.mpr h1)]; lia
    exact Int.not_lt.mpr this
  · rw [Int.toNat_natCast]
    show Builtin.Str.tooLong (1 * m) = false
    rw [Nat.one_mul]
    exact decide_eq_false (Nat.not_lt.mpr (Nat.le_trans h2 (by decide)))
  · rw [if_neg (show ¬ (m : Int) < 1 from Int.not_lt.mpr (Int.ofNat_le.mpr h1))]
    by_cases hm : m = 1
    · subst hm
      rw [if_pos (by decide)]
      exact h t _
    · rw [if_neg (by simp; exact ⟨by lia, by decide⟩), Int.toNat_natCast, fold_dots, Array.empty_append]
      refine ⟨?_, h _ _⟩
      show (List.replicate m 46).toArray.size ≤ sizeLine
      rw [List.size_toArray, List.length_replicate]
      exact Nat.le_trans h2 (by decide)
theorem binS_ok (V : EV w A env ν At σ Φ) (hs : At z s) (op : Operator) (a : Str) (t : Tok) {y : SV} {u2 : Value} (h2 : Is ν y u2) : OptP (BinP w A ν At op s E Q (.str a t) u2) (binS op a y) := by
  cases op with
  | Add =>
    refine .bind (sOf_is h2) fun b hb hc h => ?_
    obtain ⟨t', rfl⟩ := hb
    exact PyProof.Rows.add_str (fun t2 tk => h _ _ (V.tok tk hs) ⟨t2, rfl⟩) hc.1
  | Mult =>
    refine .bind (iOf_is h2) fun b hb hc h => ?_
    obtain ⟨t', rfl⟩ := hb
    obtain ⟨rfl, h1, h2, -⟩ := hc
    exact mul_dot h1 h2 fun t2 tk => h _ _ (V.tok tk hs) ⟨t2, rfl⟩
  | _ => trivial
theorem bin_ok (V : EV w A env ν At σ Φ) (hs : At z s) (op : Operator) {x y : SV} {u1 u2 : Value} (h1 : Is ν x u1) (h2 : Is ν y u2) : OptP (BinP w A ν At op s E Q u1 u2) (bin z op x y) := by
  refine .or (.bind (iOf_is h1) fun a ha => ?_) (.or (.bind (fOf_is h1) fun a ha => ?_) (.bind (sOf_is h1) fun a ha => ha.elim fun t e => e ▸ binS_ok V hs op a t h2))
  · obtain ⟨t, rfl⟩ := ha
    refine .or (.bind (iOf_is h2) fun b hb => ?_) (.bind (fOf_is h2) fun b hb => ?_)
    · obtain ⟨t', rfl⟩ := hb
      exact binI_ok V hs op a b t t'
    · obtain ⟨t', rfl, -⟩ := hb
      exact binIF_ok V hs op a b t t'
  · obtain ⟨t, rfl, -⟩ := ha
    refine .or (.bind (fOf_is h2) fun b hb => ?_) (.bind (iOf_is h2) fun b hb => ?_)
    · obtain ⟨t', rfl, -⟩ := hb
      exact binF_ok V hs op a b t t'
    · obtain ⟨t', rfl⟩ := hb
      exact binFI_ok V hs op a b t t'
theorem un_ok (V : EV w A env ν At σ Φ) (hs : At z s) (op : UnaryOp) {x : SV} {u1 : Value} (h1 : Is ν x u1) : OptP (fun r => Made1 ν At Q r → wpAny (PM w) A (unaryOp op u1) Q E s) (un op x) := by
  cases op with
  | USub =>
    refine .bind (iOf_is h1) fun a ha => ?_
    obtain ⟨t, rfl⟩ := ha
    exact fun h => P.neg_int (h _ _ (V.tick hs) ⟨_, rfl⟩)
  | Invert =>
    refine .bind (iOf_is h1) fun a ha => ?_
    obtain ⟨t, rfl⟩ := ha
    exact fun h => invert_int (h _ _ (V.tick hs) ⟨_, rfl⟩)
  | _ => trivial
theorem isNoneV_is {x : SV} {u : Value} (h : Is ν x u) : OptP (fun b => (u == Value.none) = b) (isNoneV x) := by
  cases x with
  | v w =>
    cases h
    cases u <;> first | rfl | trivial
  | i n => obtain ⟨t, rfl⟩ := h; rfl
  | _ => trivial
theorem cmp_ok (V : EV w A env ν At σ Φ) (hs : At z s) (op : CmpOp) {x y : SV} {u1 u2 : Value} (h1 : Is ν x u1) (h2 : Is ν y u2) : OptP (fun b => Q (.bool b) s → wpAny (PM w) A (compareOp op u1 u2) Q E s) (cmpS op x y) := by
  have gen : (∀ a b t t', u1 = .int a t → u2 = .int b t' → OptP (fun b => Q (.bool b) s → wpAny (PM w) A (compareOp op u1 u2) Q E s) (cmpI op a b)) → (∀ a b t t', u1 = .float a t → u2 = .float b t' → OptP (fun b => Q (.bool b) s → wpAny (PM w) A (compareOp op u1 u2) Q E s) (cmpF op a b)) → (∀ a b t t', u1 = .str a t → u2 = .str b t' → OptP (fun b => Q (.bool b) s → wpAny (PM w) A (compareOp op u1 u2) Q E s) (cmpT op a b)) →
      OptP (fun b => Q (.bool b) s → wpAny (PM w) A (compareOp op u1 u2) Q E s) (((iOf x).bind fun a => (iOf y).bind fun b => cmpI op a b).or (((fOf x).bind fun a => (fOf y).bind fun b => cmpF op a b).or ((sOf x).bind fun a => (sOf y).bind fun b => cmpT op a b))) := fun g1 g2 g3 => by
    refine .or (.bind (iOf_is h1) fun a ha => .bind (iOf_is h2) fun b hb => ?_) (.or (.bind (fOf_is h1) fun a ha => .bind (fOf_is h2) fun b hb => ?_) (.bind (sOf_is h1) fun a ⟨t, e⟩ => .bind (sOf_is h2) fun b ⟨t', e'⟩ => g3 a b t t' e e'))
    · obtain ⟨t, e⟩ := ha
      obtain ⟨t', e'⟩ := hb
      exact g1 a b t t' e e'
    · obtain ⟨t, e, -⟩ := ha
      obtain ⟨t', e', -⟩ := hb
      exact g2 a b t t' e e'
  cases op with
  | Lt => exact gen (fun a b t t' e e' => e ▸ e' ▸ fun h => PyProof.Rows.lt_int h) (fun a b t t' e e' => e ▸ e' ▸ fun h => AutoFloatOps.lt_0 h) fun _ _ _ _ _ _ => trivial
  | LtE => exact gen (fun a b t t' e e' => e ▸ e' ▸ fun h => PyProof.Rows.le_int h) (fun a b t t' e e' => e ▸ e' ▸ fun h => AutoFloatOps.le_0 h) fun _ _ _ _ _ _ => trivial
  | Gt => exact gen (fun a b t t' e e' => e ▸ e' ▸ fun h => PyProof.Rows.gt_int h) (fun a b t t' e e' => trivial) fun _ _ _ _ _ _ => trivial
  | GtE => exact gen (fun a b t t' e e' => e ▸ e' ▸ fun h => PyProof.Rows.ge_int h) (fun a b t t' e e' => trivial) fun _ _ _ _ _ _ => trivial
  | Eq => exact gen (fun a b t t' e e' => e ▸ e' ▸ fun h => PyProof.Rows.eq_int h) (fun a b t t' e e' => e ▸ e' ▸ fun h => AutoFloatOps.eq_0 h) fun _ _ _ _ _ _ => trivial
  | NotEq => exact gen (fun a b t t' e e' => e ▸ e' ▸ fun h => PyProof.Rows.ne_int h) (fun a b t t' e e' => trivial) fun a b t t' e e' => e ▸ e' ▸ fun h => PyProof.Rows.ne_str h
  | Is =>
    refine .bind (vOf_is h2) fun c hb => ?_
    cases hb
    cases u2 with
    | none =>
      have h := isNoneV_is h1
      show OptP _ (isNoneV x)
      cases e : isNoneV x with
      | none => trivial
      | some b =>
        rw [e] at h
        exact fun hq => is_none ((show (u1 == Value.none) = b from h).symm ▸ hq)
    | _ => trivial
  | In =>
    refine .bind (iOf_is h1) fun a ha => .bind (liOf_is h2) fun l hl => ?_
    obtain ⟨t, rfl⟩ := ha
    obtain ⟨q, us, k, rfl, hm, hi⟩ := hl
    refine fun hq => in_list_ints ⟨_, V.new hs hm, rfl, k, rfl⟩ hi.are ?_
    have e : (l.any fun b => b == a) = l.contains a := by
      rw [← List.any_beq]
      exact congrArg (List.any l) (funext fun b => Bool.beq_comm)
    rw [e]
    exact hq
  | _ => exact gen (fun _ _ _ _ _ _ => trivial) (fun _ _ _ _ _ _ => trivial) fun _ _ _ _ _ _ => trivial
theorem iOf_some {x : SV} : OptP (fun n => x = .i n) (iOf x) := by cases x <;> first | rfl | trivial
theorem fOf_some {x : SV} : OptP (fun n => x = .f n (fzOf x)) (fOf x) := by cases x <;> first | rfl | trivial
theorem sel_ok {x y : SV} {p : Bool} : OptP (fun r => (p = true → ∀ u, Is ν x u → Is ν r u) ∧ (p = false → ∀ u, Is ν y u → Is ν r u)) (selS p x y) := by
  refine .or (.bind iOf_some fun a ha => .bind iOf_some fun b hb => ?_) (.bind fOf_some fun a ha => .bind fOf_some fun b hb => ?_)
  · rw [ha, hb]
    exact ⟨fun e u h => by rw [if_pos e]; exact h, fun e u h => by rw [if_neg (Bool.eq_false_iff.mp e)]; exact h⟩
  · generalize fzOf x = z1 at ha
    generalize fzOf y = z2 at hb
    rw [ha, hb]
    exact ⟨fun e u h => by rw [if_pos e]; exact h.imp fun t q => ⟨q.1, fun z => q.2 ((Bool.and_eq_true _ _).mp z).1⟩, fun e u h => by rw [if_neg (Bool.eq_false_iff.mp e)]; exact h.imp fun t q => ⟨q.1, fun z => q.2 ((Bool.and_eq_true _ _).mp z).2⟩⟩
theorem tru_ok {x : SV} {u : Value} {Q : Bool → Shared → Prop} (h1 : Is ν x u) : OptP (fun b => Q b s → wpAny (PM w) A (truthy u) Q E s) (truS x) := by
  refine .or (.bind (iOf_is h1) fun a ha => ?_) (.mono (bOf_is h1) fun b hb => ?_)
  · obtain ⟨t, rfl⟩ := ha
    exact fun h => P.truthy_int h
  · cases hb
    exact fun h => wpAny_truthy_bool h
theorem plain_slice {e : Expr} {o i : Value} (h : isSlice e = false) : subscripted e false o i = operate [o, i] (getItem o i) := by
  cases e <;> first | rfl | cases h
theorem idx_lt {k : Int} {n : Nat} (h : 0 ≤ k ∧ k.toNat < n ∧ n ≤ 1048576) : k < 2 ^ 63 := by
  rw [← Int.toNat_of_nonneg h.1]
  exact Int.lt_of_lt_of_le (Int.ofNat_lt.mpr (Nat.lt_of_lt_of_le h.2.1 h.2.2)) (by decide)
theorem item_ok (V : EV w A env ν At σ Φ) (hs : At z s) {value slice : Expr} {x y : SV} {u1 u2 : Value} (h1 : Is ν x u1) (h2 : Is ν y u2) (hsl : isSlice slice = false) : OptP (fun r => All r.2 → (∀ u, Is ν r.1 u → Q u s) → wpAny (PM w) A (subscriptTail value slice u1 u2) Q E s) (itemS x y) := by
  refine .bind (iOf_is h2) fun k hk => ?_
  obtain ⟨t, rfl⟩ := hk
  refine .or (.bind (tOf_is h1) fun c hc => .ite fun hb => ?_) (.or (.bind (lOf_is h1) fun c hc => .ite fun hb => ?_) (.or (.bind (liOf_is h1) fun l hl hc h => ?_) (.bind (lvOf_is h1) fun l hl hc h => ?_)))
  · obtain ⟨q, us, rfl, hm, hu⟩ := hc
    obtain ⟨h0, hlt⟩ := (Bool.and_eq_true _ _).mp hb
    obtain ⟨n, rfl⟩ := Int.eq_ofNat_of_zero_le (of_decide_eq_true h0)
    refine .bind (nth_is n hu) fun a ha _ h => ?_
    obtain ⟨u, e, hu⟩ := ha
    refine item_tupleT (j := n) ⟨_, V.new hs hm, rfl, _, rfl⟩ (Int.le_trans (by decide) (of_decide_eq_true h0)) (Int.lt_trans (of_decide_eq_true hlt) (by decide)) ?_ e (h u hu) (plain_slice hsl)
    have hj : n < us.length := (List.getElem?_eq_some_iff.mp e).1
    unfold seqIndex?
    dsimp only
    rw [if_neg (Int.not_lt.mpr (of_decide_eq_true h0)), if_pos]
    · rfl
    · exact (Bool.and_eq_true _ _).mpr ⟨h0, decide_eq_true (Int.ofNat_lt.mpr hj)⟩
  · obtain ⟨q, us, m, rfl, hm, hu⟩ := hc
    obtain ⟨h0, hlt⟩ := (Bool.and_eq_true _ _).mp hb
    obtain ⟨n, rfl⟩ := Int.eq_ofNat_of_zero_le (of_decide_eq_true h0)
    refine .bind (nth_is n hu) fun a ha _ h => ?_
    obtain ⟨u, e, hu⟩ := ha
    exact item_litK ⟨_, V.new hs hm, rfl, m, rfl⟩ (of_decide_eq_true h0) (Int.lt_trans (of_decide_eq_true hlt) (by decide)) e (h u hu) (plain_slice hsl)
  · obtain ⟨q, us, n, rfl, hm, hu⟩ := hl
    obtain ⟨t', e⟩ := hu.at hc.1.2.1
    exact item_litK ⟨_, V.new hs hm, rfl, n, rfl⟩ hc.1.1 (idx_lt hc.1) e (h _ ⟨t', rfl⟩) (plain_slice hsl)
  · obtain ⟨q, n, rfl, hm⟩ := hl
    exact item_litK ⟨_, V.new hs hm, rfl, n, rfl⟩ hc.1.1 (idx_lt hc.1) (by rw [List.getD_eq_getElem?_getD, List.getElem?_eq_getElem hc.1.2.1]; rfl) (h _ rfl) (plain_slice hsl)
theorem met_ok (V : EV w A env ν At σ Φ) (hs : At z s) {m : Str} {pos : Pos} {sv : SV} {u : Value} (hu : Is ν sv u) : OptP (fun r => Made1 ν At Q r → MethodOnS PySem.Challenge.rw_uk0013_01.row.prog w A E m u pos [] Q s) (metS m sv) := by
  unfold metS
  refine .ite fun hm => .bind (iOf_is hu) fun a ha => ?_
  obtain ⟨t, rfl⟩ := ha
  cases eq_of_beq hm
  exact fun h => ⟨"int", "int.bit_length", F.plainAttrs_int, F.slot_int_bit_length, F.type_int_bit_length, typeIs_int _ _ _, (fun _ e => nomatch e), method0_gives F.slot_int_bit_length F.entry_int_bit_length (typeIs_int _ _ _) (F.args_int_bit_length_1 _) (AutoIntG2.int_bit_length_int_0 a t) (h _ _ (V.tick hs) ⟨_, rfl⟩)⟩
theorem OptP.bif {α : Type} {P : α → Prop} {b : Bool} {o : Option α} (h : b = false → OptP P o) : OptP P (bif b then none else o) := by
  cases b with
  | false => exact h rfl
  | true => trivial
noncomputable def EvP (w : World) (A : Around) (env : Env) (ν : Lg) (At : Bool → Shared → Prop) (z : Bool) (e : Expr) (r : SV × Bool × List Prop) : Prop :=
  All r.2.2 → ∀ {s E Q}, At z s → (∀ u s, At r.2.1 s → Is ν r.1 u → Q u s) → wpAny (PM w) A (eval e env) Q E s
noncomputable def TsP (w : World) (A : Around) (env : Env) (At : Bool → Shared → Prop) (z : Bool) (m : Sem Bool) (r : Bool × Bool × List Prop) : Prop :=
  All r.2.2 → ∀ {s E} {Q : Bool → Shared → Prop}, At z s → (∀ s, At r.2.1 s → Q r.1 s) → wpAny (PM w) A m Q E s
noncomputable abbrev EvOK (w : World) (A : Around) (env : Env) (ν : Lg) (At : Bool → Shared → Prop) (ev : Bool → Expr → Rs) : Prop := ∀ z e, OptP (EvP w A env ν At z e) (ev z e)
noncomputable abbrev TsOK (w : World) (A : Around) (env : Env) (At : Bool → Shared → Prop) (ts : Bool → Expr → Rb) : Prop := ∀ z e, OptP (TsP w A env At z (isTrue e env (eval e env))) (ts z e)
theorem star_cons {e : Expr} {r : List Expr} (h : noStar (e :: r) = true) : starEach (e :: r) env = (false, eval e env) :: starEach r env ∧ noStar r = true := by
  cases e <;> first | exact ⟨rfl, h⟩ | cases h
theorem evl_ok {ev : Bool → Expr → Rs} (O : EvOK w A env ν At ev) {p : Pos} : ∀ (es : List Expr) (z : Bool), noStar es = true → OptP (fun r => All r.2.2 → ∀ {s E} {Q : List Value → Shared → Prop}, At z s → (∀ us s, At r.2.1 s → IsL ν r.1 us → Q us s) → wpAny (PM w) A (spliced (backTo p (starEach es env))) Q E s) (evLs ev z es)
  | [], _, _ => fun _ _ _ _ hs h => spliced_none (h _ _ hs rfl)
  | e :: r, z, hn => .bnd (O z e) fun x z1 p hx => .bnd (evl_ok O r z1 (star_cons (env := env) hn).2) fun y z2 q hy hc s E Q hs h =>
    spliced_more (hx hc.left hs fun u s1 hs1 i1 => hy hc.right hs1 fun us s2 hs2 i2 => h _ _ hs2 ⟨u, us, rfl, i1, i2⟩) (star_cons hn).1
theorem allT_and (V : EV w A env ν At σ Φ) {ts : Bool → Expr → Rb} (O : TsOK w A env At ts) : ∀ (vs : List Expr) (z : Bool), OptP (TsP w A env At z (allTrue .And vs env)) (allT ts .And z vs)
  | [], _ => trivial
  | [e], z => .bnd (O z e) fun x z1 p hx hc s E Q hs h => wpAny_allTrue_And_cons (hx hc hs fun s1 hs1 => by
    cases x with
    | false => exact h _ (V.weak hs1)
    | true => exact wpAny_allTrue_And_nil (h _ (V.weak hs1)))
  | e :: e' :: r, z => .bnd (O z e) fun x z1 p hx => .bnd (allT_and V O (e' :: r) z1) fun y z2 q hy hc s E Q hs h => wpAny_allTrue_And_cons (hx hc.left hs fun s1 hs1 => by
    cases x with
    | false => exact h _ (V.weak hs1)
    | true => exact hy (hc.right.1 rfl) hs1 fun s2 hs2 => h _ (V.weak hs2))
theorem allT_or (V : EV w A env ν At σ Φ) {ts : Bool → Expr → Rb} (O : TsOK w A env At ts) : ∀ (vs : List Expr) (z : Bool), OptP (TsP w A env At z (allTrue .Or vs env)) (allT ts .Or z vs)
  | [], _ => trivial
  | [e], z => .bnd (O z e) fun x z1 p hx hc s E Q hs h => wpAny_allTrue_Or_cons (hx hc hs fun s1 hs1 => by
    cases x with
    | true => exact h _ (V.weak hs1)
    | false => exact wpAny_allTrue_Or_nil (h _ (V.weak hs1)))
  | e :: e' :: r, z => .bnd (O z e) fun x z1 p hx => .bnd (allT_or V O (e' :: r) z1) fun y z2 q hy hc s E Q hs h => wpAny_allTrue_Or_cons (hx hc.left hs fun s1 hs1 => by
    cases x with
    | true => exact h _ (V.weak hs1)
    | false => exact hy (hc.right.1 rfl) hs1 fun s2 hs2 => h _ (V.weak hs2))
theorem evStep_ok (V : EV w A env ν At σ Φ) {ev : Bool → Expr → Rs} {ts : Bool → Expr → Rb} (O : EvOK w A env ν At ev) (T : TsOK w A env At ts) : EvOK w A env ν At (evStep Φ σ ev ts) := by
  intro z e
  cases e with
  | Name x pos => exact .bind' fun sv hl => .bif fun hm _ s E Q hs h => V.loc hl hm hs fun u hu => h u s hs hu
  | Constant cc k pos =>
    cases cc with
    | int n => exact fun _ s E Q hs h => wpAny_Constant_int (h _ _ (V.tick hs) ⟨_, rfl⟩)
    | float x => exact fun _ s E Q hs h => AutoFloatOps.wpAny_Constant_float (h _ _ (V.tick hs) ⟨_, rfl, fun hz => V.nz (hz ▸ hs)⟩)
    | str x => exact fun _ s E Q hs h => wpAny_Constant_str (h _ _ (V.tick hs) ⟨_, rfl⟩)
    | none => exact fun _ s E Q hs h => wpAny_Constant_none (h _ _ hs rfl)
    | _ => trivial
  | BinOp l op r pos => exact .bnd (O z l) fun x z1 p hx => .bnd (O z1 r) fun y z2 q hy => .bd2 fun u c hb hc s E Q hs h => wpAny_BinOp (hx hc.left hs fun u1 s1 hs1 i1 => hy hc.right.left hs1 fun u2 s2 hs2 i2 => (bin_ok V hs2 op i1 i2).get hb hc.right.right h)
  | UnaryOp op x pos => exact .bnd (O z x) fun x z1 p hx => .bind' fun u hb hc s E Q hs h => wpAny_UnaryOp (hx hc hs fun u1 s1 hs1 i1 => (un_ok V hs1 op i1).get hb h)
  | IfExp t a b pos =>
    refine .bnd (T z t) fun p z1 c hp => .bnd (O z1 a) fun x z2 d hx => .bnd (O z1 b) fun y z3 d' hy => .bind' fun u hb hc s E Q hs h => wpAny_IfExp (hp hc.left hs fun s1 hs1 => ?_)
    have hk := (sel_ok (ν := ν)).get hb
    cases p with
    | true => exact hx (hc.right.1 rfl) hs1 fun u s' hs' hu => h u s' (V.weak hs') (hk.1 rfl _ hu)
    | false => exact hy (hc.right.2.1 rfl) hs1 fun u s' hs' hu => h u s' (V.weak hs') (hk.2 rfl _ hu)
  | Subscript a k pos => exact .bif fun hsl => .bnd (O z a) fun x z1 p hx => .bnd (O z1 k) fun y z2 q hy => .bd2 fun u c hb hc s E Q hs h => Subscript_ (hx hc.left hs fun u1 s1 hs1 i1 => hy hc.right.left hs1 fun u2 s2 hs2 i2 => (item_ok V hs2 i1 i2 hsl).get hb hc.right.right fun u hu => h u _ hs2 hu)
  | Compare l ops rs pos =>
    match ops, rs with
    | [op], [r] => exact .bif fun hm => .bnd (O z l) fun x z1 p hx => .bnd (O z1 r) fun y z2 q hy => .bind' fun u hb hc s E Q hs h => wpAny_Compare1 (hx hc.left hs fun u1 s1 hs1 i1 => hy hc.right hs1 fun u2 s2 hs2 i2 => (cmp_ok V hs2 op i1 i2).get hb (h _ _ hs2 rfl)) hm
    | [], _ => trivial
    | _ :: _ :: _, _ => trivial
    | [_], [] => trivial
    | [_], _ :: _ :: _ => trivial
  | Call f es kw pos =>
    cases f with
    | Name f p =>
      cases kw with
      | cons a b => trivial
      | nil => exact .bind' fun φ hl => .ite fun hn => .bnd (evl_ok O (p := pos) es z ((Bool.and_eq_true _ _).mp hn).2) fun x z1 p hx => .bd2 fun u c hf hc s E Q hs h => (V.cal hl es pos _ x z s E Q hn hs fun hq => hx hc.left hs fun us s' hs' hu => hq us _ s' hs' hu).get hf hc.right h
    | Attribute o m p =>
      cases o with
      | Name x q =>
        cases es with
        | cons a b => trivial
        | nil =>
          cases kw with
          | cons a b => trivial
          | nil => exact .ite fun hl => .bnd (O z (.Name x q)) fun x z1 p hx => .bind' fun u hb hc s E Q hs h => Call_method0 rfl hl (hx hc hs fun u1 s1 hs1 i1 => (met_ok V hs1 i1).get hb h)
      | _ => trivial
    | _ => trivial
  | _ => trivial
theorem tsStep_ok (V : EV w A env ν At σ Φ) {ev : Bool → Expr → Rs} {ts : Bool → Expr → Rb} (O : EvOK w A env ν At ev) (T : TsOK w A env At ts) : TsOK w A env At (tsStep ev ts) := by
  intro z e
  have val : ∀ {e : Expr}, (isTrue e env (eval e env) = (do let v ← eval e env; standAt e.pos; holding [v] (truthy v))) → OptP (TsP w A env At z (isTrue e env (eval e env))) (bnd (ev z e) fun x z1 p => (truS x).bind fun b => some (b, z1, p)) := fun {e} hi =>
    .bnd (O z e) fun x z1 p hx => .bind' fun b hb hc s E Q hs h => wpAny_isTrue_value (hx hc hs fun u1 s1 hs1 i1 => (tru_ok i1).get hb (h _ hs1)) hi
  cases e with
  | Name x p =>
    refine .bnd (O z (.Name x p)) fun x z1 p hx => .or (.bind' fun b hb hc s E Q hs h => wpAny_isTrue_value (hx hc hs fun u1 s1 hs1 i1 => (tru_ok i1).get hb (h _ hs1)) rfl) (.bind' fun l hb hc s E Q hs h => wpAny_isTrue_value (hx hc.left hs fun u1 s1 hs1 i1 => ?_) rfl)
    obtain ⟨q, us, n, rfl, hm, hi⟩ := (liOf_is i1).get hb
    refine wpAny_truthy_list ⟨_, V.new hs1 hm, rfl, n, rfl⟩ (by rw [List.size_toArray, hi.length]; exact Int.ofNat_lt.mpr hc.right.1) ?_
    have e : (!us.toArray.isEmpty) = !l.isEmpty := by
      rw [List.isEmpty_toArray]
      cases l with
      | nil => cases hi; rfl
      | cons a r => obtain ⟨t, ur, e, -⟩ := hi; rw [e]; rfl
    exact e ▸ h _ (V.tick (V.tick hs1))
  | BinOp l op r p => exact val rfl
  | BoolOp op vs pos =>
    cases op with
    | And => exact (allT_and V T vs z).mono fun x hx hc s E Q hs h => wpAny_isTrue_BoolOp (hx hc hs h)
    | Or => exact (allT_or V T vs z).mono fun x hx hc s E Q hs h => wpAny_isTrue_BoolOp (hx hc hs h)
  | Compare l ops rs pos =>
    match ops, rs with
    | [op], [r] => exact .bif fun hm => .bnd (O z l) fun x z1 p hx => .bnd (O z1 r) fun y z2 q hy => .bind' fun u hb hc s E Q hs h => wpAny_isTrue_Compare1 (hx hc.left hs fun u1 s1 hs1 i1 => hy hc.right hs1 fun u2 s2 hs2 i2 => (cmp_ok V hs2 op i1 i2).get hb (wpAny_truthy_bool (h _ hs2))) hm
    | [], _ => trivial
    | _ :: _ :: _, _ => trivial
    | [_], [] => trivial
    | [_], _ :: _ :: _ => trivial
  | _ => trivial
theorem evT_ok (V : EV w A env ν At σ Φ) : ∀ n, EvOK w A env ν At (evT Φ σ n).1 ∧ TsOK w A env At (evT Φ σ n).2
  | 0 => ⟨fun _ _ => trivial, fun _ _ => trivial⟩
  | n + 1 => ⟨evStep_ok V (evT_ok V n).1 (evT_ok V n).2, tsStep_ok V (evT_ok V n).1 (evT_ok V n).2⟩
theorem ev_ok (V : EV w A env ν At σ Φ) {e : Expr} {sv : SV} {z' : Bool} {c : List Prop} (h : ev Φ σ z e = some (sv, z', c)) (hc : All c) (hs : At z s) (hq : ∀ u s, At z' s → Is ν sv u → Q u s) : wpAny (PM w) A (eval e env) Q E s := ((evT_ok V 12).1 z e).get h hc hs hq
theorem ts_ok (V : EV w A env ν At σ Φ) {e : Expr} {b z' : Bool} {c : List Prop} {Q : Bool → Shared → Prop} (h : ts Φ σ z e = some (b, z', c)) (hc : All c) (hs : At z s) (hq : ∀ s, At z' s → Q b s) : wpAny (PM w) A (isTrue e env (eval e env)) Q E s := ((evT_ok V 12).2 z e).get h hc hs hq
theorem el_ok (V : EV w A env ν At σ Φ) {p : Pos} {es : List Expr} {sv : SV} {z' : Bool} {c : List Prop} {Q : List Value → Shared → Prop} (hn : noStar es = true) (h : evl Φ σ z es = some (sv, z', c)) (hc : All c) (hs : At z s) (hq : ∀ us s, At z' s → IsL ν sv us → Q us s) : wpAny (PM w) A (spliced (backTo p (starEach es env))) Q E s := (evl_ok (evT_ok V 12).1 es z hn).get h hc hs hq
end
end Mine
end
noncomputable section
open PySem PySem.W PyProof.Rows PySem.Spec PySem.Calls
namespace Mine
section
variable {prog : Program} {w : World} {A : Around} {E : Value → Shared → Prop} {s : Shared} {h₀ : Heap} {L : Addr} {m : Str → Option Value} {env : Env}
/-- a place where ways meet -/
noncomputable def Cut (h₀ : Heap) (L : Addr) (J : (Str → Option Value) → List (Addr × Obj) → Prop) (s : Shared) (f : Flow) (s' : Shared) : Prop :=
  f = .next ∧ ∃ h' tk' m news, s' = { s with heap := h', toks := tk' } ∧ Fr h₀ L h' m ∧ News h₀ L h' news ∧ J m news
theorem Cut.of {J : (Str → Option Value) → List (Addr × Obj) → Prop} {h' : Heap} {tk' : Nat} {m : Str → Option Value} {news big : List (Addr × Obj)} (F : Fr h₀ L h' m) (N : News h₀ L h' big) (hs : ∀ p ∈ news, p ∈ big) (j : J m news) :
    Cut h₀ L J s .next { s with heap := h', toks := tk' } := ⟨rfl, h', tk', m, news, rfl, F, fun p hp => N p (hs p hp), j⟩
end
/-- where a colour lies by hue -/
noncomputable def placeF (r g b : Int) : Int := if g ≤ r then Int.fdiv (420 * (g - b)) ((if 1 > r - b then 1 else r - b)) else 840 - Int.fdiv (420 * (r - b)) (g - b)
end Mine
end
noncomputable section
open PySem PySem.W PyProof.Rows PySem.Spec PySem.Calls
namespace Mine
set_option genInjectivity false
set_option genSizeOf false
/-- a function's frame, its variable parts in one; fz: what lies still while a loop's body runs -/
structure PC where
  w : World
  A : Around
  cn : Str
  L : Addr
  a : Addr
  ccd : Value
  cl : List (Str × Addr)
  ow : List (Str × Addr)
  g : Heap
  fc : Lg
  fz : Lg
noncomputable abbrev PC.wz (K : PC) (q : Lg) : PC := { K with fz := q }
noncomputable abbrev PC.env (K : PC) (sc : Scope) : Env := envX K.cn sc K.L K.a K.ccd K.cl
noncomputable abbrev PC.hid (K : PC) : List Addr := K.ow.map (·.2) ++ K.fz.map (·.1)
noncomputable def PC.okz (K : PC) (q : Lg) : Prop := (K.wz q).hid.Nodup ∧ ∀ p ∈ K.fc, p ∈ q
noncomputable def isK (sc : Scope) (k : NameKind) (x : Str) : Bool := sc.names.lookup x == some k && x != ("__debug__" : Str)
noncomputable abbrev isLoc (sc : Scope) (x : Str) : Bool := isK sc .local x
noncomputable abbrev isCel (sc : Scope) (x : Str) : Bool := isK sc .cell x
noncomputable abbrev isFre (sc : Scope) (x : Str) : Bool := isK sc .free x && x != ("__classdict__" : Str)
noncomputable abbrev isGlo (sc : Scope) (x : Str) : Bool := isK sc .globalImplicit x
theorem isK_of {sc : Scope} {k : NameKind} {x : Str} (h : isK sc k x = true) : sc.names.lookup x = some k ∧ (x == ("__debug__" : Str)) = false :=
  ⟨eq_of_beq ((Bool.and_eq_true _ _).mp h).1, (Bool.not_eq_true' _).mp ((Bool.and_eq_true _ _).mp h).2⟩
/-- what lies under a frame -/
inductive UpP (K : PC) (sc : Scope) (lv : Nat) : Prop
  | mk (p : Program) (loose : List Str) (mean : ExcName → Option Value) (mg mb : Str → Option Value) (dp un : Nat) (gd : Option (List Code)) (outer : List Env) (A₀ : Around) (base : Heap) : K.A = ktrTop dp un gd K.cn sc K.L K.a K.ccd K.cl outer → Below A₀ base outer K.g → (hd.heap_39 K.w.params).In K.g → Top p loose mean mg mb K.g → dp + 10 * lv < recursionLimit → un + 100 * lv < cLine → UpP K sc lv
theorem UpP.wz {K : PC} {sc : Scope} {lv : Nat} {q : Lg} (h : UpP K sc lv) : UpP (K.wz q) sc lv := by
  obtain ⟨p, loose, mean, mg, mb, dp, un, gd, outer, A₀, base, a, b, c, d, e, f⟩ := h
  exact ⟨p, loose, mean, mg, mb, dp, un, gd, outer, A₀, base, a, b, c, d, e, f⟩
/-- what stands in a frame: lv the levels of calls left -/
structure PGood (K : PC) (sc : Scope) (lv : Nat) : Prop where
  kind : sc.kind = .function
  nd : K.hid.Nodup
  fcz : ∀ p ∈ K.fc, p ∈ K.fz
  ndn : (K.ow.map (·.1)).Nodup
  cw : ∀ x c, K.ow.lookup x = some c → K.cl.lookup x = some c
  up : UpP K sc lv
theorem PGood.han {K : PC} {sc : Scope} {lv : Nat} (G : PGood K sc lv) : K.A.handled = none := by
  obtain ⟨p, loose, mean, mg, mb, dp, un, gd, outer, A₀, base, e, -⟩ := G.up
  rw [e]
theorem PGood.el {K : PC} {sc : Scope} {lv : Nat} {P : Prop} (G : PGood K sc lv) (k : ∀ (p : Program) (loose : List Str) (mean : ExcName → Option Value) (mg mb : Str → Option Value) (dp un : Nat) (gd : Option (List Code)) (outer : List Env) (A₀ : Around) (base : Heap), K.A = ktrTop dp un gd K.cn sc K.L K.a K.ccd K.cl outer → Below A₀ base outer K.g → (hd.heap_39 K.w.params).In K.g → Top p loose mean mg mb K.g → dp + 10 * lv < recursionLimit → un + 100 * lv < cLine → P) : P := by
  obtain ⟨p, loose, mean, mg, mb, dp, un, gd, outer, A₀, base, eA, B, X, T, h1, h2⟩ := G.up
  exact k p loose mean mg mb dp un gd outer A₀ base eA B X T h1 h2
theorem PGood.xt {K : PC} {sc : Scope} {lv : Nat} {P : Prop} (G : PGood K sc lv) (k : ∀ (p : Program) (loose : List Str) (mean : ExcName → Option Value) (mg mb : Str → Option Value), (hd.heap_39 K.w.params).In K.g → Top p loose mean mg mb K.g → P) : P := G.el fun p loose mean mg mb _ _ _ _ _ _ _ _ X T _ _ => k p loose mean mg mb X T
/-- where the address of a list that changes is kept -/
noncomputable def Pl (K : PC) (sc : Scope) (m : Str → Option Value) (x : Str) (q : Addr) : Prop := (isLoc sc x = true ∧ m x = some (.ref q)) ∨ (isFre sc x = true ∧ ∃ c o, K.cl.lookup x = some c ∧ (c, o) ∈ K.fc ∧ o.data = .cell (some (.ref q)))
/-- a name that is known: a local, a cell, a thing of the top, a free name, or one of a list that changes -/
noncomputable def Kn (sc : Scope) (K : PC) (m cm : Str → Option Value) (μ ν : Lg) (x : Str) (sv : SV) : Prop :=
  (isLoc sc x = true ∧ ∃ u, m x = some u ∧ Is ν sv u) ∨ ((isCel sc x = true ∧ (K.ow.lookup x).isSome = true) ∧ ∃ u, cm x = some u ∧ Is ν sv u) ∨ (isGlo sc x = true ∧ ∃ u, (∀ P, nsIn (hd.heap_39 P) mainGlobals x = some (some u)) ∧ Is ν sv u) ∨
    (isFre sc x = true ∧ ∃ c o u, K.cl.lookup x = some c ∧ (c, o) ∈ K.fc ∧ o.data = .cell (some u) ∧ Is ν sv u) ∨ (∃ q vs n, sv = .m q vs ∧ Pl K sc m x q ∧ (q, listO vs n) ∈ μ)
theorem Kn.mono {sc : Scope} {K : PC} {m m' cm cm' : Str → Option Value} {μ μ' ν ν' : Lg} {x : Str} {sv sw : SV} (h : Kn sc K m cm μ ν x sv) (hm : m' x = m x) (hc : cm' x = cm x) (hi : ∀ u, Is ν sv u → Is ν' sw u) (hμ : ∀ q vs n, sv = .m q vs → (q, listO vs n) ∈ μ → sw = .m q vs ∧ ∃ n, (q, listO vs n) ∈ μ') : Kn sc K m' cm' μ' ν' x sw := by
  unfold Kn Pl at *
  rw [hm, hc]
  exact h.imp (fun h => ⟨h.1, h.2.imp fun u q => ⟨q.1, hi u q.2⟩⟩) fun h => h.imp (fun h => ⟨h.1, h.2.imp fun u q => ⟨q.1, hi u q.2⟩⟩) fun h => h.imp (fun h => ⟨h.1, h.2.imp fun u q => ⟨q.1, hi u q.2⟩⟩) fun h => h.imp (fun h => ⟨h.1, h.2.imp fun _ h => h.imp fun _ h => h.imp fun u q => ⟨q.1, q.2.1, q.2.2.1, hi u q.2.2.2⟩⟩) fun ⟨q, vs, n, e, h2, h3⟩ => ⟨q, vs, (hμ q vs n e h3).2.choose, (hμ q vs n e h3).1, h2, (hμ q vs n e h3).2.choose_spec⟩
theorem Kn.mono' {sc : Scope} {K : PC} {m m' cm cm' : Str → Option Value} {μ ν ν' : Lg} {x : Str} {sv : SV} (h : Kn sc K m cm μ ν x sv) (hm : m' x = m x) (hc : cm' x = cm x) (hi : ∀ u, Is ν sv u → Is ν' sv u) : Kn sc K m' cm' μ ν' x sv := h.mono hm hc hi fun _ _ n e h => ⟨e, n, h⟩
/-- what is not seen: cells, lists that still change, and what lies still -/
noncomputable abbrev PC.hl (K : PC) (κ : Lg × Lg) : Lg := κ.1 ++ (κ.2 ++ K.fz)
noncomputable abbrev PC.ha (K : PC) (κ : Lg × Lg) : List Addr := κ.2.map (·.1) ++ K.hid
structure PAtD (K : PC) (sc : Scope) (ν : Lg) (s0 : Shared) (σ : Sg) (z : Bool) (s : Shared) (m cm : Str → Option Value) (κ : Lg × Lg) : Prop where
  e : s = { s0 with heap := s.heap, toks := s.toks }
  F : Fr K.g K.L s.heap m
  N : News K.g K.L s.heap (ν ++ K.hl κ)
  Y : CellsAre cm K.ow κ.1
  M : (K.ha κ).Nodup
  O : ∀ p ∈ ν, p.1 ∉ K.ha κ
  a : ∀ x sv, σ.lookup x = some sv → Kn sc K m cm κ.2 ν x sv
  b : z = true → s.toks ≠ 0
inductive PAt (K : PC) (sc : Scope) (ν : Lg) (s0 : Shared) (σ : Sg) (z : Bool) (s : Shared) : Prop
  | mk (m cm : Str → Option Value) (κ : Lg × Lg) : PAtD K sc ν s0 σ z s m cm κ → PAt K sc ν s0 σ z s
section
variable {K : PC} {sc : Scope} {lv : Nat} {ν ν' : Lg} {s0 : Shared} {σ σ' : Sg} {z z' : Bool} {s : Shared} {Φ : Ora} {m cm : Str → Option Value} {κ : Lg × Lg}
theorem PAt.el {P : Prop} (h : PAt K sc ν s0 σ z s) (k : ∀ m cm κ, PAtD K sc ν s0 σ z s m cm κ → P) : P := by
  obtain ⟨m, cm, κ, h⟩ := h
  exact k m cm κ h
theorem cells_addr {κ : Lg} {cl : List (Str × Addr)} (Y : CellsAre cm cl κ) : κ.map (·.1) = cl.map (·.2) := by
  induction Y with
  | nil => rfl
  | cons _ _ ih => exact congrArg (_ :: ·) ih
theorem cells_at {κ : Lg} {cl : List (Str × Addr)} {x : Str} {c : Addr} (Y : CellsAre cm cl κ) (h : cl.lookup x = some c) : ∃ o, (c, o) ∈ κ ∧ o.data = .cell (cm x) := by
  induction Y with
  | nil => cases h
  | @cons n c' o _ _ hd _ ih =>
    rw [List.lookup_cons] at h
    by_cases q : x = n
    · subst q
      rw [beq_self_eq_true] at h
      cases h
      exact ⟨o, .head _, hd⟩
    · rw [beq_eq_false_iff_ne.mpr q] at h
      exact (ih h).imp fun _ k => ⟨.tail _ k.1, k.2⟩
theorem cells_set {κ : Lg} {cl : List (Str × Addr)} {x : Str} {c : Addr} {o' : Obj} {v : Value} (Y : CellsAre cm cl κ) (h : cl.lookup x = some c) (ho : o'.data = .cell (some v)) (hn : (cl.map (·.1)).Nodup) (ha : (cl.map (·.2)).Nodup) :
    ∃ κ', CellsAre (fun y => if y = x then some v else cm y) cl κ' ∧ ∀ p ∈ κ', p = (c, o') ∨ (p ∈ κ ∧ p.1 ≠ c) := by
  have stay : ∀ {cl κ}, CellsAre cm cl κ → x ∉ cl.map (·.1) → CellsAre (fun y => if y = x then some v else cm y) cl κ := fun Y => by
    induction Y with
    | nil => exact fun _ => .nil
    | @cons n _ _ _ _ hd _ ih => exact fun hx => .cons (by rw [if_neg fun (q : n = x) => hx (q ▸ .head _)]; exact hd) (ih fun q => hx (.tail _ q))
  induction Y with
  | nil => cases h
  | @cons n c' o cl κ hd Y ih =>
    rw [List.lookup_cons] at h
    obtain ⟨n1, n2⟩ := List.nodup_cons.mp hn
    obtain ⟨a1, a2⟩ := List.nodup_cons.mp ha
    by_cases q : x = n
    · subst q
      rw [beq_self_eq_true] at h
      cases h
      refine ⟨(_, o') :: κ, .cons (by rw [if_pos rfl]; exact ho) (stay Y n1), fun p hp => (List.mem_cons.mp hp).imp id fun hp => ⟨.tail _ hp, fun e => a1 (e ▸ cells_addr Y ▸ List.mem_map_of_mem (f := (·.1)) hp)⟩⟩
    · rw [beq_eq_false_iff_ne.mpr q] at h
      obtain ⟨κ', Y', hk⟩ := ih h n2 a2
      refine ⟨(c', o) :: κ', .cons (by rw [if_neg fun e => q e.symm]; exact hd) Y', fun p hp => ?_⟩
      refine mem_c hp ?_ fun hp => ?_
      · obtain ⟨o2, hm, -⟩ := cells_at Y h
        exact .inr ⟨.head _, fun (e : c' = c) => a1 (e ▸ cells_addr Y ▸ List.mem_map_of_mem (f := (·.1)) hm)⟩
      · exact (hk p hp).imp id fun k => ⟨.tail _ k.1, k.2⟩
theorem PAtD.tok (h : PAtD K sc ν s0 σ z s m cm κ) (tk : Nat) (b : Bool) (hb : b = true → tk ≠ 0) : PAtD K sc ν s0 σ b { s with toks := tk } m cm κ :=
  ⟨congrArg (fun t : Shared => { t with heap := s.heap, toks := tk }) h.e, h.F, h.N, h.Y, h.M, h.O, h.a, hb⟩
theorem PAt.tok (h : PAt K sc ν s0 σ z s) (tk : Nat) (b : Bool) (hb : b = true → tk ≠ 0) : PAt K sc ν s0 σ b { s with toks := tk } := h.el fun _ _ _ h => ⟨_, _, _, h.tok tk b hb⟩
theorem PAt.tick (h : PAt K sc ν s0 σ z s) : PAt K sc ν s0 σ true { s with toks := s.toks + 1 } := h.tok _ _ fun _ => Nat.succ_ne_zero _
theorem PAt.weak (h : PAt K sc ν s0 σ z s) : PAt K sc ν s0 σ false s := h.el fun _ _ _ h => ⟨_, _, _, { h with b := nofun }⟩
/-- the heap changed, all that is known stays -/
theorem PAtD.heap (h : PAtD K sc ν s0 σ z s m cm κ) {h' : Heap} (tk : Nat) (F : Fr K.g K.L h' m) (N : News K.g K.L h' (ν' ++ K.hl κ)) (hO : ∀ p ∈ ν', p.1 ∉ K.ha κ) (hi : ∀ sv u, Is ν sv u → Is ν' sv u) : PAtD K sc ν' s0 σ false { s with heap := h', toks := tk } m cm κ :=
  ⟨congrArg (fun t : Shared => { t with heap := h', toks := tk }) h.e, F, N, h.Y, h.M, hO, fun x sv q => (h.a x sv q).mono' rfl rfl (hi sv), nofun⟩
theorem PAtD.hidden (h : PAtD K sc ν s0 σ z s m cm κ) {c : Addr} (hc : c ∈ K.ha κ) : ∃ o, (c, o) ∈ K.hl κ := by
  have go : ∀ {l : Lg}, c ∈ l.map (·.1) → ∃ o, (c, o) ∈ l := fun hc => by
    obtain ⟨p, hp, e⟩ := List.mem_map.mp hc
    exact ⟨p.2, e ▸ hp⟩
  rcases List.mem_append.mp hc with hc | hc
  · exact (go hc).imp fun _ h => List.mem_append_right _ (List.mem_append_left _ h)
  rcases List.mem_append.mp hc with hc | hc
  · exact (go (cells_addr h.Y ▸ hc)).imp fun _ h => List.mem_append_left _ h
  · exact (go hc).imp fun _ h => List.mem_append_right _ (List.mem_append_right _ h)
theorem PAtD.hid_of (h : PAtD K sc ν s0 σ z s m cm κ) {p : Addr × Obj} (hp : p ∈ K.hl κ) : p.1 ∈ K.ha κ := by
  rcases List.mem_append.mp hp with hp | hp
  · exact List.mem_append_right _ (List.mem_append_left _ (cells_addr h.Y ▸ List.mem_map_of_mem (f := (·.1)) hp))
  rcases List.mem_append.mp hp with hp | hp
  · exact List.mem_append_left _ (List.mem_map_of_mem (f := (·.1)) hp)
  · exact List.mem_append_right _ (List.mem_append_right _ (List.mem_map_of_mem (f := (·.1)) hp))
theorem PAtD.lt (h : PAtD K sc ν s0 σ z s m cm κ) {c : Addr} (hc : c ∈ K.ha κ) : @LT.lt Nat _ c s.heap.objs.size := by
  obtain ⟨o, ho⟩ := h.hidden hc
  exact Heap.lt_size (h.N _ (List.mem_append_right _ ho)).1
theorem PAtD.new_off (h : PAtD K sc ν s0 σ z s m cm κ) : s.heap.objs.size ∉ K.ha κ := fun q => Nat.lt_irrefl _ (h.lt q)
theorem PAtD.push (h : PAtD K sc ν s0 σ z s m cm κ) (o : Obj) (hf : o.isFreed = false := by rfl) : PAtD K sc ((s.heap.objs.size, o) :: ν) s0 σ z { s with heap := s.heap.push o } m cm κ :=
  ⟨congrArg (fun t : Shared => { t with heap := s.heap.push o, toks := s.toks }) h.e, h.F.push _, News.push h.F h.N _ hf, h.Y, h.M, fun p hp => (List.mem_cons.mp hp).elim (fun e => e ▸ h.new_off) (h.O p), fun x sv q => (h.a x sv q).mono' rfl rfl fun _ => Is.mono fun _ => List.mem_cons_of_mem _, h.b⟩
theorem PAt.push (h : PAt K sc ν s0 σ z s) (o : Obj) (hf : o.isFreed = false := by rfl) : PAt K sc ((s.heap.objs.size, o) :: ν) s0 σ z { s with heap := s.heap.push o } := h.el fun _ _ _ h => ⟨_, _, _, h.push o hf⟩
theorem PAt.fresh (h : PAt K sc ν s0 σ z s) : ∀ p ∈ ν, @LT.lt Nat _ p.1 s.heap.objs.size := fun p hp => by
  refine PAt.el h fun m cm κ h => ?_
  exact Heap.lt_size (h.N p (List.mem_append_left _ hp)).1
theorem PAtD.grow (h : PAtD K sc ν s0 σ z s m cm κ) {h' : Heap} (hk : ∀ b o, s.heap.get? b = some o → h'.get? b = some o) : PAtD K sc ν s0 σ z { s with heap := h' } m cm κ :=
  ⟨congrArg (fun t : Shared => { t with heap := h', toks := s.toks }) h.e, h.F.keeps hk, h.N.grown hk, h.Y, h.M, h.O, h.a, h.b⟩
theorem PAt.grow (h : PAt K sc ν s0 σ z s) {h' : Heap} (hk : ∀ b o, s.heap.get? b = some o → h'.get? b = some o) : PAt K sc ν s0 σ z { s with heap := h' } := h.el fun _ _ _ h => ⟨_, _, _, h.grow hk⟩
/-- what is told of a name by what was told of it -/
noncomputable def Le (ν ν' : Lg) (sv sw : SV) : Prop := (∀ u, Is ν sv u → Is ν' sw u) ∧ ∀ q vs, sv = .m q vs → sw = .m q vs
theorem Le.rfl' {ν : Lg} {sv : SV} : Le ν ν sv sv := ⟨fun _ h => h, fun _ _ h => h⟩
theorem PAt.mono (h : PAt K sc ν s0 σ z s) (hs : ∀ p ∈ ν', p ∈ ν) (hσ : ∀ x sv, σ'.lookup x = some sv → ∃ sw, σ.lookup x = some sw ∧ Le ν ν' sw sv) : PAt K sc ν' s0 σ' z s := h.el fun _ _ _ h => ⟨_, _, _,
  ⟨h.e, h.F, fun p hp => h.N p ((List.mem_append.mp hp).elim (fun hp => List.mem_append_left _ (hs p hp)) (List.mem_append_right _)), h.Y, h.M, fun p hp => h.O p (hs p hp), fun x sv hx => by
    obtain ⟨sw, h1, h2⟩ := hσ x sv hx
    exact (h.a x sw h1).mono rfl rfl h2.1 fun q vs n e h => ⟨h2.2 q vs e, n, h⟩, h.b⟩⟩
theorem PAt.new (h : PAt K sc ν s0 σ z s) {p : Addr × Obj} (hp : p ∈ ν) : s.heap.get? p.1 = some p.2 := by
  refine PAt.el h fun m cm κ h => ?_
  exact (h.N p (List.mem_append_left _ hp)).1
/-- a callee, as an oracle tells it -/
noncomputable def CalK (K : PC) (sc : Scope) (f : Str) (φ : SV → R2) : Prop := ∀ q ν s0 σ, K.okz q → CalE K.w K.A (K.env sc) ν (PAt (K.wz q) sc ν s0 σ) f φ
noncomputable def OraOK (K : PC) (sc : Scope) (ν : Lg) (Φ : Ora) : Prop := ∀ f φ, Φ.lookup f = some φ → ∀ q s0 σ, K.okz q → CalE K.w K.A (K.env sc) ν (PAt (K.wz q) sc ν s0 σ) f (φ σ)
theorem OraOK.nil : OraOK K sc ν [] := fun _ _ h => nomatch h
theorem lk_set {α : Type} {σ : List (Str × α)} {x y : Str} {v : α} {P : α → Prop} {sv : α} (h : List.lookup y ((x, v) :: σ) = some sv) (h1 : y = x → P v) (h2 : y ≠ x → σ.lookup y = some sv → P sv) : P sv := by
  by_cases q : y = x
  · rw [q, List.lookup_cons, beq_self_eq_true] at h
    cases h
    exact h1 q
  · rw [List.lookup_cons, beq_eq_false_iff_ne.mpr q] at h
    exact h2 q h
theorem OraOK.consL {f : Str} {φ : Sg → SV → R2} (h : ∀ q s0 σ, K.okz q → CalE K.w K.A (K.env sc) ν (PAt (K.wz q) sc ν s0 σ) f (φ σ)) (O : OraOK K sc ν Φ) : OraOK K sc ν ((f, φ) :: Φ) := fun g ψ hg => lk_set (P := fun ψ => ∀ q s0 σ, K.okz q → CalE K.w K.A (K.env sc) ν (PAt (K.wz q) sc ν s0 σ) g (ψ σ)) hg (fun e => e ▸ h) fun _ hg => O g ψ hg
theorem OraOK.cons {f : Str} {φ : SV → R2} (h : CalK K sc f φ) (O : OraOK K sc ν Φ) : OraOK K sc ν ((f, fun _ => φ) :: Φ) := .consL (fun q s0 σ => h q ν s0 σ) O
theorem ev_of (G : PGood K sc lv) (O : OraOK K sc ν Φ) : EV K.w K.A (K.env sc) ν (PAt K sc ν s0 σ) σ Φ where
  han := G.han
  weak := PAt.weak
  tick := PAt.tick
  tok := fun tk h => h.tok tk false nofun
  nz := fun ⟨_, _, _, h⟩ => h.b rfl
  new h hp := PAt.new h hp
  loc hl hM hs h := by
    refine PAt.el hs fun m cm κ hs => ?_
    rcases hs.a _ _ hl with ⟨hx, u, hm, hu⟩ | ⟨hx, u, hm, hu⟩ | ⟨hx, u, hm, hu⟩ | ⟨hx, c, o, u, hc, hm, hd, hu⟩ | ⟨q, vs, n, e, hm, hq⟩
    · exact nameX_L hs.F hm (h u hu) G.kind (isK_of hx).1 (isK_of hx).2
    · obtain ⟨c, hc⟩ := Option.isSome_iff_exists.mp hx.2
      obtain ⟨o, ho, hd⟩ := cells_at hs.Y hc
      exact nameX_C hs.N (G.cw _ _ hc) (List.mem_append_right _ (List.mem_append_left _ ho)) (hd.trans (congrArg _ hm)) (h u hu) G.kind (isK_of hx.1).1 (isK_of hx.1).2
    · refine G.xt fun _ _ _ _ _ X T => ?_
      exact nameX_K hs.F X (topRead_of T) (hm _) (h u hu) G.kind (isK_of hx).1 (isK_of hx).2
    · obtain ⟨h1, h2⟩ := (Bool.and_eq_true _ _).mp hx
      exact nameX_F hs.N hc (List.mem_append_right _ (List.mem_append_right _ (List.mem_append_right _ (G.fcz _ hm)))) hd (h u hu) G.kind (isK_of h1).1 (isK_of h1).2 ((Bool.not_eq_true' _).mp h2)
    · rw [e] at hM
      cases hM
  cal h := O _ _ h K.fz _ _ ⟨G.nd, G.fcz⟩
theorem star_plain {pos : Pos} {env : Env} : ∀ {es : List Expr}, noStar es = true → (backTo pos (starEach es env)).any (·.1) = false
  | [], _ => rfl
  | e :: r, h => by
    obtain ⟨e1, e2⟩ := star_cons (env := env) h
    rw [e1]
    exact star_plain (es := r) e2
theorem ok_args {env : Env} {es : List Expr} (h : okArgs es = true) : ∃ e r, es = e :: r ∧ starEach (e :: r) env = (false, eval e env) :: starEach r env ∧ noStar r = true := by
  cases es with
  | nil => cases h
  | cons e r => exact ⟨e, r, rfl, star_cons ((Bool.and_eq_true _ _).mp h).2⟩
/-- an environment of a function, over the top -/
structure EnvOK (env : Env) : Prop where
  g : env.globals = mainGlobals
  b : env.builtins = builtinsNs
  k : env.scope.kind = .function
theorem PGood.env (G : PGood K sc lv) : EnvOK (K.env sc) := ⟨rfl, rfl, G.kind⟩
theorem name_glob {env : Env} (H : EnvOK env) (G : PGood K sc lv) {f : Str} {v : Value} (hf : isGlo env.scope f = true) (ha : ∀ P, nsIn (hd.heap_39 P) mainGlobals f = some (some v)) {p : Pos} {E Q : Value → Shared → Prop} (hs : PAt K sc ν s0 σ z s) (h : Q v s) : wpAny (PM K.w) K.A (eval (.Name f p) env) Q E s := by
  refine PAt.el hs fun m cm κ hs => ?_
  refine G.xt fun _ _ _ _ _ X T => ?_
  exact Name_function_global H.k (isK_of hf).1 (loadGlobal_global (H.g ▸ T.g.keeps hs.F.keep) (mg_of X T.g (ha _)) h) (isK_of hf).2
theorem name_built {env : Env} (H : EnvOK env) (G : PGood K sc lv) {f : Str} {v : Value} (hf : isGlo env.scope f = true) (ha : ∀ P, nsIn (hd.heap_39 P) mainGlobals f = some none) (hv : bootBuiltins f = some v) (hn : f ≠ "__name__") {p : Pos} {E Q : Value → Shared → Prop} (hs : PAt K sc ν s0 σ z s) (h : Q v s) : wpAny (PM K.w) K.A (eval (.Name f p) env) Q E s := by
  refine PAt.el hs fun m cm κ hs => ?_
  refine G.xt fun _ _ _ _ _ X T => ?_
  exact Name_function_global H.k (isK_of hf).1 (loadGlobal_builtin (H.g ▸ T.g.keeps hs.F.keep) (mg_none_of X T.g (ha _)) (H.b ▸ T.b.keeps hs.F.keep) ((T.builtins f hn).trans hv) h) (isK_of hf).2
theorem mck_pre {f : Addr} {lv : Nat} {us : List Value} {kw : List (Str × Value)} {P P' : Lg → Prop} {Rc : Lg → Lg → Value → Prop} (C : MCk f lv us kw P Rc) (h : ∀ n, P' n → P n) : MCk f lv us kw P' Rc :=
  fun w p loose mean mg mb news dp un gd cn cs a ccd cl outer A₀ base h₀ L m s Q E B F X N T hk hP => C w p loose mean mg mb news dp un gd cn cs a ccd cl outer A₀ base h₀ L m s Q E B F X N T hk (h _ hP)
/-- a def of the text, told of arguments that are known -/
noncomputable def Fn (f : Addr) (lv : Nat) (x : SV) (Rc : Lg → Lg → Value → Prop) : Prop := ∀ ν us, IsL ν x us → MCk f lv us [] (fun n => ∀ p ∈ ν, p ∈ n) Rc
/-- a value comes back, nothing new -/
noncomputable def Val (sv : SV) (n n' : Lg) (v : Value) : Prop := n' = n ∧ Is [] sv v
/-- a new object comes back -/
noncomputable def New (sv : SV) (n n' : Lg) (v : Value) : Prop := ∃ q o, n' = (q, o) :: n ∧ Is [(q, o)] sv v ∧ ∀ p ∈ n, @LT.lt Nat _ p.1 q
noncomputable def PureFn (f : Addr) (lv : Nat) (φ : SV → R2) : Prop := ∀ ν us x, IsL ν x us → OptP (fun r => All r.2 → MCk f lv us [] (fun n => ∀ p ∈ ν, p ∈ n) (Val r.1)) (φ x)
noncomputable abbrev FnIs (fa : Addr) : Prop := ∀ P, ∃ oc od fd sl, (hd.heap_39 P).lookup fa = some ⟨oc, od, .func fd, sl⟩
theorem PAt.fnAt (G : PGood K sc lv) {fa : Addr} (hfn : FnIs fa) (hs : PAt K sc ν s0 σ z s) : FnAt fa s.heap := by
  refine PAt.el hs fun m cm κ hs => ?_
  refine G.xt fun _ _ _ _ _ X T => ?_
  obtain ⟨oc, od, fd, sl, hl⟩ := hfn K.w.params
  exact ⟨oc, od, fd, sl, (X.keeps hs.F.keep) _ _ hl⟩
/-- what a contract gives: what is known stays known, and what is told of the value -/
noncomputable def Gives (Rc : Lg → Lg → Value → Prop) (ν : Lg) (T : Lg → Value → Prop) : Prop := ∀ H n' v, (∀ p ∈ ν, ∀ r ∈ H, p.1 ≠ r.1) → (∀ p ∈ ν, ∀ r ∈ ν, p.1 = r.1 → p.2 = r.2) → Rc (ν ++ H) n' v → ∃ ν', (∀ p ∈ ν' ++ H, p ∈ n') ∧ (∀ sv u, Is ν sv u → Is ν' sv u) ∧ (∀ p ∈ ν', (∃ r ∈ ν, r.1 = p.1) ∨ ∀ q ∈ ν ++ H, @LT.lt Nat _ q.1 p.1) ∧ T ν' v
theorem gives_val {sv : SV} : Gives (Val sv) ν fun n v => n = ν ∧ Is n sv v := fun _ _ _ _ _ h => ⟨ν, fun _ hp => h.1 ▸ hp, fun _ _ h => h, fun p h => .inl ⟨p, h, rfl⟩, rfl, h.2.wk⟩
theorem gives_new {sv : SV} : Gives (New sv) ν fun n v => (∀ p ∈ ν, p ∈ n) ∧ Is n sv v := fun H n' v _ _ ⟨q, o, e, h1, h2⟩ => ⟨(q, o) :: ν, fun _ hp => e ▸ hp, fun _ _ => Is.mono fun _ => .tail _, fun p hp => (List.mem_cons.mp hp).elim (fun e => .inr (e ▸ h2)) fun hp => .inl ⟨p, hp, rfl⟩, fun _ => .tail _, h1.mono fun p hp => List.mem_singleton.mp hp ▸ .head _⟩
/-- a def of the text called, its values at hand -/
theorem call_vsX (G : PGood K sc lv) {fa : Addr} {lv' : Nat} (hlv : lv' ≤ lv) {us : List Value} {kw : List (Str × Value)} {Rc : Lg → Lg → Value → Prop} {T : Lg → Value → Prop} (hC : ∀ m cm κ, PAtD K sc ν s0 σ z s m cm κ → ∃ P, MCk fa lv' us kw P Rc ∧ P (ν ++ K.hl κ)) (hR : Gives Rc ν T) {E Q : Value → Shared → Prop} (hs : PAt K sc ν s0 σ z s)
    (h : ∀ u ν' s', PAt K sc ν' s0 σ false s' → T ν' u → Q u s') : wpAny (PM K.w) K.A (call (.ref fa) us kw) Q E s := by
  refine PAt.el hs fun m cm κ hs => ?_
  obtain ⟨P, C, hP⟩ := hC m cm κ hs
  refine G.el fun pp loose mean mg mb dp un gd outer A₀ base eA B X T hd' hu => ?_
  rw [eA]
  refine mck_use C B hs.F X hs.N T G.kind hP (Nat.lt_of_le_of_lt (Nat.add_le_add_left (Nat.mul_le_mul_left 10 hlv) _) hd') (Nat.lt_of_le_of_lt (Nat.add_le_add_left (Nat.mul_le_mul_left 100 hlv) _) hu) fun v n' h' tk' hr F' N' => ?_
  obtain ⟨ν', hin, h1, h2, h3⟩ := hR _ _ _ (fun p hp r hr e => hs.O p hp (e ▸ hs.hid_of hr)) (fun p hp r hr e => Option.some.inj ((hs.N p (List.mem_append_left _ hp)).1.symm.trans (e ▸ (hs.N r (List.mem_append_left _ hr)).1))) hr
  refine h v ν' _ ⟨m, cm, κ, hs.heap tk' F' (fun p hp => N' p (hin p hp)) (fun p hp => ?_) h1⟩ h3
  rcases h2 p hp with ⟨r, hr, e⟩ | hp
  · exact e ▸ hs.O r hr
  · intro hq
    obtain ⟨o, ho⟩ := hs.hidden hq
    exact Nat.lt_irrefl _ (hp (p.1, o) (List.mem_append_right _ ho))
theorem call_vs (G : PGood K sc lv) {fa : Addr} {lv' : Nat} (hlv : lv' ≤ lv) {us : List Value} {kw : List (Str × Value)} {P : Lg → Prop} {Rc : Lg → Lg → Value → Prop} {T : Lg → Value → Prop} (C : MCk fa lv' us kw P Rc) (hP : ∀ r, P (ν ++ r)) (hR : Gives Rc ν T) {E Q : Value → Shared → Prop} (hs : PAt K sc ν s0 σ z s)
    (h : ∀ u ν' s', PAt K sc ν' s0 σ false s' → T ν' u → Q u s') : wpAny (PM K.w) K.A (call (.ref fa) us kw) Q E s := call_vsX G hlv (fun _ _ _ _ => ⟨P, C, hP _⟩) hR hs h
end
end Mine
end
noncomputable section
open PySem PySem.W PyProof.Rows PySem.Spec PySem.Calls
namespace Mine
set_option genInjectivity false
set_option genSizeOf false
section
variable {K : PC} {sc : Scope} {lv : Nat} {ν ν' : Lg} {s0 : Shared} {σ σ' : Sg} {z z' : Bool} {s : Shared} {Φ : Ora} {R : Flow → Shared → Prop} {rest body : List Stmt} {E Q : Value → Shared → Prop}
/-- a call by name, its arguments evaluated -/
theorem call_by {env : Env} {At : Bool → Shared → Prop} {f : Str} {fa : Addr} {x : SV} {es : List Expr} {p pos : Pos} (hname : ∀ {Q : Value → Shared → Prop}, Q (.ref fa) s → wpAny (PM K.w) K.A (eval (.Name f p) env) Q E s) (hfn : ∀ z s, At z s → FnAt fa s.heap) (hn : okArgs es = true) (hs : At z s) (args : ArgsAt K.w K.A env ν At E s es pos x)
    (h : ∀ us z s, At z s → IsL ν x us → wpAny (PM K.w) K.A (call (.ref fa) us) Q E s) : wpAny (PM K.w) K.A (eval (.Call (.Name f p) es [] pos) env) Q E s := by
  refine wpAny_Call_NameR (hname ?_)
  obtain ⟨e, r, rfl, e1, e2⟩ := ok_args (env := env) hn
  exact callWith_F (hfn z s hs) (args fun us z s' hs' hu => ⟨hfn z s' hs', h us z s' hs' hu⟩) e1 (star_plain e2)
theorem PGood.fz {q : Lg} (G : PGood K sc lv) (h : K.okz q) : PGood (K.wz q) sc lv := ⟨G.kind, h.1, h.2, G.ndn, G.cw, G.up.wz⟩
/-- a state seen as the one of a frame -/
noncomputable def View (K : PC) (sc : Scope) (ν : Lg) (At : Bool → Shared → Prop) : Prop := ∀ z s, At z s → ∃ q s0 σ, K.okz q ∧ PAt (K.wz q) sc ν s0 σ z s ∧ ∀ s', PAt (K.wz q) sc ν s0 σ false s' → At false s'
theorem view_at {q : Lg} (hq : K.okz q) : View K sc ν (PAt (K.wz q) sc ν s0 σ) := fun _ _ hs => ⟨q, s0, σ, hq, hs, fun _ h => h⟩
theorem View.fnAt {At : Bool → Shared → Prop} (V : View K sc ν At) (G : PGood K sc lv) {fa : Addr} (hfn : FnIs fa) (z : Bool) (s : Shared) (hs : At z s) : FnAt fa s.heap := by
  obtain ⟨q, s0, σ, hq, h, -⟩ := V z s hs
  exact h.fnAt (G.fz hq) hfn
/-- a call of a def of the text -/
theorem call_ref {env : Env} {At : Bool → Shared → Prop} (H : EnvOK env) (V : View K sc ν At) (G : PGood K sc lv) {f : Str} {fa : Addr} {x : SV} (hf : isGlo env.scope f = true) (ha : ∀ P, nsIn (hd.heap_39 P) mainGlobals f = some (some (.ref fa))) (hfn : FnIs fa) {es : List Expr} {p pos : Pos} (hn : okArgs es = true) (hs : At z s) (args : ArgsAt K.w K.A env ν At E s es pos x)
    (h : ∀ us z s, At z s → IsL ν x us → wpAny (PM K.w) K.A (call (.ref fa) us) Q E s) : wpAny (PM K.w) K.A (eval (.Call (.Name f p) es [] pos) env) Q E s :=
  call_by (fun {Q} hQ => by
    obtain ⟨q, s0, σ, hq, hs', -⟩ := V z s hs
    exact name_glob H (G.fz hq) hf ha hs' hQ) (V.fnAt G hfn) hn hs args h
theorem cal_fnV {env : Env} {At : Bool → Shared → Prop} (H : EnvOK env) (V : View K sc ν At) (G : PGood K sc lv) {f : Str} {fa : Addr} {lv' : Nat} {φ : SV → R2} (C : PureFn fa lv' φ) (ha : ∀ P, nsIn (hd.heap_39 P) mainGlobals f = some (some (.ref fa))) (hfn : FnIs fa) (hlv : lv' ≤ lv) (hf : isGlo env.scope f = true) : CalE K.w K.A env ν At f φ := by
  intro es pos p x z s E Q hn hs args
  cases hφ : φ x with
  | none => trivial
  | some r =>
    refine fun hc h => call_ref H V G hf ha hfn hn hs args fun us z s hs hu => ?_
    obtain ⟨q, s0, σ, hq, hs', back⟩ := V z s hs
    exact call_vs (G.fz hq) hlv ((C ν us x hu).get hφ hc) (fun _ _ => List.mem_append_left _) gives_val hs' fun u ν' s' hs' hu => h u s' (back s' (hu.1 ▸ hs')) (hu.1 ▸ hu.2)
theorem cal_fn (G : PGood K sc lv) {f : Str} {fa : Addr} {lv' : Nat} {φ : SV → R2} (C : PureFn fa lv' φ) (ha : ∀ P, nsIn (hd.heap_39 P) mainGlobals f = some (some (.ref fa))) (hfn : FnIs fa) (hlv : lv' ≤ lv) (hf : isGlo sc f = true := by rfl) : CalK K sc f φ :=
  fun _ _ _ _ hq => cal_fnV G.env (view_at hq) G C ha hfn hlv hf
/-- a function at hand, made by a def or a lambda -/
noncomputable abbrev FnIn (ν : Lg) (kf : Addr) : Prop := ∃ oc od fd sl, (kf, (⟨oc, od, .func fd, sl⟩ : Obj)) ∈ ν
/-- a callee that a name of the frame tells -/
theorem cal_loc (G : PGood K sc lv) {f : Str} {kf : Addr} {lv' : Nat} {φ : SV → R2} (C : ∀ x us, IsL ν x us → OptP (fun r => All r.2 → MCk kf lv' us [] (fun n => ∀ p ∈ ν, p ∈ n) (Val r.1)) (φ x)) (hk : FnIn ν kf) (hlv : lv' ≤ lv) :
    ∀ q s0 σ, K.okz q → CalE K.w K.A (K.env sc) ν (PAt (K.wz q) sc ν s0 σ) f fun x => bd2 (φ x) fun u c => some (u, (σ.lookup f = some (.v (.ref kf))) :: c) := by
  intro q s0 σ hq es pos p x z s E Q hn hs args
  refine .bd2 fun u c hφ hc h => call_by (K := (K.wz q)) (fa := kf) (fun hQ => (ev_of (G.fz hq) .nil).loc hc.1 rfl hs fun u hu => (show u = _ from hu) ▸ hQ) (fun z s hs => ?_) hn hs args fun us z s hs hu => call_vs (G.fz hq) hlv ((C x us hu).get hφ hc.2) (fun _ _ => List.mem_append_left _) gives_val hs fun u ν' s' hs' hu => h u s' (hu.1 ▸ hs') (hu.1 ▸ hu.2)
  obtain ⟨oc, od, fd, sl, hm⟩ := hk
  exact ⟨oc, od, fd, sl, hs.new hm⟩
/-- what a callee of the machine's own does -/
noncomputable def BiOK (K : PC) (sc : Scope) (v : Value) (φ : SV → R2) : Prop :=
  ∀ q ν s0 σ z s x us (E Q : Value → Shared → Prop), IsL ν x us → PAt (K.wz q) sc ν s0 σ z s → OptP (fun r => All r.2 → (∀ u s, PAt (K.wz q) sc ν s0 σ false s → Is ν r.1 u → Q u s) → wpAny (PM K.w) K.A (call v us) Q E s) (φ x)
theorem cal_biV {env : Env} {At : Bool → Shared → Prop} (H : EnvOK env) (V : View K sc ν At) (G : PGood K sc lv) {f : Str} {v : Value} {φ : SV → R2} (C : BiOK K sc v φ) (hv : bootBuiltins f = some v) (hvk : (∃ id, v = .builtin id) ∨ ∃ T, v = .type T) (ha : ∀ P, nsIn (hd.heap_39 P) mainGlobals f = some none) (hn : f ≠ "__name__") (hf : isGlo env.scope f = true) : CalE K.w K.A env ν At f φ := by
  intro es pos p x z s E Q hok hs args
  cases hφ : φ x with
  | none => trivial
  | some r =>
    refine fun hc h => wpAny_Call_NameR ?_
    obtain ⟨q, s0, σ, hq, hs', -⟩ := V z s hs
    refine name_built H (G.fz hq) hf ha hv hn hs' ?_
    obtain ⟨e, r, rfl, e1, e2⟩ := ok_args (env := env) hok
    have args' := args (Q := fun us s1 => wpAny (PM K.w) K.A (call v us) Q E s1) fun us z' s' hs' hu => by
      obtain ⟨q, s0, σ, hq, hs', back⟩ := V z' s' hs'
      exact (C q ν s0 σ z' s' x us E Q hu hs').get hφ hc fun u s hs hu => h u s (back s hs) hu
    rcases hvk with ⟨id, rfl⟩ | ⟨T, rfl⟩
    · exact callWith_builtin1 args' e1 (star_plain e2)
    · exact PyProof.Rows.callWith_type1 args' e1 (star_plain e2)
theorem cal_bi (G : PGood K sc lv) {f : Str} {v : Value} {φ : SV → R2} (C : BiOK K sc v φ) (hv : bootBuiltins f = some v) (hvk : (∃ id, v = .builtin id) ∨ ∃ T, v = .type T) (hf : isGlo sc f = true) (ha : ∀ P, nsIn (hd.heap_39 P) mainGlobals f = some none) (hn : f ≠ "__name__") : CalK K sc f φ :=
  fun _ _ _ _ hq => cal_biV G.env (view_at hq) G C hv hvk ha hn hf
/-- a name is set -/
theorem st_loc (G : PGood K sc lv) {x : Str} {sv : SV} {u : Value} {Q : Unit → Shared → Prop} (hx : isLoc sc x = true) (hs : PAt K sc ν s0 σ z s) (hu : Is ν sv u) (h : ∀ s', PAt K sc ν s0 ((x, sv) :: σ) true s' → Q () s') : wpAny (PM K.w) K.A (storeName (K.env sc) x u) Q E s := by
  refine PAt.el hs fun m cm κ hs => ?_
  exact storeX_L hs.F hs.N (fun h' F' N' => h _ ⟨_, cm, κ, congrArg (fun t : Shared => { t with heap := h', toks := s.toks + 1 }) hs.e, F', N', hs.Y, hs.M, hs.O, fun y sw hy => lk_set (P := Kn sc K (fun y => if y = x then some u else m y) cm κ.2 ν y) hy (fun q => .inl ⟨by rw [q]; exact hx, u, if_pos q, hu⟩) fun q hy => (hs.a y sw hy).mono' (if_neg q) rfl fun _ z => z, fun _ => Nat.succ_ne_zero _⟩) G.kind (isK_of hx).1
theorem st_cel (G : PGood K sc lv) {x : Str} {sv : SV} {u : Value} {Q : Unit → Shared → Prop} (hx : isCel sc x = true) (hc : (K.ow.lookup x).isSome = true) (hs : PAt K sc ν s0 σ z s) (hu : Is ν sv u) (h : ∀ s', PAt K sc ν s0 ((x, sv) :: σ) false s' → Q () s') : wpAny (PM K.w) K.A (storeName (K.env sc) x u) Q E s := by
  refine PAt.el hs fun m cm κ hs => ?_
  obtain ⟨c, hc'⟩ := Option.isSome_iff_exists.mp hc
  obtain ⟨o, ho, hd⟩ := cells_at hs.Y hc'
  have hm := hs.N _ (List.mem_append_right ν (List.mem_append_left (κ.2 ++ K.fz) ho))
  have nd := G.nd
  have nm := List.nodup_append.mp hs.M
  refine wpAny_storeName_cell G.kind (isK_of hx).1 (G.cw _ _ hc') ⟨o, hm.1, hd⟩ fun h' hv hsb => ?_
  obtain ⟨o', ho', hd'⟩ := hv
  obtain ⟨κ', Y', hk⟩ := cells_set (v := u) hs.Y hc' hd' G.ndn (List.nodup_append.mp nd).1
  have cin : c ∈ K.ow.map (·.2) := cells_addr hs.Y ▸ List.mem_map_of_mem (f := (·.1)) ho
  have st : ∀ p ∈ ν ++ K.hl κ, p.1 ≠ c → h'.get? p.1 = some p.2 ∧ p.1 ≠ K.L ∧ K.g.get? p.1 = none := fun p hp hne => ⟨(hsb.2 _ hne).trans (hs.N p hp).1, (hs.N p hp).2⟩
  refine h _ ⟨m, _, (κ', κ.2), congrArg (fun t : Shared => { t with heap := h', toks := s.toks }) hs.e, ⟨hs.F.ns.sameBut hsb (Ne.symm hm.2.1), fun b ob e => (hsb.2 b fun q => ?_).trans (hs.F.keep b ob e), hs.F.above⟩, fun p hp => ?_, Y', hs.M, hs.O, fun y sw hy => lk_set (P := Kn sc K m (fun y => if y = x then some u else cm y) κ.2 ν y) hy (fun q => .inr (.inl ⟨by rw [q]; exact ⟨hx, hc⟩, u, if_pos q, hu⟩)) fun q hy => (hs.a y sw hy).mono' rfl (if_neg q) fun _ z => z, nofun⟩
  · rw [q, hm.2.2] at e
    cases e
  · rcases List.mem_append.mp hp with hp | hp
    · exact st p (List.mem_append_left _ hp) fun e => hs.O p hp (List.mem_append_right _ (List.mem_append_left _ (e ▸ cin)))
    rcases List.mem_append.mp hp with hp | hp
    · rcases hk p hp with rfl | hp
      · exact ⟨ho', hm.2⟩
      · exact st p (List.mem_append_right _ (List.mem_append_left _ hp.1)) hp.2
    rcases List.mem_append.mp hp with hp | hp
    · exact st p (List.mem_append_right _ (List.mem_append_right _ (List.mem_append_left _ hp))) fun e => nm.2.2 p.1 (List.mem_map_of_mem hp) c (List.mem_append_left _ cin) e
    · exact st p (List.mem_append_right _ (List.mem_append_right _ (List.mem_append_right _ hp))) fun e => (List.nodup_append.mp nd).2.2 c cin p.1 (List.mem_map_of_mem hp) e.symm
noncomputable def Tri (K : PC) (sc : Scope) (s0 : Shared) (z : Bool) (σ : Sg) (ν : Lg) (body : List Stmt) (R : Flow → Shared → Prop) : Prop := ∀ s, PAt K sc ν s0 σ z s → wpAny (PM K.w) K.A (execs body (K.env sc)) R (fun _ _ => False) s
/-- what stands behind -/
noncomputable def sq (K : PC) (sc : Scope) (rest : List Stmt) (R : Flow → Shared → Prop) (f : Flow) (s : Shared) : Prop := match f with
  | .next => wpAny (PM K.w) K.A (execs rest (K.env sc)) R (fun _ _ => False) s
  | f => R f s
theorem tri_nil (h : ∀ s, PAt K sc ν s0 σ z s → R .next s) : Tri K sc s0 z σ ν [] R := fun s hs => wpAny_execs_nil (h s hs)
theorem tri_next (h : Tri K sc s0 z σ ν rest R) : Tri K sc s0 z σ ν [] (sq K sc rest R) := fun s hs => wpAny_execs_nil (h s hs)
theorem tri_mono (h : Tri K sc s0 z' σ' ν' body R) (hz : z' = true → z = true) (hs : ∀ p ∈ ν', p ∈ ν) (hσ : ∀ x sv, σ'.lookup x = some sv → ∃ sw, σ.lookup x = some sw ∧ Le ν ν' sw sv) : Tri K sc s0 z σ ν body R := fun s h1 => by
  obtain ⟨m, cm, κ, h2⟩ := h1.mono hs hσ
  exact h _ ⟨m, cm, κ, { h2 with b := fun q => h2.b (hz q) }⟩
/-- ways that meet again behind a statement -/
theorem tri_meet {st : Stmt} (σm : Sg) (h : ∀ R, Tri K sc s0 false σm ν rest R → Tri K sc s0 z σ ν (st :: rest) R) (k : Tri K sc s0 false σm ν rest R) : Tri K sc s0 z σ ν (st :: rest) R := h R k
theorem tri_meetX {st : Stmt} (T : Sg → Lg → Prop) (h : ∀ R, (∀ σ' ν', T σ' ν' → Tri K sc s0 false σ' ν' rest R) → Tri K sc s0 z σ ν (st :: rest) R) (k : ∀ σ' ν', T σ' ν' → Tri K sc s0 false σ' ν' rest R) : Tri K sc s0 z σ ν (st :: rest) R := h R k
theorem tri_asg {x : Str} {p1 p2 : Pos} {e : Expr} {sv : SV} {c : List Prop} (G : PGood K sc lv) (O : OraOK K sc ν Φ) (he : ev Φ σ z e = some (sv, z', c)) (hc : All c) (h : Tri K sc s0 true ((x, sv) :: σ) ν rest R)
    (hx : isLoc sc x = true := by rfl) (hsw : swapsWith e (some (.Name x p1)) p2.line (K.env sc) = pure false := by rfl) : Tri K sc s0 z σ ν (.Assign [.Name x p1] e p2 :: rest) R := fun _ hs =>
  wpAny_execs_cons (wpAny_Assign_Name (ev_ok (ev_of G O) he hc hs fun _ _ hs1 hu => st_loc G hx hs1 hu h) hsw)
theorem tri_if {t : Expr} {bd oe : List Stmt} {p2 : Pos} {b : Bool} {c : List Prop} (G : PGood K sc lv) (O : OraOK K sc ν Φ) (he : ts Φ σ z t = some (b, z', c)) (hc : All c)
    (h1 : b = true → Tri K sc s0 z' σ ν bd (sq K sc rest R)) (h2 : b = false → Tri K sc s0 z' σ ν oe (sq K sc rest R)) : Tri K sc s0 z σ ν (.If t bd oe p2 :: rest) R := fun _ hs =>
  wpAny_execs_cons (wpAny_If (ts_ok (ev_of G O) he hc hs fun s1 hs1 => by
    cases b with
    | true => exact h1 rfl _ hs1
    | false => exact h2 rfl _ hs1))
theorem tri_ret {e : Expr} {p : Pos} {sv : SV} {c : List Prop} (G : PGood K sc lv) (O : OraOK K sc ν Φ) (he : ev Φ σ z e = some (sv, z', c)) (hc : All c) (h : ∀ u s', PAt K sc ν s0 σ z' s' → Is ν sv u → R (.ret u) s') : Tri K sc s0 z σ ν (.Return (some e) p :: rest) R := fun _ hs =>
  wpAny_execs_cons (wpAny_Return_some (ev_ok (ev_of G O) he hc hs h))
theorem tup_ok (G : PGood K sc lv) (O : OraOK K sc ν Φ) {k : Nat} {es : List Expr} {p : Pos} {x : SV} {c : List Prop} (he : evl Φ σ z es = some (x, z', c)) (hc : All c) (hs : PAt K sc ν s0 σ z s)
    (h : ∀ q us s', IsL ν x us → (∀ p ∈ ν, @LT.lt Nat _ p.1 q) → PAt K sc ((q, tupO us) :: ν) s0 σ z' s' → Q (.ref q) s') (hn : noStar es = true := by rfl) (hz : Nat.ble (len x) 1000 = true := by rfl) : wpAny (PM K.w) K.A (eval (.Tuple es k p) (K.env sc)) Q E s :=
  Tuple_ (el_ok (ev_of G O) hn he hc hs fun us s' hs' hu => wpAny_newTuple (h _ us _ hu hs'.fresh (hs'.push _)) (by rw [hu.length]; exact Nat.le_trans (Nat.le_of_ble_eq_true hz) (Nat.le_of_ble_eq_true rfl)))
theorem tri_retTup {k : Nat} {es : List Expr} {p p2 : Pos} {x : SV} {c : List Prop} (G : PGood K sc lv) (O : OraOK K sc ν Φ) (he : evl Φ σ z es = some (x, z', c)) (hc : All c)
    (h : ∀ q us s', IsL ν x us → (∀ p ∈ ν, @LT.lt Nat _ p.1 q) → PAt K sc ((q, tupO us) :: ν) s0 σ z' s' → R (.ret (.ref q)) s') (hn : noStar es = true := by rfl) (hz : Nat.ble (len x) 1000 = true := by rfl) : Tri K sc s0 z σ ν (.Return (some (.Tuple es k p)) p2 :: rest) R := fun _ hs =>
  wpAny_execs_cons (wpAny_Return_some (tup_ok G O he hc hs h hn hz))
/-- the loop of a while -/
noncomputable def WE (K : PC) (sc : Scope) (s0 : Shared) (J : Nat → Sg → Lg → Prop) (k : Nat) (rest : List Stmt) (R : Flow → Shared → Prop) (f : Flow) (s' : Shared) : Prop := match f with
  | .ret v => R (.ret v) s'
  | .brk => wpAny (PM K.w) K.A (execs rest (K.env sc)) R (fun _ _ => False) s'
  | _ => ∃ k' σ' ν', k' < k ∧ J k' σ' ν' ∧ PAt K sc ν' s0 σ' false s'
theorem tri_while {test : Expr} {p : Pos} (J : Nat → Sg → Lg → Prop) (k : Nat) (G : PGood K sc lv) (j : J k σ ν)
    (turn : ∀ k σ ν, J k σ ν → ∃ Φ b z' c, OraOK K sc ν Φ ∧ ts Φ σ false test = some (b, z', c) ∧ All c ∧ (b = true → Tri K sc s0 z' σ ν body (WE K sc s0 J k rest R)) ∧ (b = false → Tri K sc s0 z' σ ν rest R)) : Tri K sc s0 z σ ν (.While test body [] p :: rest) R := fun s hs => by
  refine wpAny_execs_cons (wpAny_While ?_)
  have nx : ∀ (a : Value) (b : Shared), False → notedBy (PM K.w) K.A (K.env sc) (fun e s' => (match (Except.error e : Result) with | .ok f => sq K sc rest R f s' | .error e => cameBackBy (PM K.w) K.A (K.env sc) (fun _ _ => False) e s')) a b := fun _ _ z => z.elim
  refine codeAny_whileLoop (fun k s' => ∃ σ ν, J k σ ν ∧ PAt K sc ν s0 σ false s') ?_ k ⟨σ, ν, j, hs.weak⟩
  rintro k s' ⟨σ, ν, j, hs⟩
  obtain ⟨Φ, b, z', c, O, he, hc, h1, h2⟩ := turn k σ ν j
  refine ts_ok (ev_of G O) he hc hs fun s1 hs1 => ?_
  cases b with
  | false => exact wpAny_execs_nil (h2 rfl _ hs1)
  | true =>
    refine wpAny_mono (h1 rfl _ hs1) (fun f s₃ h₃ => ?_) nx
    have go : (∃ k' σ' ν', k' < k ∧ J k' σ' ν' ∧ PAt K sc ν' s0 σ' false s₃) → ∃ m, m < k ∧ ∃ σ ν, J m σ ν ∧ PAt K sc ν s0 σ false s₃ := fun ⟨k', σ', ν', hk, j', hp⟩ => ⟨k', hk, σ', ν', j', hp⟩
    cases f with
    | ret v => exact h₃
    | brk => exact h₃
    | cont => exact go h₃
    | next => exact go h₃
theorem tri_wend {J : Nat → Sg → Lg → Prop} {k : Nat} (k' : Nat) (σ' : Sg) (ν' : Lg) (hk : k' < k) (j : J k' σ' ν') (hs : ∀ p ∈ ν', p ∈ ν) (hσ : ∀ x sv, σ'.lookup x = some sv → ∃ sw, σ.lookup x = some sw ∧ Le ν ν' sw sv) :
    Tri K sc s0 z σ ν [] (WE K sc s0 J k rest R) := tri_nil fun _ h => ⟨k', σ', ν', hk, j, (h.mono hs hσ).weak⟩
/-- a shorter list of what is known -/
theorem sub_of {ν : Lg} : ∀ {σ' : Sg}, (∀ p ∈ σ', σ.lookup p.1 = some p.2) → ∀ x sv, σ'.lookup x = some sv → ∃ sw, σ.lookup x = some sw ∧ Le ν ν sw sv
  | (y, v) :: r, h, x, sv, hx => lk_set (P := fun sv => ∃ sw, σ.lookup x = some sw ∧ Le ν ν sw sv) hx (fun q => ⟨v, q ▸ h _ (.head _), .rfl'⟩) fun _ hx => sub_of (fun p hp => h p (.tail _ hp)) x sv hx
noncomputable def AllSub (σ : Sg) : Sg → Prop
  | [] => True
  | p :: r => σ.lookup p.1 = some p.2 ∧ AllSub σ r
noncomputable def lks (σ : Sg) : Sg → List (Option SV)
  | [] => []
  | p :: r => σ.lookup p.1 :: lks σ r
noncomputable def vls : Sg → List (Option SV)
  | [] => []
  | p :: r => some p.2 :: vls r
theorem AllSub.of : ∀ {σ' : Sg}, lks σ σ' = vls σ' → AllSub σ σ'
  | [], _ => trivial
  | _ :: _, h => ⟨(List.cons.inj h).1, AllSub.of (List.cons.inj h).2⟩
theorem AllSub.get : ∀ {σ' : Sg}, AllSub σ σ' → ∀ p ∈ σ', σ.lookup p.1 = some p.2
  | _ :: _, h, p, hp => (List.mem_cons.mp hp).elim (fun e => e ▸ h.1) fun hp => AllSub.get h.2 p hp
/-- what a call's end says -/
noncomputable def retR (K : PC) (s0 : Shared) (Rc : Lg → Value → Prop) (f : Flow) (s' : Shared) : Prop := Done K.g K.L Rc s0 (match f with | .ret v => v | _ => .none) s'
theorem done_ok {Rc : Lg → Value → Prop} {u : Value} (h : PAt K sc ν s0 σ z s) (hs : ∀ p ∈ ν', p ∈ ν) (r : Rc ν' u) : Done K.g K.L Rc s0 u s := by
  refine PAt.el h fun m cm κ h => ?_
  exact h.e ▸ Done.of h.F (fun p hp => h.N p (List.mem_append_left _ hp)) hs r
noncomputable def flat : SV → Bool
  | .p a r => flat a && flat r
  | .t _ => false
  | .l _ => false
  | .li _ => false
  | .lv _ _ => false
  | .m _ _ => false
  | _ => true
theorem flat_is : ∀ {x : SV}, flat x = true → (∀ u, Is ν x u → Is ν' x u) ∧ ∀ us, IsL ν x us → IsL ν' x us
  | .p _ _, h => ⟨fun _ h => h, fun _ ⟨u, ur, e, h1, h2⟩ => ⟨u, ur, e, (flat_is ((Bool.and_eq_true _ _).mp h).1).1 _ h1, (flat_is ((Bool.and_eq_true _ _).mp h).2).2 _ h2⟩⟩
  | .i _, _ => ⟨fun _ h => h, fun _ h => h⟩
  | .f _ _, _ => ⟨fun _ h => h, fun _ h => h⟩
  | .b _, _ => ⟨fun _ h => h, fun _ h => h⟩
  | .s _, _ => ⟨fun _ h => h, fun _ h => h⟩
  | .v _, _ => ⟨fun _ h => h, fun _ h => h⟩
  | .nl, _ => ⟨fun _ h => h, fun _ h => h⟩
theorem tri_retV {e : Expr} {p : Pos} {sv sv' : SV} {c : List Prop} {n : Lg} (G : PGood K sc lv) (O : OraOK K sc ν Φ) (he : ev Φ σ z e = some (sv, z', c)) (hc : All c) (hq : sv = sv') (hf : flat sv = true := by rfl) (hn : ∀ p ∈ n, p ∈ ν := by exact fun _ h => h) (hR : ∀ u s, Done K.g K.L (Val sv' n) s0 u s → R (.ret u) s := by exact fun _ _ h => h) : Tri K sc s0 z σ ν (.Return (some e) p :: rest) R :=
  tri_ret G O he hc fun u s hs hu => hR u s (done_ok hs hn ⟨rfl, hq ▸ (flat_is hf).1 u hu⟩)
theorem tri_retT {k : Nat} {es : List Expr} {p p2 : Pos} {x x' : SV} {c : List Prop} {n : Lg} (G : PGood K sc lv) (O : OraOK K sc ν Φ) (he : evl Φ σ z es = some (x, z', c)) (hc : All c) (hq : x = x') (hf : flat x = true := by rfl) (hn : ∀ p ∈ n, p ∈ ν := by exact fun _ h => h) (hR : ∀ u s, Done K.g K.L (New (.t x') n) s0 u s → R (.ret u) s := by exact fun _ _ h => h) (ho : noStar es = true := by rfl) (hz : Nat.ble (len x) 1000 = true := by rfl) : Tri K sc s0 z σ ν (.Return (some (.Tuple es k p)) p2 :: rest) R :=
  tri_retTup G O he hc (fun q us s hu lt hs => hR _ s (done_ok (ν' := (q, tupO us) :: n) hs (fun p hp => (List.mem_cons.mp hp).elim (fun e => e ▸ .head _) fun hp => .tail _ (hn p hp)) ⟨q, _, rfl, ⟨q, us, rfl, .head _, hq ▸ (flat_is hf).2 us hu⟩, fun p hp => lt p (hn p hp)⟩)) ho hz
end
end Mine
end
noncomputable section
open PySem PySem.W PyProof.Rows PySem.Spec PySem.Calls
namespace Mine
set_option genInjectivity false
set_option genSizeOf false
theorem cellsFrom_names : ∀ (l : List (Str × NameKind)) (n k : Nat) (acc acc' : List (Str × Addr)), acc.map (·.1) = acc'.map (·.1) → (cellsFrom n l acc).map (·.1) = (cellsFrom k l acc').map (·.1)
  | [], _, _, _, _, h => h
  | (x, kd) :: r, n, k, acc, acc', h => by
    unfold cellsFrom
    split
    · exact cellsFrom_names r _ _ _ _ (congrArg (x :: ·) h)
    · exact cellsFrom_names r _ _ _ _ h
theorem cellsFrom_addr : ∀ (l : List (Str × NameKind)) (n : Nat) (acc : List (Str × Addr)), (∀ q ∈ acc.map (·.2), @LT.lt Nat _ q n) → (acc.map (·.2)).Nodup → ((cellsFrom n l acc).map (·.2)).Nodup ∧ ∀ q ∈ (cellsFrom n l acc).map (·.2), q ∈ acc.map (·.2) ∨ @LE.le Nat _ n q
  | [], _, _, _, hn => ⟨hn, fun _ h => .inl h⟩
  | (x, kd) :: r, n, acc, h, hn => by
    unfold cellsFrom
    split
    · obtain ⟨h1, h2⟩ := cellsFrom_addr r (n + 1) ((x, n) :: acc) (fun q hq => (List.mem_cons.mp hq).elim (fun e => e ▸ Nat.lt_succ_self _) fun hq => Nat.lt_succ_of_lt (h q hq)) (List.nodup_cons.mpr ⟨fun hq => Nat.lt_irrefl _ (h _ hq), hn⟩)
      exact ⟨h1, fun q hq => (h2 q hq).elim (fun hq => (List.mem_cons.mp hq).elim (fun e => .inr (Nat.le_of_eq e.symm)) .inl) fun hq => .inr (Nat.le_of_succ_le hq)⟩
    · exact cellsFrom_addr r n acc h hn
section
variable {kindOf : Str → Option NameKind} {n : Str} {u : Value}
theorem bindL_off : ∀ {l : List (Str × Value)} {m : Str → Option Value}, n ∉ l.map (·.1) → bindL kindOf l m n = m n
  | [], _, _ => rfl
  | (x, v) :: r, m, h => by
    refine (bindL_off (l := r) fun q => h (.tail _ q)).trans ?_
    split
    · exact if_neg fun (q : n = x) => h (q ▸ .head _)
    · rfl
theorem bindC_off : ∀ {l : List (Str × Value)} {m : Str → Option Value}, n ∉ l.map (·.1) → bindC kindOf l m n = m n
  | [], _, _ => rfl
  | (x, v) :: r, m, h => by
    refine (bindC_off (l := r) fun q => h (.tail _ q)).trans ?_
    split
    · rfl
    · exact if_neg fun (q : n = x) => h (q ▸ .head _)
theorem bindL_at (hk : kindOf n = some .local) : ∀ {l : List (Str × Value)} {m : Str → Option Value}, (l.map (·.1)).Nodup → (n, u) ∈ l → bindL kindOf l m n = some u
  | (x, v) :: r, m, hn, h => by
    rcases List.mem_cons.mp h with e | h
    · cases e
      refine (bindL_off (l := r) (List.nodup_cons.mp hn).1).trans ?_
      rw [if_pos hk]
      exact if_pos rfl
    · exact bindL_at (l := r) hk (List.nodup_cons.mp hn).2 h
theorem bindC_at (hk : kindOf n ≠ some .local) : ∀ {l : List (Str × Value)} {m : Str → Option Value}, (l.map (·.1)).Nodup → (n, u) ∈ l → bindC kindOf l m n = some u
  | (x, v) :: r, m, hn, h => by
    rcases List.mem_cons.mp h with e | h
    · cases e
      refine (bindC_off (l := r) (List.nodup_cons.mp hn).1).trans ?_
      rw [if_neg hk]
      exact if_pos rfl
    · exact bindC_at (l := r) hk (List.nodup_cons.mp hn).2 h
end
/-- the parameters, and things of the top, as they are known -/
noncomputable def IsB (sc : Scope) (ν : Lg) : List (Str × Value) → Sg → Prop
  | _, [] => True
  | [], (m, sv) :: r' => (isGlo sc m = true ∧ ∃ u, (∀ P, nsIn (hd.heap_39 P) mainGlobals m = some (some u)) ∧ Is ν sv u) ∧ IsB sc ν [] r'
  | (n, u) :: r, (m, sv) :: r' => n = m ∧ (isLoc sc n = true ∨ isCel sc n = true) ∧ Is ν sv u ∧ IsB sc ν r r'
theorem isB_at {sc : Scope} {ν : Lg} {K : PC} {m cm : Str → Option Value} {bs : List (Str × Value)} (hm : ∀ n u, (n, u) ∈ bs → isLoc sc n = true → m n = some u) (hc : ∀ n u, (n, u) ∈ bs → isCel sc n = true → (K.ow.lookup n).isSome = true ∧ cm n = some u) : ∀ {binds : List (Str × Value)} {σ : Sg}, (∀ p ∈ binds, p ∈ bs) → IsB sc ν binds σ → ∀ x sv, σ.lookup x = some sv → Kn sc K m cm [] ν x sv
  | _, [], _, _, _, _, h => nomatch h
  | [], (m, sv) :: r', _, h, x, sw, hx => lk_set (P := Kn sc K _ cm [] ν x) hx (fun q => .inr (.inr (.inl (q ▸ h.1)))) fun _ hx => isB_at hm hc (binds := []) nofun h.2 x sw hx
  | (n, u) :: r, (m, sv) :: r', hb, h, x, sw, hx => lk_set (P := Kn sc K _ cm [] ν x) hx (fun q => by
      obtain ⟨rfl, h1, h2, -⟩ := h
      subst q
      exact h1.elim (fun h1 => .inl ⟨h1, u, hm _ _ (hb _ (.head _)) h1, h2⟩) fun h1 => .inr (.inl ⟨⟨h1, (hc _ _ (hb _ (.head _)) h1).1⟩, u, (hc _ _ (hb _ (.head _)) h1).2, h2⟩)) fun _ hx => isB_at hm hc (fun p hp => hb p (.tail _ hp)) h.2.2.2 x sw hx
theorem room1 {a l c : Nat} (h : a + 10 * (l + 1) < c + 1) : a + 10 * l < c := by lia
theorem room2 {a l c : Nat} (h : a + 100 * (l + 1) < c + 3) : a + 100 * l < c := by lia
theorem mc_tri {f : Addr} {lv : Nat} {vs : List Value} {kw : List (Str × Value)} {P : Lg → Prop} {R : Lg → Lg → Value → Prop} {name qual : Str} {params : Arguments} {body : List Stmt} {scope : Scope} {dV kV doc pm cdv ct oc : Value} {an od : Option Addr} {osl : Array (Option Value)} (binds : List (Str × Value)) (σ : Sg)
    (ho : ∀ P : Params, (hd.heap_39 P).lookup f = some ⟨oc, od, .func (fnOf name qual params body scope dV kV doc pm an cdv ct), osl⟩) (hcd : ∀ P : Params, codeIn (hd.heap_39 P) cdv qual = true)
    (hbind : ∀ (w : World) (s : Shared), (hd.heap_39 w.params).In s.heap → BindsTo s (fnOf name qual params body scope dV kV doc pm an cdv ct) ⟨vs, kw⟩ binds)
    (hnd : (binds.map (·.1)).Nodup) (hkind : (binds.all fun y => scope.names.lookup y.1 == some .local || scope.names.lookup y.1 == some .cell) = true) (hcd0 : ((cellsFrom 0 scope.names []).map (·.1)).Nodup)
    (hco : scope.isCoroutine = false) (hgen : scope.isGenerator = false) (hk : scope.kind = .function)
    (hσ : ∀ ν, P ν → IsB scope ν binds σ)
    (h : ∀ (K : PC) (ν : Lg) (s : Shared), PGood K scope lv → P ν → (∀ p ∈ ν, @LT.lt Nat _ p.1 K.L) → K.fz = [] → K.ow = cellsFrom (K.L + 1) scope.names [] → (K.cl = K.ow ∧ K.cn = qual ∧ K.ccd = cdv ∧ K.fc = []) → Tri K scope s false σ ν body (retR K s (R ν))) : MCk f (lv + 1) vs kw P R := by
  refine mc_defC binds ho hcd hbind hkind hcd0 hco hgen hk (Nat.le_add_left 1 lv) ?_
  intro w p loose mean mg mb news dp un gd outer A₀ base g L' cells s B X T hP hdp hun F N Y lt
  obtain ⟨n1, n2⟩ := cellsFrom_addr scope.names (L' + 1) [] nofun .nil
  have hid : ((cellsFrom (L' + 1) scope.names []).map (·.2) ++ ([] : Lg).map (·.1)) = (cellsFrom (L' + 1) scope.names []).map (·.2) := List.append_nil _
  refine h ⟨w, ktrTop dp un gd qual scope L' f cdv (cellsFrom (L' + 1) scope.names []) outer, qual, L', f, cdv, cellsFrom (L' + 1) scope.names [], cellsFrom (L' + 1) scope.names [], g, [], []⟩ news s ⟨hk, (congrArg List.Nodup hid).mpr n1, fun _ h => h, cellsFrom_names scope.names 0 (L' + 1) [] [] rfl ▸ hcd0, fun _ _ h => h, p, loose, mean, mg, mb, dp, un, gd, outer, A₀, base, rfl, B, X, T, ?_, ?_⟩ hP lt rfl rfl ⟨rfl, rfl, rfl, rfl⟩ s ⟨_, _, (cells, []), rfl, F, fun p hp => N p ?_, Y, (congrArg List.Nodup hid).mpr n1, fun p hp q => ?_, ?_, nofun⟩
  · exact room1 hdp
  · exact room2 hun
  · exact List.mem_append.mpr ((List.mem_append.mp hp).imp id fun hp => (List.mem_append.mp hp).elim id fun hp => (List.not_mem_nil hp).elim).symm
  · have q : p.1 ∈ (cellsFrom (L' + 1) scope.names []).map (·.2) := hid ▸ q
    exact (n2 _ q).elim nofun fun h => Nat.lt_irrefl _ (Nat.lt_of_lt_of_le (lt p hp) (Nat.le_of_succ_le h))
  · refine isB_at (fun n u hb hl => bindL_at (isK_of hl).1 hnd hb) (fun n u hb hl => ⟨cellsFrom_some _ _ _ (.inl (isK_of hl).1), bindC_at (fun e => ?_) hnd hb⟩) (fun _ h => h) (hσ news hP)
    have e : scope.names.lookup n = some .local := e
    cases e.symm.trans (isK_of hl).1
end Mine
end
noncomputable section
open PySem PySem.W PyProof.Rows PySem.Spec PySem.Calls
namespace Mine
set_option genInjectivity false
set_option genSizeOf false
theorem steps1 {i n k : Nat} (h : k + i = n + 1) (hl : i < n) : n - i < k := by lia
theorem steps2 {i n : Nat} (hl : i < n) : n - i + (i + 1) = n + 1 := by lia
/-- a row of two numbers -/
noncomputable abbrev i2c (a b : Int) : SV := .p (.i a) (.p (.i b) .nl)
noncomputable def one1 (k : SV → R2) : SV → R2 := pOf fun a r => (nlOf r).bind fun _ => k a
noncomputable def two2 (k : SV → SV → R2) : SV → R2 := pOf fun a r => one1 (k a) r
noncomputable def f3 (k : UInt64 → UInt64 → UInt64 → Bool → R2) : SV → R2 := pOf fun a r => two2 (fun b c => (fOf a).bind fun k1 => (fOf b).bind fun k2 => (fOf c).bind fun k3 => k k1 k2 k3 (fzOf a && (fzOf b && fzOf c))) r
noncomputable def i2 (k : Int → Int → R2) : SV → R2 := two2 fun a b => (iOf a).bind fun i => (iOf b).bind fun j => k i j
noncomputable def φmax (x : SV) : R2 := (f3 (fun a b c z => some (.f (Flt.maxOfBits [a, b, c]) z, [])) x).or (i2 (fun i j => some (.i (if j > i then j else i), [])) x)
noncomputable def φmin (x : SV) : R2 := (f3 (fun a b c _ => some (.f (Flt.minOfBits [a, b, c]) false, [])) x).or (i2 (fun i j => some (.i (if j < i then j else i), [])) x)
noncomputable def φint : SV → R2 := one1 fun a => ((fOf a).bind fun k => some (.i (Flt.toInt Float64.truncOf k), [Float64.isFinite k = true])).or ((bOf a).bind fun b => some (.i (if b = true then 1 else 0), []))
noncomputable def φlen : SV → R2 := one1 fun a => ((liOf a).bind fun l => some (.i l.length, [l.length < 2 ^ 63])).or (((lOf a).bind fun c => some (.i (len c), [len c < 2 ^ 63])).or (((lvOf a).bind fun l => some (.i l.length, [l.length < 2 ^ 63])).or ((sOf a).bind fun x => some (.i x.length, [x.length < 2 ^ 63]))))
section
variable {K : PC} {sc : Scope} {lv : Nat} {ν ν' : Lg} {s0 : Shared} {σ σ' : Sg} {z z' : Bool} {s : Shared} {Φ : Ora} {R : Flow → Shared → Prop} {rest body : List Stmt} {E Q : Value → Shared → Prop} {x : SV} {us : List Value}
theorem one1_is {T : SV × List Prop → Prop} {k : SV → R2} (h : IsL ν x us) (hk : ∀ a u, us = [u] → Is ν a u → OptP T (k a)) : OptP T (one1 k x) := pOf_is h fun a r u ur e h1 h2 => .bind (nlOf_is h2) fun _ e2 => hk a u (by rw [e, e2]) h1
theorem two2_is {T : SV × List Prop → Prop} {k : SV → SV → R2} (h : IsL ν x us) (hk : ∀ a b u v, us = [u, v] → Is ν a u → Is ν b v → OptP T (k a b)) : OptP T (two2 k x) := pOf_is h fun a r u ur e h1 h2 => one1_is h2 fun b v e2 h3 => hk a b u v (by rw [e, e2]) h1 h3
theorem f3_is {T : SV × List Prop → Prop} {k : UInt64 → UInt64 → UInt64 → Bool → R2} (h : IsL ν x us) (hk : ∀ a b c z t1 t2 t3, us = [.float a t1, .float b t2, .float c t3] → (z = true → t1 ≠ 0 ∧ t2 ≠ 0 ∧ t3 ≠ 0) → OptP T (k a b c z)) : OptP T (f3 k x) :=
  pOf_is h fun a r u ur e h1 h2 => two2_is h2 fun b c v w e2 h3 h4 => .bind (fOf_is h1) fun _ ⟨t1, a1, b1⟩ => .bind (fOf_is h3) fun _ ⟨t2, a2, b2⟩ => .bind (fOf_is h4) fun _ ⟨t3, a3, b3⟩ => hk _ _ _ _ t1 t2 t3 (by rw [e, e2, a1, a2, a3]) fun z =>
    have z1 := (Bool.and_eq_true _ _).mp z
    have z2 := (Bool.and_eq_true _ _).mp z1.2
    ⟨b1 z1.1, b2 z2.1, b3 z2.2⟩
theorem i2_is {T : SV × List Prop → Prop} {k : Int → Int → R2} (h : IsL ν x us) (hk : ∀ a b t1 t2, us = [.int a t1, .int b t2] → OptP T (k a b)) : OptP T (i2 k x) :=
  two2_is h fun a b u v e h1 h2 => .bind (iOf_is h1) fun _ ⟨t1, a⟩ => .bind (iOf_is h2) fun _ ⟨t2, b⟩ => hk _ _ t1 t2 (by rw [e, a, b])
theorem bi_max (G : PGood K sc lv) : BiOK K sc (.builtin "max") φmax := by
  intro q ν s0 σ z s x us E Q hu ⟨m, cm, κ, hs⟩
  refine .or (f3_is hu fun a b c z t1 t2 t3 e hz _ h => ?_) (i2_is hu fun a b t1 t2 e _ h => ?_) <;> subst e
  · exact max3f G.han hs.F hs.N fun h' tk r hr F' N' => h _ _ ⟨m, cm, κ, hs.heap tk F' N' hs.O fun _ _ h => h⟩ ⟨r, rfl, fun z => by
      obtain ⟨n1, n2, n3⟩ := hz z
      rcases hr with rfl | rfl | rfl <;> assumption⟩
  · exact max_two_N G.han hs.F hs.N fun h' tk F' N' => h _ _ ⟨m, cm, κ, hs.heap tk F' N' hs.O fun _ _ h => h⟩ ⟨_, rfl⟩
theorem bi_min (G : PGood K sc lv) : BiOK K sc (.builtin "min") φmin := by
  intro q ν s0 σ z s x us E Q hu ⟨m, cm, κ, hs⟩
  refine .or (f3_is hu fun a b c z t1 t2 t3 e hz _ h => ?_) (i2_is hu fun a b t1 t2 e _ h => ?_) <;> subst e
  · exact min3f G.han hs.F hs.N fun h' tk r F' N' => h _ _ ⟨m, cm, κ, hs.heap tk F' N' hs.O fun _ _ h => h⟩ ⟨r, rfl, nofun⟩
  · exact min_two_N G.han hs.F hs.N fun h' tk F' N' => h _ _ ⟨m, cm, κ, hs.heap tk F' N' hs.O fun _ _ h => h⟩ ⟨_, rfl⟩
theorem bi_int (G : PGood K sc lv) : BiOK K sc (.type "int") φint := by
  intro q ν s0 σ z s x us E Q hu hs
  refine one1_is hu fun a u e ha => .or (.bind (fOf_is ha) fun k ⟨t, e2, _⟩ hc h => ?_) (.bind (bOf_is ha) fun k e2 _ h => ?_) <;> subst e e2
  · exact Flt.call_int_float3 G.han (fun hx => by rw [Flt.not_finite_of_nan hx] at hc; cases hc.1) (fun hx => by rw [Flt.not_finite_of_inf hx] at hc; cases hc.1) fun _ => h _ _ hs.tick.weak ⟨_, rfl⟩
  · exact call_int_bool (h _ _ hs.tick.weak ⟨_, rfl⟩)
theorem bi_len (G : PGood K sc lv) : BiOK K sc (.builtin "len") φlen := by
  intro q ν s0 σ z s x us E Q hu hs
  refine one1_is hu fun a u e ha => .or (.bind (liOf_is ha) fun l ⟨q, us, n, e2, hm, hi⟩ hc h => ?_) (.or (.bind (lOf_is ha) fun l ⟨q, us, n, e2, hm, hi⟩ hc h => ?_) (.or (.bind (lvOf_is ha) fun l ⟨q, n, e2, hm⟩ hc h => ?_) (.bind (sOf_is ha) fun l ⟨t, e2⟩ hc h => ?_))) <;> subst e e2
  · exact len_list ⟨_, hs.new hm, rfl, n, rfl⟩ (by rw [List.size_toArray, hi.length]; exact Int.ofNat_lt.mpr hc.1) (h _ _ (hs.tok _ false nofun) ⟨_, by rw [List.size_toArray, hi.length]⟩)
  · exact len_list ⟨_, hs.new hm, rfl, n, rfl⟩ (by rw [List.size_toArray, hi.length]; exact Int.ofNat_lt.mpr hc.1) (h _ _ (hs.tok _ false nofun) ⟨_, by rw [List.size_toArray, hi.length]⟩)
  · exact len_list ⟨_, hs.new hm, rfl, n, rfl⟩ (by rw [List.size_toArray]; exact Int.ofNat_lt.mpr hc.1) (h _ _ (hs.tok _ false nofun) ⟨_, by rw [List.size_toArray]⟩)
  · exact PySem.P.len_str (Int.not_le.mpr (Int.ofNat_lt.mpr hc.1)) (h _ _ (hs.tok _ false nofun) ⟨_, rfl⟩)
/-- op= -/
noncomputable def ibinI : Operator → Int → Int → R2
  | .Add, a, b => some (.i (a + b), [])
  | .Sub, a, b => some (.i (a - b), [])
  | .LShift, a, b => binI false .LShift a b
  | .RShift, a, b => binI false .RShift a b
  | _, _, _ => none
noncomputable def ibin (op : Operator) (x y : SV) : R2 := (iOf x).bind fun a => (iOf y).bind fun b => ibinI op a b
theorem ibin_ok {op : Operator} {x y : SV} {u1 u2 : Value} (h1 : Is ν x u1) (h2 : Is ν y u2) : OptP (fun r => All r.2 → (∀ k, r.1 = .i k → Q (.int k s.toks) { s with toks := s.toks + 1 }) → wpAny (PM K.w) K.A (inplaceOp op u1 u2) Q E s) (ibin op x y) := by
  refine .bind (iOf_is h1) fun a ⟨t, ha⟩ => .bind (iOf_is h2) fun b ⟨t', hb⟩ => ?_
  subst ha hb
  cases op with
  | Add => exact fun _ h => iadd_int (h _ rfl)
  | Sub => exact fun _ h => isub_int (h _ rfl)
  | LShift => exact fun hd h => ilshift_int hd.1 hd.2.1 (h _ rfl)
  | RShift => exact fun hd h => irshift_int hd.1 (h _ rfl)
  | _ => trivial
theorem tri_aug {x : Str} {op : Operator} {p1 p2 : Pos} {e : Expr} {sv sw u : SV} {c d : List Prop} (G : PGood K sc lv) (O : OraOK K sc ν Φ) (hl : σ.lookup x = some sv) (he : ev Φ σ z e = some (sw, z', c)) (hc : All c) (hb : ibin op sv sw = some (u, d)) (hd : All d) (h : Tri K sc s0 true ((x, u) :: σ) ν rest R)
    (hx : isLoc sc x = true := by rfl) : Tri K sc s0 z σ ν (.AugAssign (.Name x p1) op e p2 :: rest) R := fun s hs => by
  refine wpAny_execs_cons (wpAny_AugAssign_Name ?_)
  obtain ⟨u0, hld, hu0⟩ : ∃ u0, (∀ {E Q : Value → Shared → Prop}, Q u0 s → wpAny (PM K.w) K.A (loadName (K.env sc) x) Q E s) ∧ Is ν sv u0 := by
    refine PAt.el hs fun m cm κ hs => ?_
    rcases hs.a _ _ hl with ⟨_, u, hm, hu⟩ | ⟨⟨hg, -⟩, -⟩ | ⟨hg, -⟩ | ⟨hg, -⟩ | ⟨q, vs, n, e, hm, hq⟩
    · exact ⟨u, fun q => wpAny_loadName_local G.kind (isK_of hx).1 hs.F.ns hm q, hu⟩
    · cases (isK_of hx).1.symm.trans (isK_of hg).1
    · cases (isK_of hx).1.symm.trans (isK_of hg).1
    · cases (isK_of hx).1.symm.trans (isK_of ((Bool.and_eq_true _ _).mp hg).1).1
    · subst e
      cases hb
  exact hld (ev_ok (ev_of G O) he hc hs fun u1 s1 hs1 i1 => (ibin_ok hu0 i1).get hb hd fun k e => st_loc G hx hs1.tick (show Is ν u _ from (show u = .i k from e) ▸ ⟨_, rfl⟩) h)
/-- a name set in one way or the other -/
theorem tri_sel {t e1 e2 : Expr} {x : Str} {p1 p2 p3 p4 p : Pos} {b z1 z2 z3 : Bool} {v1 v2 v : SV} {c d1 d2 : List Prop} (G : PGood K sc lv) (O : OraOK K sc ν Φ) (he : ts Φ σ z t = some (b, z1, c)) (h1 : ev Φ σ z1 e1 = some (v1, z2, d1)) (h2 : ev Φ σ z1 e2 = some (v2, z3, d2)) (hs : selS b v1 v2 = some v) (hc : All c) (hd1 : b = true → All d1) (hd2 : b = false → All d2)
    (h : Tri K sc s0 true ((x, v) :: σ) ν rest R) (hx : isLoc sc x = true := by rfl) (hw1 : swapsWith e1 (some (.Name x p1)) p2.line (K.env sc) = pure false := by rfl) (hw2 : swapsWith e2 (some (.Name x p3)) p4.line (K.env sc) = pure false := by rfl) :
    Tri K sc s0 z σ ν (.If t [.Assign [.Name x p1] e1 p2] [.Assign [.Name x p3] e2 p4] p :: rest) R := by
  have hk := (sel_ok (ν := ν)).get hs
  refine tri_if G O he hc (fun hb s hs => ?_) fun hb s hs => ?_
  · exact wpAny_execs_cons (wpAny_Assign_Name (ev_ok (ev_of G O) h1 (hd1 hb) hs fun u s1 hs1 hu => st_loc G hx hs1 (hk.1 hb u hu) fun s2 hs2 => tri_next h s2 hs2) hw1)
  · exact wpAny_execs_cons (wpAny_Assign_Name (ev_ok (ev_of G O) h2 (hd2 hb) hs fun u s1 hs1 hu => st_loc G hx hs1 (hk.2 hb u hu) fun s2 hs2 => tri_next h s2 hs2) hw2)
/-- two names set at once, by values that are not constants -/
theorem tri_swap2 {x1 x2 : Str} {p1 p2 tp vp p : Pos} {k k' : Nat} {e1 e2 : Expr} {v1 v2 : SV} {c : List Prop} (G : PGood K sc lv) (O : OraOK K sc ν Φ) (he : evl Φ σ z [e1, e2] = some (.p v1 (.p v2 .nl), z', c)) (hc : All c) (h : Tri K sc s0 true ((x1, v1) :: (x2, v2) :: σ) ν rest R)
    (hx1 : isLoc sc x1 = true := by rfl) (hx2 : isLoc sc x2 = true := by rfl) (hn : noStar [e1, e2] = true := by rfl) (hw : swappedStores [.Tuple [.Name x1 p1, .Name x2 p2] k tp] (.Tuple [e1, e2] k' vp) (K.env sc) = pure (some [x1, x2]) := by rfl) :
    Tri K sc s0 z σ ν (.Assign [.Tuple [.Name x1 p1, .Name x2 p2] k tp] (.Tuple [e1, e2] k' vp) p :: rest) R := fun s hs => by
  refine wpAny_execs_cons (Assign_Tuple_swapped ?_ rfl hw)
  refine Tuple_ (el_ok (ev_of G O) hn he hc hs fun us s1 hs1 hu => ?_)
  refine IsL.e2 hu fun u1 u2 i1 i2 => ?_
  refine wpAny_newTuple ?_ (Nat.le_of_ble_eq_true rfl)
  refine unpackItems_tuple (items := #[u1, u2]) G.han ⟨_, Heap.get?_push_size _ rfl, rfl, 0, rfl⟩ fun h' he' => ?_
  have hs2 := hs1.grow (h' := h') fun b o e => he' b o (Nat.ne_of_lt (Nat.lt_of_lt_of_le (Heap.lt_size e) (by rw [Heap.size_push]; exact Nat.le_succ _))) (Heap.get?_push_of_some _ e)
  exact assignInOrder_cons (wpAny_bindName (st_loc G hx2 hs2 i2 fun s3 hs3 => assignInOrder_cons (wpAny_bindName (st_loc G hx1 hs3 i1 fun s4 hs4 => assignInOrder_nil (h s4 hs4)))))
noncomputable def nameOf : Expr → Option Str
  | .Name x _ => some x
  | _ => none
/-- a tuple of names, set one by one -/
noncomputable def NamesIn (ok : Str → Bool) : List Expr → SV → Sg → Option Sg
  | [], x, σ => (nlOf x).bind fun _ => some σ
  | e :: r, x, σ => (nameOf e).bind fun n => pOf (fun a q => bif ok n then NamesIn ok r q ((n, a) :: σ) else none) x
theorem nameOf_is (e : Expr) : OptP (fun n => ∃ p, e = .Name n p) (nameOf e) := by cases e <;> first | exact ⟨_, rfl⟩ | trivial
theorem names_ln {env : Env} {ok : Str → Bool} : ∀ (es : List Expr) {x : SV} {us : List Value} {σ : Sg}, IsL ν x us → OptP (fun _ => (assignEach es env).map (·.1) = us.map fun _ => false) (NamesIn ok es x σ)
  | [], _, _, _, hu => .bind (nlOf_is hu) fun _ e => e ▸ rfl
  | e :: r, _, _, _, hu => .bind (nameOf_is e) fun n ⟨p, e1⟩ => pOf_is hu fun _ _ u ur e2 h1 h2 => .ite fun hx => (names_ln r h2).mono fun σ' h => by
    subst e1 e2
    exact congrArg (false :: ·) h
/-- names set in an environment, what is known told by At -/
structure Stores (K : PC) (env : Env) (ν : Lg) (ok : Str → Bool) (At : Bool → Sg → Shared → Prop) : Prop where
  weak : ∀ {z σ s}, At z σ s → At false σ s
  set : ∀ {x sv u z σ s} {Q : Unit → Shared → Prop} {E : Value → Shared → Prop}, ok x = true → At z σ s → Is ν sv u → (∀ s', At false ((x, sv) :: σ) s' → Q () s') → wpAny (PM K.w) K.A (storeName env x u) Q E s
  grow : ∀ {z σ s h'}, At z σ s → (∀ b o, s.heap.get? b = some o → h'.get? b = some o) → At z σ { s with heap := h' }
theorem stores_at (G : PGood K sc lv) : Stores K (K.env sc) ν (isLoc sc) fun z σ => PAt K sc ν s0 σ z := ⟨PAt.weak, fun hx hs hu h => st_loc G hx hs hu fun s' hs' => h s' hs'.weak, fun h hk => h.grow hk⟩
/-- the names that a body sets: locals and cells of its own -/
noncomputable def own (sc : Scope) (x : Str) : Bool := isLoc sc x || isCel sc x
noncomputable def Own (K : PC) (sc : Scope) : Prop := ∀ x, isCel sc x = true → (K.ow.lookup x).isSome = true
theorem stores_own (G : PGood K sc lv) (H : Own K sc) : Stores K (K.env sc) ν (own sc) fun z σ => PAt K sc ν s0 σ z := ⟨PAt.weak, fun hx hs hu h => ((Bool.or_eq_true _ _).mp hx).elim (fun hx => st_loc G hx hs hu fun s' hs' => h s' hs'.weak) fun hx => st_cel G hx (H _ hx) hs hu h, fun h hk => h.grow hk⟩
theorem names_in {env : Env} {ok : Str → Bool} {At : Bool → Sg → Shared → Prop} (S : Stores K env ν ok At) {Q : Unit → Shared → Prop} {E : Value → Shared → Prop} : ∀ (es : List Expr) {x : SV} {us : List Value} {σ : Sg} {s : Shared} {z : Bool}, IsL ν x us → At z σ s → OptP (fun σ' => (∀ s, At false σ' s → Q () s) → wpAny (PM K.w) K.A (assignInOrder ((assignEach es env).map (·.2)) us) Q E s) (NamesIn ok es x σ)
  | [], x, us, σ, s, _, hu, hs => .bind (nlOf_is hu) fun _ e => e ▸ fun h => assignInOrder_nil (h s (S.weak hs))
  | e :: r, x, us, σ, s, z, hu, hs => .bind (nameOf_is e) fun n ⟨p, e1⟩ => pOf_is hu fun a q u ur e2 h1 h2 => .ite fun hx => by
    subst e1 e2
    cases hn : NamesIn ok r q ((n, a) :: σ) with
    | none => trivial
    | some σ' => exact fun h => assignInOrder_cons (assign_Name (S.set hx hs h1 fun s2 hs2 => (names_in S r h2 hs2).get hn h))
theorem unpack_at {env : Env} {ok : Str → Bool} {At : Bool → Sg → Shared → Prop} (S : Stores K env ν ok At) (hA : K.A.handled = none) {es : List Expr} {k : Nat} {tp : Pos} {x : SV} {q : Addr} {us : List Value} {Q : Unit → Shared → Prop} {E : Value → Shared → Prop} (hn : NamesIn ok es x σ = some σ') (hs : At z σ s) (hq : IsTup s.heap q us.toArray) (hu : IsL ν x us) (h : ∀ s, At false σ' s → Q () s) : wpAny (PM K.w) K.A (assign (.Tuple es k tp) env (.ref q)) Q E s := by
  have hl := (names_ln (env := env) es hu).get hn
  refine assign_Tuple_tuple (items := us.toArray) hA hq ?_ ?_ fun h' he => (names_in S es hu (S.grow hs fun b o e => he b o (Nat.ne_of_lt (Heap.lt_size e)) e)).get hn h
  · have := congrArg List.length hl
    rwa [List.length_map, List.length_map] at this
  · refine List.findIdx?_eq_none_iff.mpr fun a ha => ?_
    have ha : a.1 ∈ us.map fun _ => false := hl ▸ List.mem_map_of_mem ha
    obtain ⟨_, _, e⟩ := List.mem_map.mp ha
    exact e.symm
theorem unpack_ok (G : PGood K sc lv) {es : List Expr} {k : Nat} {tp : Pos} {x : SV} {u : Value} {Q : Unit → Shared → Prop} {E : Value → Shared → Prop} (hn : NamesIn (isLoc sc) es x σ = some σ') (hs : PAt K sc ν s0 σ z s) (hu : Is ν (.t x) u) (h : ∀ s, PAt K sc ν s0 σ' false s → Q () s) : wpAny (PM K.w) K.A (assign (.Tuple es k tp) (K.env sc) u) Q E s := by
  refine Is.te hu fun q us hm hu => ?_
  exact unpack_at (stores_at G) G.han hn hs ⟨_, hs.new hm, rfl, 0, rfl⟩ hu h
/-- an expression that may leave things behind -/
noncomputable def ExE (K : PC) (sc : Scope) (env : Env) (s0 : Shared) (z : Bool) (σ : Sg) (ν : Lg) (e : Expr) (sv : SV) (S : Lg → Prop) : Prop := ∀ s (E Q : Value → Shared → Prop), PAt K sc ν s0 σ z s → (∀ u ν' s', PAt K sc ν' s0 σ false s' → S ν' → Is ν' sv u → Q u s') → wpAny (PM K.w) K.A (eval e env) Q E s
noncomputable abbrev Ex (K : PC) (sc : Scope) (s0 : Shared) (z : Bool) (σ : Sg) (ν : Lg) (e : Expr) (sv : SV) (S : Lg → Prop) : Prop := ExE K sc (K.env sc) s0 z σ ν e sv S
theorem ex_call (G : PGood K sc lv) (O : OraOK K sc ν Φ) {f : Str} {fa : Addr} {lv' : Nat} {es : List Expr} {p pos : Pos} {x sv : SV} {c : List Prop} {Rc : Lg → Lg → Value → Prop} {S : Lg → Prop} (ha : ∀ P, nsIn (hd.heap_39 P) mainGlobals f = some (some (.ref fa))) (hfn : FnIs fa) (hlv : lv' ≤ lv)
    (he : evl Φ σ z es = some (x, z', c)) (hc : All c) (C : Fn fa lv' x Rc) (hR : Gives Rc ν fun n v => S n ∧ Is n sv v) (hf : isGlo sc f = true := by rfl) (hok : okArgs es = true := by rfl) : Ex K sc s0 z σ ν (.Call (.Name f p) es [] pos) sv S := fun s E Q hs h =>
  call_ref G.env (view_at ⟨G.nd, G.fcz⟩) G hf ha hfn hok hs (fun hq => el_ok (ev_of G O) ((Bool.and_eq_true _ _).mp hok).2 he hc hs fun us s1 hs1 hu => hq us _ s1 hs1 hu) fun us z s hs hu => call_vs G hlv (C ν us hu) (fun _ _ => List.mem_append_left _) hR hs fun u ν' s' hs' hT => h u ν' s' hs' hT.1 hT.2
theorem tri_asgX {x : Str} {p1 p2 : Pos} {e : Expr} {sv : SV} {S : Lg → Prop} (G : PGood K sc lv) (X : Ex K sc s0 z σ ν e sv S) (h : ∀ ν', S ν' → Tri K sc s0 true ((x, sv) :: σ) ν' rest R)
    (hx : isLoc sc x = true := by rfl) (hsw : swapsWith e (some (.Name x p1)) p2.line (K.env sc) = pure false := by rfl) : Tri K sc s0 z σ ν (.Assign [.Name x p1] e p2 :: rest) R := fun s hs =>
  wpAny_execs_cons (wpAny_Assign_Name (X s _ _ hs fun u ν' s' hs' hS hu => st_loc G hx hs' hu (h ν' hS)) hsw)
theorem tri_unpX {es : List Expr} {k : Nat} {tp p : Pos} {e : Expr} {x : SV} {S : Lg → Prop} (G : PGood K sc lv) (X : Ex K sc s0 z σ ν e (.t x) S) (hn : NamesIn (isLoc sc) es x σ = some σ') (h : ∀ ν', S ν' → Tri K sc s0 false σ' ν' rest R)
    (hsw : swapsWithSole [.Tuple es k tp] e p.line (K.env sc) = pure false := by rfl) (hw : swappedStores [.Tuple es k tp] e (K.env sc) = pure none := by rfl) : Tri K sc s0 z σ ν (.Assign [.Tuple es k tp] e p :: rest) R := fun s hs => by
  refine wpAny_execs_cons (Assign_Tuple ?_ hsw hw)
  exact X s _ _ hs fun u ν' s' hs' hS hu => unpack_ok G hn hs' hu (h ν' hS)
theorem exE_ev {env : Env} {σe : Sg} (V : EV K.w K.A env ν (PAt K sc ν s0 σ) σe Φ) {e : Expr} {sv : SV} {c : List Prop} (he : ev Φ σe z e = some (sv, z', c)) (hc : All c) : ExE K sc env s0 z σ ν e sv fun ν' => ν' = ν := fun s E Q hs h => ev_ok V he hc hs fun u s' hs' hu => h u ν s' hs'.weak rfl hu
theorem ex_ev (G : PGood K sc lv) (O : OraOK K sc ν Φ) {e : Expr} {sv : SV} {c : List Prop} (he : ev Φ σ z e = some (sv, z', c)) (hc : All c) : Ex K sc s0 z σ ν e sv fun ν' => ν' = ν := exE_ev (ev_of G O) he hc
theorem tri_unp {es : List Expr} {k : Nat} {tp p : Pos} {e : Expr} {x : SV} {c : List Prop} (G : PGood K sc lv) (O : OraOK K sc ν Φ) (he : ev Φ σ z e = some (.t x, z', c)) (hc : All c) (hn : NamesIn (isLoc sc) es x σ = some σ') (h : Tri K sc s0 false σ' ν rest R)
    (hsw : swapsWithSole [.Tuple es k tp] e p.line (K.env sc) = pure false := by rfl) (hw : swappedStores [.Tuple es k tp] e (K.env sc) = pure none := by rfl) : Tri K sc s0 z σ ν (.Assign [.Tuple es k tp] e p :: rest) R :=
  tri_unpX G (ex_ev G O he hc) hn (fun _ e => e ▸ h) hsw hw
end
end Mine
end
noncomputable section
open PySem PySem.W PyProof.Rows PySem.Spec PySem.Calls
namespace Mine
set_option genInjectivity false
set_option genSizeOf false
noncomputable abbrev PC.frs (K : PC) (X : Lg) : PC := (K.wz (X ++ K.fz))
section
variable {K : PC} {sc : Scope} {lv : Nat} {ν ν' : Lg} {s0 : Shared} {σ σ' : Sg} {z z' : Bool} {s : Shared} {Φ : Ora} {R : Flow → Shared → Prop} {rest body : List Stmt} {E Q : Value → Shared → Prop} {x : SV} {us : List Value} {m cm : Str → Option Value} {κ : Lg × Lg} {X X' : Lg} {h' : Heap}
theorem PAtD.cell {x : Str} {sv : SV} (D : PAtD K sc ν s0 σ z s m cm κ) (hx : isCel sc x = true) (hl : σ.lookup x = some sv) (hM : Mine.isM sv = false) {c : Addr} (hc : K.ow.lookup x = some c) : ∃ o u, (c, o) ∈ K.hl κ ∧ o.data = .cell (some u) ∧ Is ν sv u ∧ c ∈ K.ha κ := by
  rcases D.a _ _ hl with ⟨h, -⟩ | ⟨-, u, hm, hu⟩ | ⟨h, -⟩ | ⟨h, -⟩ | ⟨q, vs, n, e, -⟩
  · cases (isK_of hx).1.symm.trans (isK_of h).1
  · obtain ⟨o, ho, hd⟩ := cells_at D.Y hc
    have hh : (c, o) ∈ K.hl κ := List.mem_append_left _ ho
    exact ⟨o, u, hh, hd.trans (congrArg _ hm), hu, D.hid_of hh⟩
  · cases (isK_of hx).1.symm.trans (isK_of h).1
  · cases (isK_of hx).1.symm.trans (isK_of ((Bool.and_eq_true _ _).mp h).1).1
  · rw [e] at hM
    cases hM
theorem ha_frs : ((K.frs X).ha κ).Perm (X.map (·.1) ++ K.ha κ) := by
  show (κ.2.map (·.1) ++ (K.ow.map (·.2) ++ (X ++ K.fz).map (·.1))).Perm (X.map (·.1) ++ (κ.2.map (·.1) ++ (K.ow.map (·.2) ++ K.fz.map (·.1))))
  rw [List.map_append]
  exact ((List.perm_append_comm_assoc _ _ _).append_left _).trans (List.perm_append_comm_assoc _ _ _)
theorem hl_frs : ((K.frs X).hl κ).Perm (X ++ K.hl κ) := by
  show (κ.1 ++ (κ.2 ++ (X ++ K.fz))).Perm (X ++ (κ.1 ++ (κ.2 ++ K.fz)))
  exact ((List.perm_append_comm_assoc _ _ _).append_left _).trans (List.perm_append_comm_assoc _ _ _)
theorem PGood.frs (G : PGood K sc lv) (h : PAtD (K.frs X) sc ν s0 σ z s m cm κ) : PGood (K.frs X) sc lv := ⟨G.kind, (List.nodup_append.mp h.M).2.1, fun p hp => List.mem_append_right _ (G.fcz p hp), G.ndn, G.cw, G.up.wz⟩
/-- what was hidden comes on top, or goes -/
theorem PAtD.into (h : PAtD K sc ν s0 σ z s m cm κ) (hX : ∀ p ∈ X, s.heap.get? p.1 = some p.2 ∧ p.1 ≠ K.L ∧ K.g.get? p.1 = none) (hν : ∀ p ∈ ν, p.1 ∉ X.map (·.1)) (nd : (X.map (·.1) ++ K.ha κ).Nodup) : PAtD (K.frs X) sc ν s0 σ z s m cm κ :=
  { h with
    N := fun p hp => (List.mem_append.mp hp).elim (fun hp => h.N p (List.mem_append_left _ hp)) fun hp => (List.mem_append.mp (hl_frs.mem_iff.mp hp)).elim (hX p) fun hp => h.N p (List.mem_append_right _ hp)
    M := ha_frs.nodup_iff.mpr nd
    O := fun p hp q => (List.mem_append.mp (ha_frs.mem_iff.mp q)).elim (hν p hp) (h.O p hp) }
theorem PAtD.nodupX (h : PAtD (K.frs X) sc ν s0 σ z s m cm κ) : (X.map (·.1) ++ K.ha κ).Nodup := ha_frs.nodup_iff.mp h.M
theorem PAtD.offX (h : PAtD (K.frs X) sc ν s0 σ z s m cm κ) : ∀ p ∈ ν ++ K.hl κ, p.1 ∉ X.map (·.1) := fun p hp q => (List.mem_append.mp hp).elim (fun hp => h.O p hp (ha_frs.mem_iff.mpr (List.mem_append_left _ q))) fun hp => (List.nodup_append.mp h.nodupX).2.2 _ q p.1 (by
  rcases List.mem_append.mp hp with hp | hp
  · exact List.mem_append_right _ (List.mem_append_left _ (cells_addr h.Y ▸ List.mem_map_of_mem (f := (·.1)) hp))
  rcases List.mem_append.mp hp with hp | hp
  · exact List.mem_append_left _ (List.mem_map_of_mem (f := (·.1)) hp)
  · exact List.mem_append_right _ (List.mem_append_right _ (List.mem_map_of_mem (f := (·.1)) hp))) rfl
theorem PAtD.atX (h : PAtD (K.frs X) sc ν s0 σ z s m cm κ) {p : Addr × Obj} (hp : p ∈ X) : s.heap.get? p.1 = some p.2 ∧ p.1 ≠ K.L ∧ K.g.get? p.1 = none := h.N p (List.mem_append_right _ (hl_frs.mem_iff.mpr (List.mem_append_left _ hp)))
theorem PAtD.atA (h : PAtD (K.frs X) sc ν s0 σ z s m cm κ) {a : Addr} (ha : a ∈ X.map (·.1)) : a ≠ K.L ∧ K.g.get? a = none := by
  obtain ⟨p, hp, rfl⟩ := List.mem_map.mp ha
  exact (h.atX hp).2
theorem PAtD.drop (h : PAtD (K.frs X) sc ν s0 σ z s m cm κ) (tk : Nat) (kp : ∀ b o, b ∉ X.map (·.1) → s.heap.get? b = some o → h'.get? b = some o) : PAtD K sc ν s0 σ false { s with heap := h', toks := tk } m cm κ :=
  ⟨congrArg (fun t : Shared => { t with heap := h', toks := tk }) h.e, ⟨h.F.ns.at' fun o e => kp _ o (fun q => (h.atA q).1 rfl) e, fun b o e => kp b o (fun q => by
      have : K.g.get? b = none := (h.atA q).2
      rw [show K.g.get? b = some o from e] at this
      cases this) (h.F.keep b o e), h.F.above⟩,
    fun p hp => have a := h.N p ((List.mem_append.mp hp).elim (List.mem_append_left _) fun hp => List.mem_append_right _ (hl_frs.mem_iff.mpr (List.mem_append_right _ hp))); ⟨kp _ _ (h.offX p hp) a.1, a.2⟩, h.Y, (List.nodup_append.mp h.nodupX).2.1, fun p hp q => h.O p hp (ha_frs.mem_iff.mpr (List.mem_append_right _ q)), h.a, nofun⟩
theorem PAtD.out (h : PAtD (K.frs X) sc ν s0 σ z s m cm κ) : PAtD K sc ν s0 σ false s m cm κ := h.drop s.toks fun _ _ _ e => e
theorem PAtD.swap (h : PAtD (K.frs X) sc ν s0 σ z s m cm κ) (tk : Nat) (kp : ∀ b o, b ∉ X.map (·.1) → s.heap.get? b = some o → h'.get? b = some o) (e : X'.map (·.1) = X.map (·.1)) (hX' : ∀ p ∈ X', h'.get? p.1 = some p.2) : PAtD (K.frs X') sc ν s0 σ false { s with heap := h', toks := tk } m cm κ :=
  (h.drop tk kp).into (fun p hp => ⟨hX' p hp, h.atA (e ▸ List.mem_map_of_mem hp)⟩) (fun p hp => e ▸ h.offX p (List.mem_append_left _ hp)) (e ▸ h.nodupX)
/-- lists and tuples -/
noncomputable def seqO (p : Addr × Obj) : Bool := match p.2.data with
  | .seq _ _ => true
  | _ => false
/-- an item of an iterable: known, or a tuple of its own -/
noncomputable def ItemAt (own : Bool) (ν : Lg) (s : Shared) (sv : SV) (v : Value) : Prop := match own with
  | false => Is ν sv v
  | true => ∃ c q us, sv = .t c ∧ v = .ref q ∧ IsTup s.heap q us.toArray ∧ IsL ν c us
/-- an iterator, its own objects told in X -/
structure Itr (K : PC) (sc : Scope) (kl : Lg) (target : Expr) (I : Addr) (own : Bool) (n : Nat) (St : Nat → Lg → Prop) (item : Nat → SV) : Prop where
  step : ∀ {q : Lg} {i : Nat} {X ν : Lg} {s0 : Shared} {σ : Sg} {s : Shared} {m cm : Str → Option Value} {κ : Lg × Lg} {Q : Option Value → Shared → Prop} {E : Value → Shared → Prop}, i < n → St i X → (∀ p ∈ kl, p ∈ ν) → PAtD ((K.wz q).frs X) sc ν s0 σ false s m cm κ →
    (∀ v s1, (∀ {Q2 : Unit → Shared → Prop} {E2 : Value → Shared → Prop}, (∀ s' X', X'.map (·.1) = X.map (·.1) → St (i + 1) X' → ItemAt own ν s' (item i) v → PAtD ((K.wz q).frs X') sc ν s0 σ false s' m cm κ → Q2 () s') → wpAny (PM K.w) K.A (letOwnedTupleGo target (.ref I) v) Q2 E2 s1) → Q (some v) s1) → wpAny (PM K.w) K.A (pyNext (.ref I)) Q E s
  done : ∀ {q : Lg} {X ν : Lg} {s0 : Shared} {σ : Sg} {s : Shared} {m cm : Str → Option Value} {κ : Lg × Lg} {Q : Option Value → Shared → Prop} {E : Value → Shared → Prop}, St n X → (∀ p ∈ kl, p ∈ ν) → PAtD ((K.wz q).frs X) sc ν s0 σ false s m cm κ → (∀ s', PAtD (K.wz q) sc ν s0 σ false s' m cm κ → Q none s') → wpAny (PM K.w) K.A (pyNext (.ref I)) Q E s
  self : ∀ {q : Lg} {i : Nat} {X ν : Lg} {s0 : Shared} {σ : Sg} {s : Shared} {m cm : Str → Option Value} {κ : Lg × Lg} {Q E : Value → Shared → Prop}, St i X → (∀ p ∈ kl, p ∈ ν) → PAtD ((K.wz q).frs X) sc ν s0 σ false s m cm κ → Q (.ref I) s → wpAny (PM K.w) K.A (pyIter (.ref I)) Q E s
/-- an iterable: evaluated, its iterator stands -/
noncomputable def Src (K : PC) (sc : Scope) (env : Env) (s0 : Shared) (z : Bool) (σ : Sg) (ν : Lg) (iter target : Expr) (own : Bool) (n : Nat) (item : Nat → SV) (S : Lg → Prop) : Prop := ∀ (s : Shared) (E Q : Value → Shared → Prop), PAt K sc ν s0 σ z s →
  (∀ I X St s' ν1 kl m cm κ, S ν1 → (∀ p ∈ kl, p ∈ ν1) → (∀ p ∈ kl, seqO p = true) → Itr K sc kl target I own n St item → St 0 X → PAtD (K.frs X) sc ν1 s0 σ false s' m cm κ → Q (.ref I) s') → wpAny (PM K.w) K.A (eval iter env) (fun xv s1 => wpAny (PM K.w) K.A (pyIter xv) Q E s1) E s
/-- a turn's end -/
noncomputable def FE (K : PC) (sc : Scope) (X kl : Lg) (s0 : Shared) (J : Sg → Lg → Prop) (rest : List Stmt) (R : Flow → Shared → Prop) (f : Flow) (s' : Shared) : Prop := match f with
  | .ret v => R (.ret v) s'
  | .brk => wpAny (PM K.w) K.A (execs rest (K.env sc)) R (fun _ _ => False) s'
  | _ => ∃ σ' ν', J σ' ν' ∧ (∀ p ∈ kl, p ∈ ν') ∧ PAt (K.frs X) sc ν' s0 σ' false s'
variable {target iter : Expr} {own : Bool} {n : Nat} {item : Nat → SV} {kl : Lg} {J : Sg → Lg → Prop}
theorem tri_fend (σ' : Sg) (ν' : Lg) (j : J σ' ν') (hk : ∀ p ∈ kl, p ∈ ν') (hs : ∀ p ∈ ν', p ∈ ν) (hσ : ∀ x sv, σ'.lookup x = some sv → ∃ sw, σ.lookup x = some sw ∧ Le ν ν' sw sv) : Tri (K.frs X) sc s0 z σ ν [] (FE K sc X kl s0 J rest R) := tri_nil fun _ h => ⟨σ', ν', j, hk, (h.mono hs hσ).weak⟩
/-- where a for stands -/
inductive LI (K : PC) (sc : Scope) (s0 : Shared) (J : Nat → Sg → Lg → Prop) (St : Nat → Lg → Prop) (kl : Lg) (n k : Nat) (s' : Shared) : Prop
  | mk (i : Nat) (X : Lg) (σ' : Sg) (ν' : Lg) (m cm : Str → Option Value) (κ : Lg × Lg) : i ≤ n → k + i = n + 1 → St i X → J i σ' ν' → (∀ p ∈ kl, p ∈ ν') → PAtD (K.frs X) sc ν' s0 σ' false s' m cm κ → LI K sc s0 J St kl n k s'
theorem FE.back {J : Nat → Sg → Lg → Prop} {St : Nat → Lg → Prop} {i k : Nat} (hk : k + i = n + 1) (hlt : i < n) (st : St (i + 1) X) (h : ∃ σ' ν', J (i + 1) σ' ν' ∧ (∀ p ∈ kl, p ∈ ν') ∧ PAt (K.frs X) sc ν' s0 σ' false s) : ∃ k', k' < k ∧ LI K sc s0 J St kl n k' s := by
  obtain ⟨σ₅, ν₅, j₅, h₅, m₅, cm₅, κ₅, D₅⟩ := h
  exact ⟨n - i, steps1 hk hlt, i + 1, X, σ₅, ν₅, m₅, cm₅, κ₅, hlt, steps2 hlt, st, j₅, h₅, D₅⟩
theorem tri_for {pos : Pos} (J : Nat → Sg → Lg → Prop) (G : PGood K sc lv) {S : Lg → Prop} (src : Src K sc (K.env sc) s0 z σ ν iter target own n item S) (j0 : ∀ ν1, S ν1 → J 0 σ ν1)
    (turn : ∀ X kl i v σ' ν' s, (∀ p ∈ kl, seqO p = true) → PGood (K.frs X) sc lv → i < n → J i σ' ν' → (∀ p ∈ kl, p ∈ ν') → PAt (K.frs X) sc ν' s0 σ' false s → ItemAt own ν' s (item i) v → wpAny (PM K.w) K.A (assign target (K.env sc) v) (fun _ s2 => wpAny (PM K.w) K.A (execs body (K.env sc)) (FE K sc X kl s0 (J (i + 1)) rest R) (fun _ _ => False) s2) (fun _ _ => False) s)
    (fin : ∀ σ' ν', J n σ' ν' → Tri K sc s0 false σ' ν' rest R) (hs : ∀ x, foldedSetIterable iter (K.env sc) x = pure x := by intro _; rfl) : Tri K sc s0 z σ ν (.For target iter body [] pos :: rest) R := fun s hp => by
  refine wpAny_execs_cons (wpAny_For (src s _ _ hp fun I X St s' ν1 kl m cm κ h1 h2 hq W st D => ?_) hs)
  have nx : ∀ (a : Value) (b : Shared), False → notedBy (PM K.w) K.A (K.env sc) (fun e s' => (match (Except.error e : Result) with | .ok f => sq K sc rest R f s' | .error e => cameBackBy (PM K.w) K.A (K.env sc) (fun _ _ => False) e s')) a b := fun _ _ z => z.elim
  refine codeAny_forLoop_any (LI K sc s0 J St kl n) ?_ (n + 1) ⟨0, X, σ, ν1, m, cm, κ, Nat.zero_le _, rfl, st, j0 _ h1, h2, D⟩
  rintro k s' ⟨i, X', σ', ν', m', cm', κ', hi, hk, st', j, h2', D'⟩
  by_cases hlt : i < n
  · refine W.step (q := K.fz) hlt st' h2' D' fun v s1 go => go fun s2 X2 _ st2 hv D2 => ?_
    refine wpAny_mono (turn X2 kl i v σ' ν' s2 hq (G.frs D2) hlt j h2' ⟨_, _, _, D2⟩ hv) (fun _ s₃ h₃ => wpAny_mono h₃ (fun f s₄ h₄ => ?_) nx) fun _ _ z => z.elim
    cases f with
    | ret v => exact h₄
    | brk => exact h₄
    | cont => exact FE.back hk hlt st2 h₄
    | next => exact FE.back hk hlt st2 h₄
  · obtain rfl : i = n := Nat.le_antisymm hi (Nat.not_lt.mp hlt)
    exact W.done (q := K.fz) st' h2' D' fun s2 D2 => wpAny_execs_nil (fin σ' ν' j _ ⟨m', cm', κ', D2⟩)
/-- from the machine's walks -/
theorem itr_of {I : Addr} {fp : List Addr} {P : Nat → Value → Prop} {St : Nat → Heap → Prop} (W : Walks PySem.Challenge.rw_uk0013_01.row.prog K.w K.A I fp [I] n P St) (hIo : ∀ i h, St i h → ∃ o, h.get? I = some o) (hSt : ∀ i h g o, St i h → h.get? I = some o → g.get? I = some o → (∀ p ∈ kl, g.get? p.1 = some p.2) → St i g) (hP : ∀ i v, P i v → Is kl (item i) v)
    (hgo : ∀ i v (s : Shared) (Q : Unit → Shared → Prop) (E : Value → Shared → Prop), St (i + 1) s.heap → P i v → Q () s → wpAny (PM K.w) K.A (letOwnedTupleGo target (.ref I) v) Q E s) : Itr K sc kl target I false n (fun i X => ∃ o, X = [(I, o)] ∧ ∃ h, St i h ∧ h.get? I = some o) item where
  step := by
    rintro q i X ν s0 σ s m cm κ Q E hi ⟨o, rfl, h, st, e⟩ hkl D hQ
    refine W.item i s _ _ hi (hSt _ _ _ _ st e (D.atX (.head _)).1 fun p hp => (D.N p (List.mem_append_left _ (hkl p hp))).1) fun v h' tk hp st' kp => hQ _ _ fun hq => hgo i v _ _ _ st' hp ?_
    obtain ⟨o', e'⟩ := hIo _ _ st'
    exact hq _ [(I, o')] rfl ⟨o', rfl, _, st', e'⟩ (Is.mono hkl (hP i v hp)) (D.swap tk kp rfl fun p hp => List.mem_singleton.mp hp ▸ e')
  done := by
    rintro q X ν s0 σ s m cm κ Q E ⟨o, rfl, h, st, e⟩ hkl D hQ
    exact W.done s _ _ (hSt _ _ _ _ st e (D.atX (.head _)).1 fun p hp => (D.N p (List.mem_append_left _ (hkl p hp))).1) fun h' tk kp => hQ _ (D.drop tk kp)
  self := by
    rintro q i X ν s0 σ s m cm κ Q E ⟨o, rfl, h, st, e⟩ hkl D hQ
    exact W.self i s _ _ (hSt _ _ _ _ st e (D.atX (.head _)).1 fun p hp => (D.N p (List.mem_append_left _ (hkl p hp))).1) hQ
theorem go_name' {M : Model} {A : Around} {x : Str} {px : Pos} {xv v : Value} {Q : Unit → Shared → Prop} {E : Value → Shared → Prop} (h : Q () s) : wpAny M A (letOwnedTupleGo (.Name x px) xv v) Q E s := wpAny_pure h
end
end Mine
end
noncomputable section
open PySem PySem.W PyProof.Rows PySem.Spec PySem.Calls
namespace Mine
set_option genInjectivity false
set_option genSizeOf false
/-! iterables -/
/-- the items of a list that is told -/
noncomputable def lSrc : SV → Option (Nat × (Nat → SV))
  | .li l => some (l.length, fun i => .i (l.getD i 0))
  | .l c => some (len c, fun i => (nth c i).getD .nl)
  | .lv _ vs => some (vs.length, fun i => .v (vs.getD i .none))
  | _ => none
section
variable {K : PC} {sc : Scope} {lv : Nat} {ν ν' : Lg} {s0 : Shared} {σ σ' σe : Sg} {z z' : Bool} {s : Shared} {Φ : Ora} {R : Flow → Shared → Prop} {rest body : List Stmt} {E Q : Value → Shared → Prop} {x sv : SV} {us : List Value} {m cm : Str → Option Value} {κ : Lg × Lg} {X X' : Lg} {h' : Heap}
variable {env : Env} {target iter : Expr} {own : Bool} {n : Nat} {item : Nat → SV} {kl : Lg}
theorem nth_at {x : SV} : ∀ {us : List Value} {i : Nat} {v : Value}, IsL ν x us → us[i]? = some v → Is ν ((nth x i).getD .nl) v := by
  induction x with
  | p a r _ ih =>
    rintro us i v ⟨u, ur, e, h1, h2⟩ q
    subst e
    cases i with
    | zero => cases q; exact h1
    | succ i => exact ih h2 q
  | nl => rintro us i v h q; cases h; cases q
  | _ => exact fun h => h.elim
theorem lSrc_is {u : Value} (h : Is ν x u) : OptP (fun r => ∃ q us k, u = .ref q ∧ (q, listO us k) ∈ ν ∧ us.length = r.1 ∧ ∀ i v, us[i]? = some v → Is ν (r.2 i) v) (lSrc x) := by
  cases x with
  | li l =>
    obtain ⟨q, us, k, e, hm, hu⟩ := h
    refine ⟨q, us, k, e, hm, hu.length, fun i v hv => ?_⟩
    obtain ⟨t, e'⟩ := hu.at (hu.length ▸ (List.getElem?_eq_some_iff.mp hv).1)
    exact ⟨t, Option.some.inj (hv.symm.trans e')⟩
  | l c =>
    obtain ⟨q, us, k, e, hm, hu⟩ := h
    exact ⟨q, us, k, e, hm, IsL.length (x := c) hu, fun i v => nth_at (x := c) hu⟩
  | lv q vs =>
    obtain ⟨e, k, hm⟩ := h
    exact ⟨q, vs, k, e, hm, rfl, fun i v hv => by show v = vs.getD i .none; rw [List.getD_eq_getElem?_getD, hv]; rfl⟩
  | _ => trivial
theorem PAtD.pushX (D : PAtD K sc ν s0 σ z s m cm κ) (o : Obj) (hf : o.isFreed = false := by rfl) : PAtD (K.frs [(s.heap.objs.size, o)]) sc ν s0 σ z { s with heap := s.heap.push o } m cm κ :=
  have P := D.push o hf
  (D.grow fun b ob e => Heap.get?_push_of_some _ e).into (fun p hp => List.mem_singleton.mp hp ▸ P.N _ (List.mem_append_left _ (.head _))) (fun p hp q => Nat.ne_of_lt (Heap.lt_size (D.N p (List.mem_append_left _ hp)).1) (List.mem_singleton.mp q)) (List.nodup_cons.mpr ⟨D.new_off, D.M⟩)
theorem is_seq : ∀ x : SV, (∀ u, Is ν x u → Is (ν.filter seqO) x u) ∧ ∀ us, IsL ν x us → IsL (ν.filter seqO) x us
  | .p a r => ⟨fun _ h => h, fun _ ⟨u, ur, e, h1, h2⟩ => ⟨u, ur, e, (is_seq a).1 _ h1, (is_seq r).2 _ h2⟩⟩
  | .t c => ⟨fun _ ⟨q, us, e, h1, h2⟩ => ⟨q, us, e, List.mem_filter.mpr ⟨h1, rfl⟩, (is_seq c).2 _ h2⟩, fun _ h => h⟩
  | .l c => ⟨fun _ ⟨q, us, n, e, h1, h2⟩ => ⟨q, us, n, e, List.mem_filter.mpr ⟨h1, rfl⟩, (is_seq c).2 _ h2⟩, fun _ h => h⟩
  | .li _ => ⟨fun _ ⟨q, us, n, e, h1, h2⟩ => ⟨q, us, n, e, List.mem_filter.mpr ⟨h1, rfl⟩, h2⟩, fun _ h => h⟩
  | .m _ _ => ⟨fun _ h => h, fun _ h => h⟩
  | .lv _ _ => ⟨fun _ h => h.imp id fun h => h.imp fun _ h => List.mem_filter.mpr ⟨h, rfl⟩, fun _ h => h⟩
  | .i _ => ⟨fun _ h => h, fun _ h => h⟩
  | .f _ _ => ⟨fun _ h => h, fun _ h => h⟩
  | .b _ => ⟨fun _ h => h, fun _ h => h⟩
  | .s _ => ⟨fun _ h => h, fun _ h => h⟩
  | .v _ => ⟨fun _ h => h, fun _ h => h⟩
  | .nl => ⟨fun _ h => h, fun _ h => h⟩
theorem src_list (hA : K.A.handled = none) {S : Lg → Prop} (Y : ExE K sc env s0 z σ ν iter sv S) (hl : lSrc sv = some (n, item)) (ht : (∃ y py, target = .Name y py) ∨ ((∃ es k tp, target = .Tuple es k tp) ∧ ∀ i, i < n → ∃ c, item i = .t c)) : Src K sc env s0 z σ ν iter target false n item S := fun s E Q hs h => Y s _ _ hs fun u ν1 s1 hs1 hsub hu => by
  obtain ⟨q, us, k, rfl, hm, hn, hi⟩ := (lSrc_is hu).get hl
  refine PAt.el hs1 fun m cm κ D => ?_
  have hq := (D.N _ (List.mem_append_left _ hm)).1
  have W := Walks.list (prog := PySem.Challenge.rw_uk0013_01.row.prog) (w := K.w) hA s1.heap.objs.size q (Nat.ne_of_lt (Heap.lt_size hq)) us.toArray
  rw [show us.toArray.size = n from (List.size_toArray ..).trans hn] at W
  refine wpAny_pyIter_list ⟨_, hq, rfl, k, rfl⟩ (h _ [(s1.heap.objs.size, { cls := .type "list_iterator", data := .fields #[.ref q, .int 0 0] })] _ _ ν1 (ν1.filter seqO) m cm κ hsub (fun p hp => (List.mem_filter.mp hp).1) (fun p hp => (List.mem_filter.mp hp).2)
    (itr_of W (fun i h st => by obtain ⟨o, e, _⟩ := st.1; exact ⟨o, e⟩)
      (fun i h g o st e e' hk => ⟨by obtain ⟨o', q, r⟩ := st.1; rw [e] at q; cases q; exact ⟨o, e', r⟩, ⟨_, hk _ (List.mem_filter.mpr ⟨hm, rfl⟩), rfl, k, rfl⟩⟩) (fun i v hv => (is_seq _).1 _ (hi i v (by rwa [List.getElem?_toArray] at hv))) fun i v s Q E st hv hq => ?_) ⟨_, rfl, _, ⟨⟨_, Heap.get?_push_size _ rfl, rfl, rfl⟩, ⟨_, Heap.get?_push_of_some _ hq, rfl, k, rfl⟩⟩, Heap.get?_push_size _ rfl⟩ (D.pushX _))
  have hv' := hi i v (by rwa [List.getElem?_toArray] at hv)
  rcases ht with ⟨y, py, rfl⟩ | ⟨⟨es, k, tp, rfl⟩, ht⟩
  · exact go_name' hq
  · obtain ⟨c, e⟩ := ht i (Nat.lt_of_lt_of_eq (List.getElem?_eq_some_iff.mp (show us[i]? = some v by rwa [List.getElem?_toArray] at hv)).1 hn)
    rw [show (n, item).2 i = .t c from e] at hv'
    obtain ⟨q, us, rfl, -⟩ := hv'
    exact wpAny_letOwnedTupleGo_listiter st.1 hq
/-- the items of a tuple -/
theorem src_tup (V : EV K.w K.A env ν (PAt K sc ν s0 σ) σe Φ) {cc : SV} {c : List Prop} {y : Str} {py : Pos} (he : ev Φ σe z iter = some (.t cc, z', c)) (hc : All c) : Src K sc env s0 z σ ν iter (.Name y py) false (len cc) (fun i => (nth cc i).getD .nl) (· = ν) := fun s E Q hs h => ev_ok V he hc hs fun u s1 hs1 hu => by
  obtain ⟨q, us, rfl, hm, hu⟩ := hu
  refine PAt.el hs1.weak fun m cm κ D => ?_
  have hq := (D.N _ (List.mem_append_left _ hm)).1
  have W := Walks.tuple (prog := PySem.Challenge.rw_uk0013_01.row.prog) (w := K.w) V.han s1.heap.objs.size q (Nat.ne_of_lt (Heap.lt_size hq)) us.toArray
  rw [show us.toArray.size = len cc from (List.size_toArray ..).trans (IsL.length (x := cc) hu)] at W
  exact wpAny_pyIter_tuple ⟨_, hq, rfl, 0, rfl⟩ (h _ [(s1.heap.objs.size, { cls := .type "tuple_iterator", data := .fields #[.ref q, .int 0 0] })] _ _ ν (ν.filter seqO) m cm κ rfl (fun p hp => (List.mem_filter.mp hp).1) (fun p hp => (List.mem_filter.mp hp).2)
    (itr_of W (fun i h st => by obtain ⟨o, e, _⟩ := st.1; exact ⟨o, e⟩)
      (fun i h g o st e e' hk => ⟨by obtain ⟨o', q, r⟩ := st.1; rw [e] at q; cases q; exact ⟨o, e', r⟩, ⟨_, hk _ (List.mem_filter.mpr ⟨hm, rfl⟩), rfl, 0, rfl⟩⟩) (fun i v hv => (is_seq _).1 _ (nth_at (x := cc) hu (by rwa [List.getElem?_toArray] at hv))) fun i v s Q E st hv hq => go_name' hq) ⟨_, rfl, _, ⟨⟨_, Heap.get?_push_size _ rfl, rfl, rfl⟩, ⟨_, Heap.get?_push_of_some _ hq, rfl, 0, rfl⟩⟩, Heap.get?_push_size _ rfl⟩ (D.pushX _))
/-- the arguments of range -/
noncomputable def rng {β : Type} (k : Int → Int → Int → Option β) (x : SV) : Option β :=
  pOf (fun a r => (iOf a).bind fun i => ((nlOf r).bind fun _ => k 0 i 1).or (pOf (fun b r => (iOf b).bind fun j => ((nlOf r).bind fun _ => k i j 1).or (pOf (fun c r => (nlOf r).bind fun _ => (iOf c).bind fun l => bif l == 0 || decide (1000 < l.natAbs) then none else k i j l) r)) r)) x
theorem rng_is {β : Type} {T : β → Prop} {k : Int → Int → Int → Option β} (h : IsL ν x us) (h1 : ∀ i t, us = [.int i t] → OptP T (k 0 i 1)) (h2 : ∀ i j t t', us = [.int i t, .int j t'] → OptP T (k i j 1)) (h3 : ∀ i j l t t' t2, l ≠ 0 → l.natAbs ≤ 1000 → us = [.int i t, .int j t', .int l t2] → OptP T (k i j l)) : OptP T (rng k x) :=
  pOf_is h fun a r u ur e i1 i2 => .bind (iOf_is i1) fun i ⟨t, e1⟩ => .or (.bind (nlOf_is i2) fun _ e2 => h1 i t (by rw [e, e1, e2])) <| pOf_is i2 fun b r v vr e2 i3 i4 => .bind (iOf_is i3) fun j ⟨t', e3⟩ => .or (.bind (nlOf_is i4) fun _ e4 => h2 i j t t' (by rw [e, e1, e2, e3, e4])) <|
    pOf_is i4 fun c r w wr e4 i5 i6 => .bind (nlOf_is i6) fun _ e6 => .bind (iOf_is i5) fun l ⟨t2, e5⟩ => .bif fun hl => h3 i j l t t' t2 (beq_eq_false_iff_ne.mp (Bool.or_eq_false_iff.mp hl).1) (Nat.le_of_not_lt (of_decide_eq_false (Bool.or_eq_false_iff.mp hl).2)) (by rw [e, e1, e2, e3, e4, e5, e6])
theorem no_range : ∀ P, nsIn (hd.heap_39 P) mainGlobals (Str.ofString "range") = some none := fun _ => rfl
theorem bt_range : bootBuiltins (Str.ofString "range") = some (.type "range") := by decide +kernel
theorem src_range (H : EnvOK env) (V : EV K.w K.A env ν (PAt K sc ν s0 σ) σe Φ) (G : PGood K sc lv) {es : List Expr} {p pos py : Pos} {y : Str} {c : List Prop} {a b st : Int} (he : evl Φ σe z es = some (x, z', c)) (hc : All c) (hr : rng (fun a b c => some (a, b, c)) x = some (a, b, st)) (hsm : Builtin.Range.small a b st = true) (hn : Builtin.Range.rangeSize a b st = (n : Int)) {val : Nat → Int} (hv : ∀ i : Nat, a + (i : Int) * st = val i) (hf : isGlo env.scope (Str.ofString "range") = true := by rfl) (hok : okArgs es = true := by rfl) :
    Src K sc env s0 z σ ν (.Call (.Name (Str.ofString "range") p) es [] pos) (.Name y py) false n (fun i => .i (val i)) (· = ν) := fun s E Q hs h => by
  refine wpAny_Call_NameR (name_built H G hf no_range bt_range (by decide) hs ?_)
  obtain ⟨e, r, rfl, e1, e2⟩ := ok_args (env := env) hok
  refine PyProof.Rows.callWith_type1 (el_ok V ((Bool.and_eq_true _ _).mp hok).2 he hc hs fun us s1 hs1 hu => ?_) e1 (star_plain e2)
  refine PAt.el hs1 fun m cm κ D => ?_
  have fin : ∀ {h' : Heap} {tk : Nat} {t1 u1 v1 : Tok} {r : Addr}, IsRange h' r a b st t1 u1 v1 → (∀ b o, s1.heap.get? b = some o → h'.get? b = some o) → wpAny (PM K.w) K.A (pyIter (.ref r)) Q E { s1 with heap := h', toks := tk } := fun {h'} {tk} {t1} {u1} {v1} {r} hr hk => by
    refine wpAny_pyIter_range hr hsm (h _ [(h'.objs.size, _)] _ _ ν [] m cm κ rfl (fun _ h => (List.not_mem_nil h).elim) (fun _ h => (List.not_mem_nil h).elim) (itr_of (Walks.range V.han _ a st n) (fun i h st => ⟨_, st⟩) (fun i h g o s1 e e' _ => ?_) (fun i v ⟨t, e⟩ => ⟨t, e.trans (congrArg (Value.int · t) (hv i))⟩) fun i v s Q E st hv q => go_name' q) ⟨_, rfl, _, ?_, Heap.get?_push_size _ rfl⟩ (((D.grow hk).tok tk false nofun).pushX _))
    · show g.get? _ = some _
      rw [e', ← e]
      exact s1
    · show IsRangeIter _ _ _ _ _
      rw [hn]
      simpa using Heap.get?_push_size _ rfl
  have go := rng_is (T := fun q => q = (a, b, st) → wpAny (PM K.w) K.A (call (.type "range") us) (fun xv s1 => wpAny (PM K.w) K.A (pyIter xv) Q E s1) E s1) (k := fun a b c => some (a, b, c)) hu
    (fun i t e q => by subst e; cases q; exact range1_rows D.F D.N fun h' tk t1 u1 v1 hr _ _ hk => fin hr hk)
    (fun i j t t' e q => by subst e; cases q; exact range2_rows D.F D.N fun h' tk t1 u1 v1 hr _ _ hk => fin hr hk)
    (fun i j l t t' t2 h0 hl e q => by subst e; cases q; exact range3_rows D.F D.N h0 (fun h' tk t1 u1 v1 hr _ _ hk => fin hr hk) (.inl (PyProof.noPylong_small (Nat.lt_of_le_of_lt hl (by decide)))))
  exact go.get hr rfl
theorem no_reversed : ∀ P, nsIn (hd.heap_39 P) mainGlobals (Str.ofString "reversed") = some none := fun _ => rfl
theorem bt_reversed : bootBuiltins (Str.ofString "reversed") = some (.type "reversed") := by decide +kernel
theorem src_rev (H : EnvOK env) (V : EV K.w K.A env ν (PAt K sc ν s0 σ) σe Φ) (G : PGood K sc lv) {es : List Expr} {p pos py : Pos} {y : Str} {c : List Prop} (he : evl Φ σe z es = some (.p sv .nl, z', c)) (hc : All c) (hl : lSrc sv = some (n, item)) (hf : isGlo env.scope (Str.ofString "reversed") = true := by rfl) (hok : okArgs es = true := by rfl) :
    Src K sc env s0 z σ ν (.Call (.Name (Str.ofString "reversed") p) es [] pos) (.Name y py) false n (fun i => item (n - 1 - i)) (· = ν) := fun s E Q hs h => by
  refine wpAny_Call_NameR (name_built H G hf no_reversed bt_reversed (by decide) hs ?_)
  obtain ⟨e, r, rfl, e1, e2⟩ := ok_args (env := env) hok
  refine PyProof.Rows.callWith_type1 (el_ok V ((Bool.and_eq_true _ _).mp hok).2 he hc hs fun us s1 hs1 hu => ?_) e1 (star_plain e2)
  obtain ⟨u, _, rfl, hu, rfl⟩ := hu
  obtain ⟨q, us, k, rfl, hm, hn, hi⟩ := (lSrc_is hu).get hl
  refine PAt.el hs1.weak fun m cm κ D => ?_
  have hq := (D.N _ (List.mem_append_left _ hm)).1
  have hn : us.length = n := hn
  have W := Walks.listRev (prog := PySem.Challenge.rw_uk0013_01.row.prog) (w := K.w) V.han s1.heap.objs.size q (Nat.ne_of_lt (Heap.lt_size hq)) us.toArray
  rw [show us.toArray.size = n from (List.size_toArray ..).trans hn] at W
  refine call_reversed_list ⟨_, hq, rfl, k, rfl⟩ (wpAny_pyIter_revIter ⟨_, Heap.get?_push_size _ rfl, rfl, rfl⟩ (h _ [(s1.heap.objs.size, revObj q _)] _ _ ν (ν.filter seqO) m cm κ rfl (fun p hp => (List.mem_filter.mp hp).1) (fun p hp => (List.mem_filter.mp hp).2)
    (itr_of W (fun i h st => by obtain ⟨o, e, _⟩ := st.2.1; exact ⟨o, e⟩)
      (fun i h g o st e e' hk => ⟨st.1, by obtain ⟨o', q, r⟩ := st.2.1; rw [e] at q; cases q; exact ⟨o, e', r⟩, ⟨_, hk _ (List.mem_filter.mpr ⟨hm, rfl⟩), rfl, k, rfl⟩⟩) (fun i v hv => (is_seq _).1 _ (hi _ v (by rwa [List.getElem?_toArray] at hv))) fun i v s Q E st hv hq => go_name' hq) ⟨_, rfl, _, ⟨Nat.zero_le _, ⟨_, Heap.get?_push_size _ rfl, rfl, by rw [List.size_toArray, hn]; show Data.fields #[.ref q, rawInt ((n : Int) - 1)] = .fields #[.ref q, rawInt ((n : Int) - 1 - ((0 : Nat) : Int))]; rw [Int.natCast_zero, Int.sub_zero]⟩, ⟨_, Heap.get?_push_of_some _ hq, rfl, k, rfl⟩⟩, Heap.get?_push_size _ rfl⟩ (D.pushX _)))
end
end Mine
end
noncomputable section
open PySem PySem.W PyProof.Rows PySem.Spec PySem.Calls
namespace Mine
set_option genInjectivity false
set_option genSizeOf false
section
variable {K : PC} {sc : Scope} {lv : Nat} {ν ν' : Lg} {s0 : Shared} {σ σ' : Sg} {z z' : Bool} {s : Shared} {Φ : Ora} {R : Flow → Shared → Prop} {rest body : List Stmt} {E Q : Value → Shared → Prop} {x : SV} {us : List Value} {target iter : Expr} {own : Bool} {n : Nat} {item : Nat → SV} {X kl : Lg}
theorem PAt.sub (h : PAt K sc ν s0 σ z s) (hσ : AllSub σ σ') : PAt K sc ν s0 σ' z s := h.mono (fun _ h => h) (sub_of hσ.get)
/-- what a turn leaves: what is known told by turns, nothing new -/
noncomputable abbrev FS (K : PC) (sc : Scope) (X kl : Lg) (s0 : Shared) (σ' : Sg) (ν : Lg) (rest : List Stmt) (R : Flow → Shared → Prop) : Flow → Shared → Prop := FE K sc X kl s0 (fun σ₂ ν₂ => AllSub σ₂ σ' ∧ ν₂ = ν) rest R
/-- a for with one name, what is known told by turns; the ledger may have a list more -/
theorem tri_forN {y : Str} {py fpos : Pos} (σf : Nat → Sg) (G : PGood K sc lv) {S : Lg → Prop} (src : Src K sc (K.env sc) s0 z σ ν iter (.Name y py) false n item S) (j0 : AllSub σ (σf 0)) (turn : ∀ ν1, S ν1 → ∀ X kl, PGood (K.frs X) sc lv → (∀ p ∈ kl, p ∈ ν1) → ∀ i, i < n → Tri (K.frs X) sc s0 true ((y, item i) :: σf i) ν1 body (FS K sc X kl s0 (σf (i + 1)) ν1 rest R))
    (fin : ∀ ν1, S ν1 → Tri K sc s0 false (σf n) ν1 rest R) (hy : isLoc sc y = true := by rfl) (hs : ∀ x, foldedSetIterable iter (K.env sc) x = pure x := by intro _; rfl) : Tri K sc s0 z σ ν (.For (.Name y py) iter body [] fpos :: rest) R := fun s h1 => by
  refine tri_for (fun i σ' ν' => AllSub σ' (σf i) ∧ S ν') G src (fun ν1 h => ⟨j0, h⟩) (fun X kl i v σ' ν' s _ G' hi hj hk hs hv => assign_Name (st_loc G' hy (hs.sub hj.1) hv fun s2 hs2 => ?_)) (fun σ' ν' hj s hs => fin ν' hj.2 s (hs.sub hj.1)) hs s h1
  refine wpAny_mono (turn ν' hj.2 X kl G' hk i hi s2 hs2) (fun f s3 h3 => ?_) fun _ _ h => h
  have go : (∃ σ₂ ν₂, (AllSub σ₂ (σf (i + 1)) ∧ ν₂ = ν') ∧ (∀ p ∈ kl, p ∈ ν₂) ∧ PAt (K.frs X) sc ν₂ s0 σ₂ false s3) → ∃ σ₂ ν₂, (AllSub σ₂ (σf (i + 1)) ∧ S ν₂) ∧ (∀ p ∈ kl, p ∈ ν₂) ∧ PAt (K.frs X) sc ν₂ s0 σ₂ false s3 := fun ⟨σ₂, ν₂, ⟨h1, e⟩, h2, h3⟩ => ⟨σ₂, ν₂, ⟨h1, e ▸ hj.2⟩, h2, h3⟩
  cases f with
  | ret v => exact h3
  | brk => exact h3
  | cont => exact go h3
  | next => exact go h3
/-- a for with one name, by an invariant -/
theorem tri_forJ {y : Str} {py fpos : Pos} (J : Nat → Sg → Lg → Prop) (G : PGood K sc lv) {S : Lg → Prop} (src : Src K sc (K.env sc) s0 z σ ν iter (.Name y py) false n item S) (j0 : ∀ ν1, S ν1 → ∃ σ₂, J 0 σ₂ ν1 ∧ AllSub σ σ₂) (turn : ∀ X kl, PGood (K.frs X) sc lv → ∀ i σ' ν', i < n → J i σ' ν' → (∀ p ∈ kl, p ∈ ν') → Tri (K.frs X) sc s0 true ((y, item i) :: σ') ν' body (FE K sc X kl s0 (J (i + 1)) rest R))
    (fin : ∀ σ' ν', J n σ' ν' → Tri K sc s0 false σ' ν' rest R) (hy : isLoc sc y = true := by rfl) (hs : ∀ x, foldedSetIterable iter (K.env sc) x = pure x := by intro _; rfl) : Tri K sc s0 z σ ν (.For (.Name y py) iter body [] fpos :: rest) R := by
  have use : ∀ {i σ' ν'}, (J i σ' ν' ∨ i = 0 ∧ ∃ σ₂, J 0 σ₂ ν' ∧ AllSub σ' σ₂) → ∃ σ₂, J i σ₂ ν' ∧ ∀ {K : PC} {s}, PAt K sc ν' s0 σ' false s → PAt K sc ν' s0 σ₂ false s := fun h => by
    rcases h with h | ⟨rfl, σ₂, h1, h2⟩
    · exact ⟨_, h, fun h => h⟩
    · exact ⟨σ₂, h1, fun h => h.sub h2⟩
  refine tri_for (fun i σ' ν' => J i σ' ν' ∨ i = 0 ∧ ∃ σ₂, J 0 σ₂ ν' ∧ AllSub σ' σ₂) G src (fun ν1 h => .inr ⟨rfl, j0 ν1 h⟩) (fun X kl i _ σ' ν' _ _ G' hi hj hk hs hv => ?_) (fun σ' ν' hj s hs => ?_) hs
  · obtain ⟨σ₂, h1, h2⟩ := use hj
    refine assign_Name (st_loc G' hy (h2 hs) hv fun s2 hs2 => wpAny_mono (turn X kl G' i σ₂ ν' hi h1 hk s2 hs2) (fun f s3 h3 => ?_) fun _ _ h => h)
    cases f with
    | ret v => exact h3
    | brk => exact h3
    | cont => exact h3.imp fun _ h => h.imp fun _ h => ⟨.inl h.1, h.2⟩
    | next => exact h3.imp fun _ h => h.imp fun _ h => ⟨.inl h.1, h.2⟩
  · obtain ⟨σ₂, h1, h2⟩ := use hj
    exact fin σ₂ ν' h1 s (h2 hs)
/-- a for with one name, by an invariant; what it draws from is no table -/
theorem tri_forJK {y : Str} {py fpos : Pos} (J : Nat → Sg → Lg → Prop) (G : PGood K sc lv) {S : Lg → Prop} (src : Src K sc (K.env sc) s0 z σ ν iter (.Name y py) false n item S) (j0 : ∀ ν1, S ν1 → ∃ σ₂, J 0 σ₂ ν1 ∧ AllSub σ σ₂) (turn : ∀ X kl, (∀ p ∈ kl, seqO p = true) → PGood (K.frs X) sc lv → ∀ i σ' ν', i < n → J i σ' ν' → (∀ p ∈ kl, p ∈ ν') → Tri (K.frs X) sc s0 true ((y, item i) :: σ') ν' body (FE K sc X kl s0 (J (i + 1)) rest R))
    (fin : ∀ σ' ν', J n σ' ν' → Tri K sc s0 false σ' ν' rest R) (hy : isLoc sc y = true := by rfl) (hs : ∀ x, foldedSetIterable iter (K.env sc) x = pure x := by intro _; rfl) : Tri K sc s0 z σ ν (.For (.Name y py) iter body [] fpos :: rest) R := by
  have use : ∀ {i σ' ν'}, (J i σ' ν' ∨ i = 0 ∧ ∃ σ₂, J 0 σ₂ ν' ∧ AllSub σ' σ₂) → ∃ σ₂, J i σ₂ ν' ∧ ∀ {K : PC} {s}, PAt K sc ν' s0 σ' false s → PAt K sc ν' s0 σ₂ false s := fun h => by
    rcases h with h | ⟨rfl, σ₂, h1, h2⟩
    · exact ⟨_, h, fun h => h⟩
    · exact ⟨σ₂, h1, fun h => h.sub h2⟩
  refine tri_for (fun i σ' ν' => J i σ' ν' ∨ i = 0 ∧ ∃ σ₂, J 0 σ₂ ν' ∧ AllSub σ' σ₂) G src (fun ν1 h => .inr ⟨rfl, j0 ν1 h⟩) (fun X kl i _ σ' ν' _ hq G' hi hj hk hs hv => ?_) (fun σ' ν' hj s hs => ?_) hs
  · obtain ⟨σ₂, h1, h2⟩ := use hj
    refine assign_Name (st_loc G' hy (h2 hs) hv fun s2 hs2 => wpAny_mono (turn X kl hq G' i σ₂ ν' hi h1 hk s2 hs2) (fun f s3 h3 => ?_) fun _ _ h => h)
    cases f with
    | ret v => exact h3
    | brk => exact h3
    | cont => exact h3.imp fun _ h => h.imp fun _ h => ⟨.inl h.1, h.2⟩
    | next => exact h3.imp fun _ h => h.imp fun _ h => ⟨.inl h.1, h.2⟩
  · obtain ⟨σ₂, h1, h2⟩ := use hj
    exact fin σ₂ ν' h1 s (h2 hs)
theorem tri_fends {σ' : Sg} (hk : ∀ p ∈ kl, p ∈ ν) (h : AllSub σ σ') : Tri (K.frs X) sc s0 z σ ν [] (FS K sc X kl s0 σ' ν rest R) := tri_nil fun _ hs => ⟨σ, ν, ⟨h, rfl⟩, hk, hs.weak⟩
end
end Mine
end
noncomputable section
open PySem PySem.W PyProof.Rows PySem.Spec PySem.Calls
namespace Mine
set_option genInjectivity false
set_option genSizeOf false
/-! lists that change -/
/-- no other name tells a list that changes -/
noncomputable def noM (x : Str) : Sg → Bool
  | [] => true
  | (y, sv) :: r => (y == x || !isM sv) && noM x r
theorem noM_of {x : Str} : ∀ {σ : Sg}, noM x σ = true → ∀ y sv, y ≠ x → σ.lookup y = some sv → isM sv = false
  | (a, b) :: r, h, y, sv, hy, hl => by
    obtain ⟨h1, h2⟩ := (Bool.and_eq_true _ _).mp h
    refine lk_set (P := fun sv => isM sv = false) hl (fun e => ?_) fun _ hl => noM_of h2 y sv hy hl
    rcases (Bool.or_eq_true _ _).mp h1 with h1 | h1
    · exact absurd (e.trans (eq_of_beq h1)) hy
    · exact (Bool.not_eq_true' _).mp h1
noncomputable def setL (l : Lg) (q : Addr) (o : Obj) : Lg := l.map fun p => if p.1 = q then (q, o) else p
theorem setL_addr {l : Lg} {q : Addr} {o : Obj} : (setL l q o).map (·.1) = l.map (·.1) := by
  rw [setL, List.map_map]
  refine List.map_congr_left fun p _ => ?_
  show (if p.1 = q then (q, o) else p).1 = p.1
  split
  · exact Eq.symm (by assumption)
  · rfl
theorem setL_mem {l : Lg} {q : Addr} {o : Obj} {p : Addr × Obj} (h : p ∈ setL l q o) : p = (q, o) ∨ (p ∈ l ∧ p.1 ≠ q) := by
  obtain ⟨r, hr, rfl⟩ := List.mem_map.mp h
  by_cases e : r.1 = q
  · exact .inl (if_pos e)
  · rw [if_neg e]
    exact .inr ⟨hr, e⟩
theorem mem_setL {l : Lg} {q : Addr} {o o' : Obj} (h : (q, o') ∈ l) : (q, o) ∈ setL l q o := List.mem_map.mpr ⟨_, h, if_pos rfl⟩
section
variable {K : PC} {sc : Scope} {lv : Nat} {ν ν' : Lg} {s0 : Shared} {σ σ' : Sg} {z z' : Bool} {s : Shared} {Φ : Ora} {R : Flow → Shared → Prop} {rest body : List Stmt} {E Q : Value → Shared → Prop} {m cm : Str → Option Value} {κ : Lg × Lg} {x : Str} {q : Addr} {vs : List Value}
theorem PAtD.isM (h : PAtD K sc ν s0 σ z s m cm κ) (hl : σ.lookup x = some (.m q vs)) : Pl K sc m x q ∧ ∃ n, (q, listO vs n) ∈ κ.2 := by
  rcases h.a _ _ hl with ⟨_, _, _, hu⟩ | ⟨_, _, _, hu⟩ | ⟨_, _, _, hu⟩ | ⟨_, _, _, _, _, _, _, hu⟩ | ⟨q', vs', n, e, hm, hq⟩
  · exact hu.elim
  · exact hu.elim
  · exact hu.elim
  · exact hu.elim
  · cases e
    exact ⟨hm, n, hq⟩
theorem PAtD.mGet (h : PAtD K sc ν s0 σ z s m cm κ) {p : Addr × Obj} (hq : p ∈ κ.2) : s.heap.get? p.1 = some p.2 ∧ p.1 ≠ K.L ∧ K.g.get? p.1 = none := h.N _ (List.mem_append_right _ (List.mem_append_right _ (List.mem_append_left _ hq)))
theorem PAt.mIs (h : PAt K sc ν s0 σ z s) (hl : σ.lookup x = some (.m q vs)) : ∃ n, s.heap.get? q = some (listO vs n) := by
  refine PAt.el h fun m cm κ D => ?_
  obtain ⟨_, n, hq⟩ := D.isM hl
  exact ⟨n, (D.mGet hq).1⟩
theorem name_m (G : PGood K sc lv) {p : Pos} (hs : PAt K sc ν s0 σ z s) (hl : σ.lookup x = some (.m q vs)) (h : Q (.ref q) s) : wpAny (PM K.w) K.A (eval (.Name x p) (K.env sc)) Q E s := by
  refine PAt.el hs fun m cm κ D => ?_
  obtain ⟨⟨hx, hm⟩ | ⟨hx, c, o, hc, hm, hd⟩, -⟩ := D.isM hl
  · exact nameX_L D.F hm h G.kind (isK_of hx).1 (isK_of hx).2
  · obtain ⟨h1, h2⟩ := (Bool.and_eq_true _ _).mp hx
    exact nameX_F D.N hc (List.mem_append_right _ (List.mem_append_right _ (List.mem_append_right _ (G.fcz _ hm)))) hd h G.kind (isK_of h1).1 (isK_of h1).2 ((Bool.not_eq_true' _).mp h2)
/-- such a list changed -/
theorem PAt.mutate (h : PAt K sc ν s0 σ z s) (hl : σ.lookup x = some (.m q vs)) (hn : noM x σ = true) {h' : Heap} {us : List Value} {n' : Nat} (hsb : Heap.SameBut q s.heap h') (e : h'.get? q = some (listO us n')) (tk : Nat) : PAt K sc ν s0 ((x, .m q us) :: σ) false { s with heap := h', toks := tk } := by
  refine PAt.el h fun m cm κ D => ?_
  obtain ⟨hm, n, hq⟩ := D.isM hl
  have hg := D.mGet hq
  have nd := List.nodup_append.mp D.M
  have qin : q ∈ κ.2.map (·.1) := List.mem_map_of_mem (f := (·.1)) hq
  have st : ∀ p ∈ ν ++ K.hl κ, p.1 ≠ q → h'.get? p.1 = some p.2 ∧ p.1 ≠ K.L ∧ K.g.get? p.1 = none := fun p hp hne => ⟨(hsb.2 _ hne).trans (D.N p hp).1, (D.N p hp).2⟩
  have ha : K.ha (κ.1, setL κ.2 q (listO us n')) = K.ha κ := congrArg (· ++ K.hid) setL_addr
  refine ⟨m, cm, (κ.1, setL κ.2 q (listO us n')), congrArg (fun t : Shared => { t with heap := h', toks := tk }) D.e, ⟨D.F.ns.sameBut hsb (Ne.symm hg.2.1), fun b ob eb => (hsb.2 b fun w => ?_).trans (D.F.keep b ob eb), D.F.above⟩, fun p hp => ?_, D.Y, ha ▸ D.M, ha ▸ D.O, fun y sw hy => lk_set (P := Kn sc K m cm _ ν y) hy (fun w => .inr (.inr (.inr (.inr ⟨q, us, n', rfl, w ▸ hm, mem_setL hq⟩)))) fun w hy => (D.a y sw hy).mono rfl rfl (fun _ h => h) fun _ _ _ e => ?_, nofun⟩
  · have hg2 : K.g.get? q = none := hg.2.2
    rw [w, hg2] at eb
    cases eb
  · rcases List.mem_append.mp hp with hp | hp
    · exact st p (List.mem_append_left _ hp) fun e => D.O p hp (List.mem_append_left _ (e ▸ qin))
    rcases List.mem_append.mp hp with hp | hp
    · exact st p (List.mem_append_right _ (List.mem_append_left _ hp)) fun e => nd.2.2 q qin p.1 (List.mem_append_left _ (cells_addr D.Y ▸ List.mem_map_of_mem (f := (·.1)) hp)) e.symm
    rcases List.mem_append.mp hp with hp | hp
    · rcases setL_mem hp with rfl | hp
      · exact ⟨e, hg.2⟩
      · exact st p (List.mem_append_right _ (List.mem_append_right _ (List.mem_append_left _ hp.1))) hp.2
    · exact st p (List.mem_append_right _ (List.mem_append_right _ (List.mem_append_right _ hp))) fun e => nd.2.2 q qin p.1 (List.mem_append_right _ (List.mem_map_of_mem (f := (·.1)) hp)) e.symm
  · have := noM_of hn y sw w hy
    rw [e] at this
    cases this
/-- x.append(e) -/
theorem tri_appendX {e : Expr} {p ap pos p2 : Pos} {sv : SV} {S : Lg → Prop} (G : PGood K sc lv) (X : Ex K sc s0 z σ ν e sv S) (hl : σ.lookup x = some (.m q vs)) (hz : vs.length ≤ sizeLine) (h : ∀ ν' u, S ν' → Is ν' sv u → Tri K sc s0 false ((x, .m q (vs ++ [u])) :: σ) ν' rest R)
    (hn : noM x σ = true := by rfl) (hline : (ap.endLine == pos.line) = true := by rfl) (hi : interactive (K.env sc) = false := by rfl) (hst : noStar [e] = true := by rfl) (hsw : swapsWith (.Call (.Attribute (.Name x p) (Str.ofString "append") ap) [e] [] pos) none p2.line (K.env sc) = pure false := by rfl) :
    Tri K sc s0 z σ ν (.Expr (.Call (.Attribute (.Name x p) (Str.ofString "append") ap) [e] [] pos) p2 :: rest) R := fun s hs => by
  refine wpAny_execs_cons (wpAny_Expr (Call_method1 rfl (star_cons hst).1 hline (name_m G hs hl ?_)) hi hsw)
  obtain ⟨n, hq⟩ := hs.mIs hl
  refine ⟨"list", "list.append", F.plainAttrs_list, F.slot_list_append, F.type_list_append, ⟨_, hq, rfl⟩, fun a e => by cases e; exact ⟨_, hq, rfl⟩, Calls.callWith_builtin rfl (Calls.evalArgs_plain (Calls.spliced_cons (wpAny_mono (X s _ _ hs fun u ν1 s1 hs1 hS hu => ?_) (fun _ _ h₁ => Calls.spliced_nil h₁) fun _ _ e => e)))⟩
  obtain ⟨n1, hq1⟩ := hs1.mIs hl
  exact append_at hq1 (fun h' hsb e => h ν1 u hS hu _ (hs1.mutate hl hn hsb (by rw [e, List.push_toArray]) s1.toks)) (by rw [List.size_toArray]; exact hz)
theorem tri_append {e : Expr} {p ap pos p2 : Pos} {sv : SV} {c : List Prop} (G : PGood K sc lv) (O : OraOK K sc ν Φ) (hl : σ.lookup x = some (.m q vs)) (he : ev Φ σ z e = some (sv, z', c)) (hc : All c) (hz : vs.length ≤ sizeLine) (h : ∀ u, Is ν sv u → Tri K sc s0 false ((x, .m q (vs ++ [u])) :: σ) ν rest R)
    (hn : noM x σ = true := by rfl) (hline : (ap.endLine == pos.line) = true := by rfl) (hi : interactive (K.env sc) = false := by rfl) (hst : noStar [e] = true := by rfl) (hsw : swapsWith (.Call (.Attribute (.Name x p) (Str.ofString "append") ap) [e] [] pos) none p2.line (K.env sc) = pure false := by rfl) :
    Tri K sc s0 z σ ν (.Expr (.Call (.Attribute (.Name x p) (Str.ofString "append") ap) [e] [] pos) p2 :: rest) R :=
  tri_appendX G (ex_ev G O he hc) hl hz (fun ν' u e hu => by cases e; exact h u hu) hn hline hi hst hsw
theorem upd_get {h : Heap} {n : Nat} {f : Array Value → Array Value} {us : List Value} (hq : h.get? q = some (listO vs n)) (he : f vs.toArray = us.toArray) : ∃ n', (h.update q (Obj.mapSeq f)).get? q = some (listO us n') := ⟨_, he ▸ PySem.IsL.update hq f⟩
/-- x.reverse() -/
theorem tri_reverse {p ap pos p2 : Pos} (G : PGood K sc lv) (hl : σ.lookup x = some (.m q vs)) (hz : vs.length ≤ sizeLine) (h : Tri K sc s0 false ((x, .m q vs.reverse) :: σ) ν rest R)
    (hn : noM x σ = true := by rfl) (hline : (ap.endLine == pos.line) = true := by rfl) (hi : interactive (K.env sc) = false := by rfl) (hsw : swapsWith (.Call (.Attribute (.Name x p) (Str.ofString "reverse") ap) [] [] pos) none p2.line (K.env sc) = pure false := by rfl) :
    Tri K sc s0 z σ ν (.Expr (.Call (.Attribute (.Name x p) (Str.ofString "reverse") ap) [] [] pos) p2 :: rest) R := fun s hs => by
  refine wpAny_execs_cons (wpAny_Expr (Call_method0 rfl hline (name_m G hs hl ?_)) hi hsw)
  obtain ⟨n, hq⟩ := hs.mIs hl
  refine ⟨"list", "list.reverse", F.plainAttrs_list, F.slot_list_reverse, F.type_list_reverse, ⟨_, hq, rfl⟩, fun a e => by cases e; exact ⟨_, hq, rfl⟩, Calls.callWith_builtin rfl (PySem.evalArgs_none ?_)⟩
  obtain ⟨n', e⟩ := upd_get (us := vs.reverse) (f := fun x => x.reverse) hq (List.reverse_toArray ..)
  exact call_meets PySem.F.slot_list_reverse ⟨_, hq, rfl⟩ PySem.F.entry_list_reverse (PySem.F.args_list_reverse_1 _) (PySem.AutoSeq1.list_reverse_list_0 q vs.toArray n (by simpa using hz)) ⟨hq, h _ (hs.mutate hl hn (Heap.SameBut.update ..) e s.toks)⟩
theorem ins_eq {i : Int} {u : Value} (h0 : 0 ≤ i) (hil : i ≤ vs.length) : (have k := if i < 0 then (i + (vs.toArray.size : Int)).toNat else min i.toNat vs.toArray.size; (vs.toArray.extract 0 k).push u ++ vs.toArray.extract k) = (vs.take i.toNat ++ u :: vs.drop i.toNat).toArray := by
  have e : (if i < 0 then (i + (vs.toArray.size : Int)).toNat else min i.toNat vs.toArray.size) = i.toNat := by
    rw [if_neg (Int.not_lt.mpr h0), List.size_toArray]
    exact Nat.min_eq_left (Int.toNat_le.mpr hil)
  show (vs.toArray.extract 0 (if i < 0 then _ else _)).push u ++ vs.toArray.extract (if i < 0 then _ else _) = _
  rw [e]
  exact kl_ins_eq vs i.toNat u
theorem fits_ix {i : Int} {n : Nat} (h0 : 0 ≤ i) (hil : i ≤ n) (hz : n ≤ 1000) : ¬(!Builtin.List.listFitsIndex i) = true := by
  have : Builtin.List.listFitsIndex i = true := by
    unfold Builtin.List.listFitsIndex
    rw [decide_eq_true (Int.le_trans (by decide) h0), decide_eq_true (Int.lt_of_le_of_lt (Int.le_trans hil (Int.ofNat_le.mpr hz)) (by decide))]
    rfl
  rw [this]
  exact Bool.false_ne_true
/-- x.insert(i, e) -/
theorem tri_insert {e1 e2 : Expr} {p ap pos p2 : Pos} {i : Int} {sv : SV} {z1 : Bool} {c1 c2 : List Prop} (G : PGood K sc lv) (O : OraOK K sc ν Φ) (hl : σ.lookup x = some (.m q vs)) (he1 : ev Φ σ z e1 = some (.i i, z1, c1)) (hc1 : All c1) (he2 : ev Φ σ z1 e2 = some (sv, z', c2)) (hc2 : All c2) (hz : vs.length ≤ 1000) (h0 : 0 ≤ i) (hil : i ≤ vs.length) (h : ∀ u, Is ν sv u → Tri K sc s0 false ((x, .m q (vs.take i.toNat ++ u :: vs.drop i.toNat)) :: σ) ν rest R)
    (hn : noM x σ = true := by rfl) (hline : (ap.endLine == pos.line) = true := by rfl) (hi : interactive (K.env sc) = false := by rfl) (hst : starEach [e1, e2] (K.env sc) = [(false, eval e1 (K.env sc)), (false, eval e2 (K.env sc))] := by rfl) (hsw : swapsWith (.Call (.Attribute (.Name x p) (Str.ofString "insert") ap) [e1, e2] [] pos) none p2.line (K.env sc) = pure false := by rfl) :
    Tri K sc s0 z σ ν (.Expr (.Call (.Attribute (.Name x p) (Str.ofString "insert") ap) [e1, e2] [] pos) p2 :: rest) R := fun s hs => by
  refine wpAny_execs_cons (wpAny_Expr (Call_method2 rfl hst hline (name_m G hs hl ?_)) hi hsw)
  obtain ⟨n, hq⟩ := hs.mIs hl
  refine ⟨"list", "list.insert", F.plainAttrs_list, F.slot_list_insert, F.type_list_insert, ⟨_, hq, rfl⟩, fun a e => by cases e; exact ⟨_, hq, rfl⟩, Calls.callWith_builtin rfl (Calls.evalArgs_plain ?_)⟩
  refine Calls.spliced_cons (wpAny_mono (ev_ok (ev_of G O) he1 hc1 hs fun u1 s' hs' hu1 => ?_) (fun _ _ h => h) fun _ _ e => e)
  refine Is.ie hu1 fun t => ?_
  refine Calls.spliced_cons (wpAny_mono (ev_ok (ev_of G O) he2 hc2 hs' fun u2 s1 hs1 h2 => ?_) (fun _ _ h => Calls.spliced_nil h) fun _ _ e => e)
  obtain ⟨n1, hq1⟩ := hs1.mIs hl
  obtain ⟨n', e⟩ := upd_get (us := vs.take i.toNat ++ u2 :: vs.drop i.toNat) (f := fun xs => have k := if i < 0 then (i + (xs.size : Int)).toNat else min i.toNat xs.size; (xs.extract 0 k).push u2 ++ xs.extract k) hq1 (ins_eq h0 hil)
  exact call_meets PySem.F.slot_list_insert ⟨_, hq1, rfl⟩ PySem.F.entry_list_insert (PySem.F.args_list_insert_3 _ _ _) (PySem.AutoSeq1.list_insert_list_int_val_1 q vs.toArray n1 i t u2 (fits_ix h0 hil hz) (by rw [List.size_toArray]; exact Nat.le_trans hz (by decide))) ⟨hq1, h u2 h2 _ (hs1.mutate hl hn (Heap.SameBut.update ..) e s1.toks)⟩
/-- a new list set -/
theorem st_mX {n : Nat} {us : List Value} {Q : Unit → Shared → Prop} (G : PGood K sc lv) (hx : isLoc sc x = true) (hs : PAt (K.frs [(q, listO us n)]) sc ν s0 σ z s) (h : ∀ s', PAt K sc ν s0 ((x, .m q us) :: σ) false s' → Q () s') : wpAny (PM K.w) K.A (storeName (K.env sc) x (.ref q)) Q E s := by
  refine PAt.el hs fun m cm κ D => ?_
  have pm : (K.hl (κ.1, (q, listO us n) :: κ.2)).Perm ((K.frs [(q, listO us n)]).hl κ) := (List.perm_middle.symm).append_left _
  exact storeX_L D.F D.N (fun h' F' N' => h _ ⟨_, cm, (κ.1, (q, listO us n) :: κ.2), congrArg (fun t : Shared => { t with heap := h', toks := s.toks + 1 }) D.e, F', fun p hp => N' p ((List.mem_append.mp hp).elim (List.mem_append_left _) fun hp => List.mem_append_right _ (pm.mem_iff.mp hp)), D.Y, D.nodupX, fun p hp hq => D.O p hp (ha_frs.mem_iff.mpr hq), fun y sw hy => lk_set (P := Kn sc K (fun y => if y = x then some (.ref q) else m y) cm _ ν y) hy (fun w => .inr (.inr (.inr (.inr ⟨_, _, n, rfl, .inl ⟨by rw [w]; exact hx, if_pos w⟩, .head _⟩)))) fun w hy => (show Kn sc K m cm κ.2 ν y sw from D.a y sw hy).mono (if_neg w) rfl (fun _ h => h) fun _ _ n e h => ⟨e, n, .tail _ h⟩, nofun⟩) G.kind (isK_of hx).1
/-- x = [] -/
theorem tri_list0 {p1 lp p2 : Pos} (G : PGood K sc lv) (h : ∀ q, (∀ p ∈ ν, @LT.lt Nat _ p.1 q) → Tri K sc s0 false ((x, .m q []) :: σ) ν rest R) (hx : isLoc sc x = true := by rfl) (hsw : swapsWith (.List [] lp) (some (.Name x p1)) p2.line (K.env sc) = pure false := by rfl) : Tri K sc s0 z σ ν (.Assign [.Name x p1] (.List [] lp) p2 :: rest) R := fun s hs => by
  refine wpAny_execs_cons (wpAny_Assign_Name (List_ (spliced_none (wpAny_newObj_type ?_ (Nat.zero_le _)))) hsw)
  refine PAt.el hs fun m cm κ D => ?_
  exact st_mX G hx ⟨_, _, _, D.pushX (listO [] 0)⟩ fun s' hs' => h _ (fun p hp => Heap.lt_size (D.N p (List.mem_append_left _ hp)).1) s' hs'
/-- x, y = (e, [..]) -/
theorem tri_swapVM {x1 x2 : Str} {p1 p2 tp vp lp p : Pos} {k k' : Nat} {e1 : Expr} {es : List Expr} {v1 xl : SV} {c2 : List Prop} (G : PGood K sc lv) (O : OraOK K sc ν Φ) (X : Ex K sc s0 z σ ν e1 v1 (· = ν)) (hl : evl Φ σ false es = some (xl, z', c2)) (hc2 : All c2) (hz : len xl ≤ 1000) (h : ∀ q us, (∀ p ∈ ν, @LT.lt Nat _ p.1 q) → IsL ν xl us → Tri K sc s0 false ((x1, v1) :: (x2, .m q us) :: σ) ν rest R)
    (hx1 : isLoc sc x1 = true := by rfl) (hx2 : isLoc sc x2 = true := by rfl) (hn : noStar [e1, .List es lp] = true := by rfl) (hn2 : noStar es = true := by rfl) (hw : swappedStores [.Tuple [.Name x1 p1, .Name x2 p2] k tp] (.Tuple [e1, .List es lp] k' vp) (K.env sc) = pure (some [x1, x2]) := by rfl) :
    Tri K sc s0 z σ ν (.Assign [.Tuple [.Name x1 p1, .Name x2 p2] k tp] (.Tuple [e1, .List es lp] k' vp) p :: rest) R := fun s hs => by
  refine wpAny_execs_cons (Assign_Tuple_swapped ?_ rfl hw)
  refine Tuple_ (spliced_more (X s _ _ hs fun u1 ν1 s1 hs1 e i1 => spliced_more (List_ (el_ok (ev_of G O) hn2 hl hc2 (e ▸ hs1) fun us s2 hs2 hu => wpAny_newObj_type (spliced_none ?_) ?_)) rfl) (star_cons hn).1)
  · have lt := hs2.fresh
    refine PAt.el hs2 fun m cm κ D => ?_
    have P : PAt (K.frs [(s2.heap.objs.size, listO us 0)]) sc ν s0 σ z' { s2 with heap := s2.heap.push (listO us 0) } := ⟨_, _, _, D.pushX (listO us 0)⟩
    generalize { s2 with heap := s2.heap.push (listO us 0) } = s3 at P ⊢
    refine wpAny_newTuple ?_ (Nat.le_of_ble_eq_true rfl)
    refine unpackItems_tuple (items := #[u1, .ref s2.heap.objs.size]) G.han ⟨_, Heap.get?_push_size _ rfl, rfl, 0, rfl⟩ fun h' he' => ?_
    have hs4 := P.grow (h' := h') fun b o e => he' b o (Nat.ne_of_lt (Nat.lt_of_lt_of_le (Heap.lt_size e) (by rw [Heap.size_push]; exact Nat.le_succ _))) (Heap.get?_push_of_some _ e)
    exact assignInOrder_cons (wpAny_bindName (st_mX G hx2 hs4 fun s5 hs5 => assignInOrder_cons (wpAny_bindName (st_loc G hx1 hs5 (e ▸ i1) fun s6 hs6 => assignInOrder_nil (h _ us lt hu s6 hs6.weak)))))
  · show us.toArray.size ≤ sizeLine
    rw [List.size_toArray, IsL.length hu]
    exact Nat.le_trans hz (Nat.le_of_ble_eq_true rfl)
/-- the list changes no more -/
theorem tri_freeze (sv : SV) (hl : σ.lookup x = some (.m q vs)) (hi : ∀ ν' u, (∀ p ∈ ν, p ∈ ν') → (∃ n, u = .ref q ∧ (q, listO vs n) ∈ ν') → Is ν' sv u) (h : ∀ n, Tri K sc s0 z ((x, sv) :: σ) ((q, listO vs n) :: ν) rest R) (hn : noM x σ = true := by rfl) : Tri K sc s0 z σ ν rest R := fun s hs => by
  refine PAt.el hs fun m cm κ D => ?_
  obtain ⟨hm, n, hq⟩ := D.isM hl
  have nd := List.nodup_append.mp D.M
  have sub : (K.ha (κ.1, κ.2.filter fun p => p.1 != q)).Sublist (K.ha κ) := .append (.map _ List.filter_sublist) (.refl _)
  refine h n s ⟨m, cm, (κ.1, κ.2.filter fun p => p.1 != q), D.e, D.F, fun p hp => ?_, D.Y, D.M.sublist sub, fun p hp hh => ?_, fun y sw hy => lk_set (P := Kn sc K m cm _ _ y) hy (fun w => (w ▸ hm).elim (fun hm => .inl ⟨hm.1, .ref q, hm.2, hi _ _ (fun _ => .tail _) ⟨n, rfl, .head _⟩⟩) fun ⟨h1, c, o, h2, h3, h4⟩ => .inr (.inr (.inr (.inl ⟨h1, c, o, _, h2, h3, h4, hi _ _ (fun _ => .tail _) ⟨n, rfl, .head _⟩⟩)))) fun w hy => (D.a y sw hy).mono rfl rfl (fun _ => Is.mono fun _ => .tail _) fun _ _ _ e => ?_, D.b⟩
  · rcases List.mem_cons.mp hp with rfl | hp
    · exact D.mGet hq
    rcases List.mem_append.mp hp with hp | hp
    · exact D.N p (List.mem_append_left _ hp)
    rcases List.mem_append.mp hp with hp | hp
    · exact D.N p (List.mem_append_right _ (List.mem_append_left _ hp))
    rcases List.mem_append.mp hp with hp | hp
    · exact D.mGet (List.mem_filter.mp hp).1
    · exact D.N p (List.mem_append_right _ (List.mem_append_right _ (List.mem_append_right _ hp)))
  · rcases List.mem_cons.mp hp with rfl | hp
    · rcases List.mem_append.mp hh with hh | hh
      · obtain ⟨r, hr, e⟩ := List.mem_map.mp hh
        exact bne_iff_ne.mp (List.mem_filter.mp hr).2 e
      · exact nd.2.2 q (List.mem_map_of_mem (f := (·.1)) hq) q hh rfl
    · exact D.O p hp (sub.subset hh)
  · have := noM_of hn y sw w hy
    rw [e] at this
    cases this
end
end Mine
end
noncomputable section
open PySem PySem.W PyProof.Rows PySem.Spec PySem.Calls
namespace Mine
set_option genInjectivity false
set_option genSizeOf false
section
variable {K : PC} {sc : Scope} {lv : Nat} {ν ν' : Lg} {s0 : Shared} {σ σ' : Sg} {z z' z2 : Bool} {s : Shared} {Φ : Ora} {R : Flow → Shared → Prop} {rest body : List Stmt} {E Q : Value → Shared → Prop} {m cm : Str → Option Value} {κ : Lg × Lg} {x : Str} {q : Addr} {vs : List Value}
/-- a def of the text called with one keyword -/
theorem ex_callK (G : PGood K sc lv) (O : OraOK K sc ν Φ) {f kn : Str} {fa : Addr} {lv' : Nat} {es : List Expr} {ke : Expr} {p kp pos : Pos} {x xk sv : SV} {c ck : List Prop} {Rc : Lg → Lg → Value → Prop} {S : Lg → Prop} (ha : ∀ P, nsIn (hd.heap_39 P) mainGlobals f = some (some (.ref fa))) (hfn : FnIs fa) (hlv : lv' ≤ lv)
    (he : evl Φ σ z es = some (x, z', c)) (hc : All c) (hk : ev Φ σ z' ke = some (xk, z2, ck)) (hck : All ck) (C : ∀ us uk, IsL ν x us → Is ν xk uk → MCk fa lv' us [(kn, uk)] (fun n => ∀ p ∈ ν, p ∈ n) Rc) (hR : Gives Rc ν fun n v => S n ∧ Is n sv v) (hf : isGlo sc f = true := by rfl) (hok : okArgs es = true := by rfl) : Ex K sc s0 z σ ν (.Call (.Name f p) es [⟨some kn, ke, kp⟩] pos) sv S := fun s E Q hs h => by
  obtain ⟨e, r, rfl, e1, e2⟩ := ok_args (env := K.env sc) hok
  refine wpAny_Call_Name_kw (name_glob G.env G hf ha hs (callWith_of (P := FnAt fa) ?_ keeps_F (evalArgs_kw2 rfl (el_ok (ev_of G O) ((Bool.and_eq_true _ _).mp hok).2 he hc hs fun us s1 hs1 hu => ?_) e1)))
  · rw [e1]
    show ((false || (backTo pos (starEach r (K.env sc))).any (·.1)) || false) = false
    rw [star_plain e2]
    rfl
  · refine wpAny_evalAll_cons (wpAny_bind (ev_ok (ev_of G O) hk hck hs1 fun uk s2 hs2 huk => wpAny_bind (wpAny_standAt (wpAny_pure (wpAny_pure ⟨hs2.fnAt G hfn, ?_⟩)))))
    exact call_vs G hlv (C us uk hu huk) (fun _ _ => List.mem_append_left _) hR hs2 fun u ν' s' hs' hT => h u ν' s' hs' hT.1 hT.2
theorem PAtD.locl {K : PC} {sc : Scope} {ν : Lg} {s0 s : Shared} {σ : Sg} {z : Bool} {m cm : Str → Option Value} {κ : Lg × Lg} {x : Str} {sv : SV} (D : PAtD K sc ν s0 σ z s m cm κ) (hx : isLoc sc x = true) (hl : σ.lookup x = some sv) (hM : Mine.isM sv = false) : ∃ u, m x = some u ∧ Is ν sv u := by
  rcases D.a _ _ hl with ⟨_, u, hm, h⟩ | ⟨hc, -⟩ | ⟨hg, -⟩ | ⟨hg, -⟩ | ⟨_, _, _, e, -⟩
  · exact ⟨u, hm, h⟩
  · cases (isK_of hx).1.symm.trans (isK_of hc.1).1
  · cases (isK_of hx).1.symm.trans (isK_of hg).1
  · cases (isK_of hx).1.symm.trans (isK_of ((Bool.and_eq_true _ _).mp hg).1).1
  · rw [e] at hM
    cases hM
/-- a parameter that is a list, to be changed -/
noncomputable def allFlat : Sg → Bool
  | [] => true
  | (_, sv) :: r => flat sv && allFlat r
theorem allFlat_of {x : Str} {sv : SV} : ∀ {σ : Sg}, allFlat σ = true → σ.lookup x = some sv → flat sv = true
  | (a, b) :: r, h, hl => lk_set (P := fun sv => flat sv = true) hl (fun _ => ((Bool.and_eq_true _ _).mp h).1) fun _ hl => allFlat_of ((Bool.and_eq_true _ _).mp h).2 hl
noncomputable def allFM : Sg → Bool
  | [] => true
  | p :: r => (isM p.2 || flat p.2) && allFM r
theorem mflat {u : Value} (h : (isM sv || flat sv) = true) (hu : Is ν sv u) : Is ν' sv u := ((Bool.or_eq_true _ _).mp h).elim (fun h => by cases sv <;> first | exact hu.elim | cases h) fun h => (flat_is h).1 u hu
/-- what needs no ledger stays over any -/
theorem subF_of : ∀ {σ' : Sg}, AllSub σ σ' → allFM σ' = true → ∀ x sv, σ'.lookup x = some sv → ∃ sw, σ.lookup x = some sw ∧ Le ν ν' sw sv
  | (y, v) :: r, h, hf, x, sv, hx => lk_set (P := fun sv => ∃ sw, σ.lookup x = some sw ∧ Le ν ν' sw sv) hx (fun q => ⟨v, q ▸ h.1, fun u hu => mflat ((Bool.and_eq_true _ _).mp hf).1 hu, fun _ _ e => e⟩) fun _ hx => subF_of h.2 ((Bool.and_eq_true _ _).mp hf).2 x sv hx
theorem tri_thaw (x : Str) (hl : σ.lookup x = some (.lv q vs)) (hσ : AllSub σ σ') (hf : allFlat σ' = true) (hx : isLoc sc x = true) (h : Tri K sc s0 z ((x, .m q vs) :: σ') (ν.filter fun p => p.1 != q) rest R) : Tri K sc s0 z σ ν rest R := fun s hs => by
  refine PAt.el hs fun m cm κ D => ?_
  rcases D.a _ _ hl with ⟨_, u, hm, rfl, n, hq⟩ | ⟨hc, -⟩ | ⟨hg, -⟩ | ⟨hg, -⟩ | ⟨_, _, _, e, -⟩
  · have hoff := D.O _ hq
    refine h s ⟨m, cm, (κ.1, (q, listO vs n) :: κ.2), D.e, D.F, fun p hp => ?_, D.Y, List.nodup_cons.mpr ⟨hoff, D.M⟩, fun p hp hh => ?_, fun y sw hy => lk_set (P := Kn sc K m cm _ _ y) hy (fun w => .inr (.inr (.inr (.inr ⟨q, vs, n, rfl, .inl ⟨by rw [w]; exact hx, by rw [w]; exact hm⟩, .head _⟩)))) fun w hy => ?_, D.b⟩
    · rcases List.mem_append.mp hp with hp | hp
      · exact D.N p (List.mem_append_left _ (List.mem_filter.mp hp).1)
      rcases List.mem_append.mp hp with hp | hp
      · exact D.N p (List.mem_append_right _ (List.mem_append_left _ hp))
      refine mem_c hp ?_ fun hp => ?_
      · exact D.N _ (List.mem_append_left _ hq)
      · exact D.N p (List.mem_append_right _ (List.mem_append_right _ hp))
    · rcases List.mem_cons.mp hh with e | hh
      · exact bne_iff_ne.mp (List.mem_filter.mp hp).2 e
      · exact D.O p (List.mem_filter.mp hp).1 hh
    · have hfl := allFlat_of hf hy
      obtain ⟨sw', h1, h2⟩ := sub_of (ν := ν) hσ.get y sw hy
      refine (D.a y sw' h1).mono rfl rfl (fun u hu => (flat_is hfl).1 u (h2.1 u hu)) fun q vs n e h => ?_
      rw [h2.2 q vs e] at hfl
      cases hfl
  · cases (isK_of hx).1.symm.trans (isK_of hc.1).1
  · cases (isK_of hx).1.symm.trans (isK_of hg).1
  · cases (isK_of hx).1.symm.trans (isK_of ((Bool.and_eq_true _ _).mp hg).1).1
  · cases e
/-- a list changed, nothing comes back -/
noncomputable def Mut (q : Addr) (T : List Value → Prop) (n n' : Lg) (v : Value) : Prop := ∃ us k, T us ∧ n' = setL n q (listO us k) ∧ v = .none
theorem tri_doneM {n : Lg} {T : List Value → Prop} (hl : σ.lookup x = some (.m q vs)) (ht : T vs) (hn : ∀ p ∈ n, p.1 ≠ q → p ∈ ν) (hR : ∀ s, Done K.g K.L (Mut q T n) s0 .none s → R .next s := by exact fun _ h => h) : Tri K sc s0 z σ ν [] R := tri_nil fun s hs => by
  refine PAt.el hs fun m cm κ D => ?_
  obtain ⟨_, k, hq⟩ := D.isM hl
  refine hR s (D.e ▸ Done.of D.F (fun p hp => ?_) (fun _ h => h) ⟨vs, k, ht, rfl, rfl⟩)
  rcases setL_mem hp with rfl | hp
  · exact D.mGet hq
  · exact D.N p (List.mem_append_left _ (hn p hp.1 hp.2))
end
end Mine
end
noncomputable section
open PySem
namespace Mine
theorem bits_n {a k n : Nat} (h : a < 2 ^ k) (hk : k + n ≤ 2 ^ 27) : (Builtin.Int.intBits (a : Int) : Int) + (n : Int) ≤ 2 ^ 27 := by
  have : Builtin.Int.intBits (a : Int) ≤ k := by
    unfold Builtin.Int.intBits
    by_cases h0 : a = 0
    · subst h0; simp
    · have h1 : ((a : Int) == 0) = false := by simp [h0]
      rw [h1]
      have := (Nat.log2_lt h0).2 h
      simp
      lia
  lia
theorem or_eq (x b : Nat) : Builtin.bitOr (x : Int) (b : Int) = ((x ||| b : Nat) : Int) := by
  unfold Builtin.bitOr Builtin.bitAnd Builtin.bitNot
  have h1 : decide ((0 : Int) ≤ -(x : Int) - 1) = false := by simp; lia
  have h2 : decide ((0 : Int) ≤ -(b : Int) - 1) = false := by simp; lia
  rw [h1, h2]
  show -(-((((-(-(x : Int) - 1) - 1).toNat ||| (-(-(b : Int) - 1) - 1).toNat : Nat)) : Int) - 1) - 1 = _
  have h3 : (-(-(x : Int) - 1) - 1).toNat = x := by lia
  have h4 : (-(-(b : Int) - 1) - 1).toNat = b := by lia
  rw [h3, h4]
  lia
theorem or_add_eq (a b n : Nat) (hb : b < 2 ^ n) : Builtin.bitOr ((a * 2 ^ n : Nat) : Int) (b : Int) = ((a * 2 ^ n + b : Nat) : Int) := by
  rw [or_eq, Nat.mul_comm, ← Nat.two_pow_add_eq_or_of_lt hb]
theorem no_pylong (a b n : Nat) (hn : 1 ≤ n) (ha : (Builtin.Int.intBits (a : Int) : Int) - (n : Int) ≤ 4000) (hb : 2 ^ (n - 1) ≤ b) : Builtin.divisionGoesByPylong (a : Int) (b : Int) = false := by
  unfold Builtin.divisionGoesByPylong
  have hb0 : b ≠ 0 := by have := Nat.two_pow_pos (n - 1); lia
  have hlb : n - 1 ≤ b.log2 := (Nat.le_log2 hb0).2 hb
  have h2 : ((b : Int) == 0) = false := by simp [hb0]
  unfold Builtin.Int.intBits at ha
  by_cases h0 : a = 0
  · subst h0; simp
  · have h1 : ((a : Int) == 0) = false := by simp [h0]
    rw [h1] at ha
    simp [h0, hb0] at ha ⊢
    lia
theorem sum21 (a' b' half : Nat) (hb : 0 < b') : ((a' / 2 ^ half) / b') * 2 ^ half + ((a' / 2 ^ half) % b' * 2 ^ half + a' % 2 ^ half) / b' = a' / b' ∧ ((a' / 2 ^ half) % b' * 2 ^ half + a' % 2 ^ half) % b' = a' % b' := by
  have h1 := Nat.div_add_mod (a' / 2 ^ half) b'
  have h2 := Nat.div_add_mod a' (2 ^ half)
  generalize a' / 2 ^ half = x at *
  generalize a' % 2 ^ half = lo at *
  generalize x / b' = q at *
  generalize x % b' = r at *
  have e : a' = (r * 2 ^ half + lo) + b' * (q * 2 ^ half) := by rw [← h2, ← h1]; grind
  rw [e, Nat.add_mul_div_left _ _ hb, Nat.add_mul_mod_self_left]
  exact ⟨Nat.add_comm _ _, rfl⟩
theorem pad21 (a b n P H : Nat) (hH : n + P = 2 * H) (hn1 : 1 ≤ n) (hb1 : 2 ^ (n - 1) ≤ b) (hb2 : b < 2 ^ n) (hab : a < b * 2 ^ n) :
    b * 2 ^ P < 2 ^ (2 * H) ∧ 2 ^ (2 * H - 1) ≤ b * 2 ^ P ∧ a * 2 ^ P < b * 2 ^ P * 2 ^ (2 * H) ∧ a * 2 ^ P / (b * 2 ^ P) = a / b ∧ (a * 2 ^ P % (b * 2 ^ P)) / 2 ^ P = a % b := by
  refine ⟨?_, ?_, ?_, Nat.mul_div_mul_right _ _ (Nat.two_pow_pos P), by rw [Nat.mul_mod_mul_right, Nat.mul_div_cancel _ (Nat.two_pow_pos P)]⟩
  · rw [← hH, Nat.pow_add]; exact Nat.mul_lt_mul_of_pos_right hb2 (Nat.two_pow_pos P)
  · rw [← hH, show n + P - 1 = (n - 1) + P by lia, Nat.pow_add]; exact Nat.mul_le_mul_right _ hb1
  · rw [← hH, Nat.pow_add]
    calc a * 2 ^ P < b * 2 ^ n * 2 ^ P := Nat.mul_lt_mul_of_pos_right hab (Nat.two_pow_pos P)
      _ = b * 2 ^ n * 2 ^ P * 1 := (Nat.mul_one _).symm
      _ ≤ b * 2 ^ n * 2 ^ P * 2 ^ P := Nat.mul_le_mul_left _ (Nat.two_pow_pos P)
      _ = b * 2 ^ P * (2 ^ n * 2 ^ P) := by grind
theorem big21 {a b n : Nat} (hb2 : b < 2 ^ n) (hab : a < b * 2 ^ n) : a < 2 ^ (2 * n) := by
  have : b * 2 ^ n < 2 ^ n * 2 ^ n := Nat.mul_lt_mul_of_pos_right hb2 (Nat.two_pow_pos n)
  rw [← Nat.pow_add] at this
  rw [Nat.two_mul]; lia
theorem bits_le {a k : Nat} (h : a < 2 ^ k) : Builtin.Int.intBits (a : Int) ≤ k := by
  unfold Builtin.Int.intBits
  by_cases h0 : a = 0
  · subst h0; simp
  · have h1 : ((a : Int) == 0) = false := by simp [h0]
    rw [h1]
    have := (Nat.log2_lt h0).2 h
    simp
    lia
/-- what the two halves of a division ask -/
theorem half21 {a b H : Nat} (hH : 1 ≤ H) (hb1 : 2 ^ (2 * H - 1) ≤ b) (hb2 : b < 2 ^ (2 * H)) (hab : a < b * 2 ^ (2 * H)) :
    b = b / 2 ^ H * 2 ^ H + b % 2 ^ H ∧ 2 ^ (H - 1) ≤ b / 2 ^ H ∧ b / 2 ^ H < 2 ^ H ∧ b % 2 ^ H < 2 ^ H ∧ a / 2 ^ H % 2 ^ H < 2 ^ H ∧ a / 2 ^ (2 * H) * 2 ^ H + a / 2 ^ H % 2 ^ H = a / 2 ^ H ∧ a / 2 ^ H < b * 2 ^ H ∧ a % 2 ^ H < 2 ^ H ∧ (∀ r, r < b → r * 2 ^ H + a % 2 ^ H < b * 2 ^ H) ∧ a / 2 ^ H / b < 2 ^ H ∧ 0 < b := by
  have hp := Nat.two_pow_pos H
  have e2 : 2 ^ (2 * H) = 2 ^ H * 2 ^ H := by rw [Nat.two_mul, Nat.pow_add]
  have h7 : a / 2 ^ H < b * 2 ^ H := by rw [Nat.div_lt_iff_lt_mul hp, Nat.mul_assoc, ← e2]; exact hab
  have hb0 : 0 < b := by have := Nat.two_pow_pos (2 * H - 1); lia
  refine ⟨?_, ?_, ?_, Nat.mod_lt _ hp, Nat.mod_lt _ hp, ?_, h7, Nat.mod_lt _ hp, ?_, ?_⟩
  · have := Nat.div_add_mod b (2 ^ H); rw [Nat.mul_comm] at this; exact this.symm
  · rw [Nat.le_div_iff_mul_le hp, ← Nat.pow_add]
    exact Nat.le_trans (Nat.pow_le_pow_right (by decide) (by lia)) hb1
  · rw [Nat.div_lt_iff_lt_mul hp, ← e2]; exact hb2
  · have := Nat.div_add_mod (a / 2 ^ H) (2 ^ H)
    rw [Nat.div_div_eq_div_mul, ← e2, Nat.mul_comm] at this
    exact this
  · intro r hr
    have h8 := Nat.mod_lt a hp
    have : (r + 1) * 2 ^ H ≤ b * 2 ^ H := Nat.mul_le_mul_right _ hr
    rw [Nat.add_mul] at this
    lia
  · exact ⟨by rw [Nat.div_lt_iff_lt_mul hb0, Nat.mul_comm]; exact h7, hb0⟩
theorem eq32 {x y b b1 b2 n : Nat} (hb : b = b1 * 2 ^ n + b2) (h : x / 2 ^ n = b1) (hab : x * 2 ^ n + y < b * 2 ^ n) :
    (x : Int) - ((b1 * 2 ^ n : Nat) : Int) + (b1 : Int) = ((x - b1 * 2 ^ n + b1 : Nat) : Int) ∧ (2 ^ n - 1) * b1 + (x - b1 * 2 ^ n + b1) = x ∧ (x - b1 * 2 ^ n + b1) * 2 ^ n + y < b + (2 ^ n - 1) * b2 := by
  have hp := Nat.two_pow_pos n
  have h1 : b1 * 2 ^ n ≤ x := by rw [← h]; exact Nat.div_mul_le_self _ _
  obtain ⟨k, hk⟩ : ∃ k, 2 ^ n = k + 1 := ⟨2 ^ n - 1, by lia⟩
  obtain ⟨z, rfl⟩ : ∃ z, x = b1 * 2 ^ n + z := ⟨x - b1 * 2 ^ n, by lia⟩
  rw [Nat.add_sub_cancel_left, hk, Nat.add_sub_cancel]
  refine ⟨by push_cast; lia, by grind, ?_⟩
  subst hb
  rw [hk] at hab
  grind
theorem ne32 {x y b b1 b2 n : Nat} (hb : b = b1 * 2 ^ n + b2) (h : x / 2 ^ n ≠ b1) (hb1 : 0 < b1) (hb2 : b2 < 2 ^ n) (hy : y < 2 ^ n) (hab : x * 2 ^ n + y < b * 2 ^ n) :
    x < b1 * 2 ^ n ∧ x / b1 * b1 + x % b1 = x ∧ x % b1 * 2 ^ n + y < b + x / b1 * b2 := by
  have hp := Nat.two_pow_pos n
  have hxb : x < b := Nat.lt_of_mul_lt_mul_right (Nat.lt_of_le_of_lt (Nat.le_add_right _ _) hab)
  have h1 : x / 2 ^ n ≤ b1 := by
    have : x / 2 ^ n < b1 + 1 := by rw [Nat.div_lt_iff_lt_mul hp, Nat.add_mul]; lia
    lia
  refine ⟨?_, by rw [Nat.mul_comm]; exact Nat.div_add_mod x b1, ?_⟩
  · have : x / 2 ^ n < b1 := by lia
    exact (Nat.div_lt_iff_lt_mul hp).1 this
  · have h2 := Nat.mod_lt x hb1
    have : (x % b1 + 1) * 2 ^ n ≤ b1 * 2 ^ n := Nat.mul_le_mul_right _ h2
    rw [Nat.add_mul] at this
    lia
theorem fin32 {a b : Nat} {q r : Int} (h : q * b + r = a) (h0 : 0 ≤ r) (h1 : r < b) : q = ((a / b : Nat) : Int) ∧ r = ((a % b : Nat) : Int) := by
  have hb : (0 : Int) < b := by lia
  have e : (a : Int) / b = q ∧ (a : Int) % b = r := (Int.ediv_emod_unique hb).2 ⟨by rw [← h]; grind, h0, h1⟩
  push_cast
  exact ⟨e.1.symm, e.2.symm⟩
theorem mask_e (H : Nat) : ((1 * 2 ^ H : Nat) : Int) - 1 = ((2 ^ H - 1 : Nat) : Int) := by
  have := Nat.two_pow_pos H
  lia
end Mine
end
noncomputable section
open PySem PySem.W PyProof.Rows PySem.Spec PySem.Calls
namespace Mine
set_option genInjectivity false
set_option genSizeOf false
theorem Fn.cast {f : Addr} {lv : Nat} {x x' : SV} {Rc : Lg → Lg → Value → Prop} (hq : x = x') (C : Fn f lv x' Rc) : Fn f lv x Rc := hq ▸ C
section
variable {K : PC} {sc : Scope} {lv : Nat} {ν ν' : Lg} {s0 : Shared} {σ σ' : Sg} {z z' z2 : Bool} {s : Shared} {Φ : Ora} {R : Flow → Shared → Prop} {rest body : List Stmt} {E Q : Value → Shared → Prop} {m cm : Str → Option Value} {κ : Lg × Lg} {x y : Str} {q : Addr} {vs : List Value} {sv sv' sw sw' : SV} {n : Lg}
theorem tri_val (hq : sv = sv') (h : Tri K sc s0 z ((x, sv') :: σ) ν rest R) : Tri K sc s0 z ((x, sv) :: σ) ν rest R := hq ▸ h
theorem tri_val2 (hq : sv = sv') (hw : sw = sw') (h : Tri K sc s0 z ((x, sv') :: (y, sw') :: σ) ν rest R) : Tri K sc s0 z ((x, sv) :: (y, sw) :: σ) ν rest R := hq ▸ hw ▸ h
theorem no_divmod : ∀ P, nsIn (hd.heap_39 P) mainGlobals (Str.ofString "divmod") = some none := fun _ => rfl
theorem bt_divmod : bootBuiltins (Str.ofString "divmod") = some (.builtin "divmod") := by decide +kernel
/-- return divmod(a, b) -/
theorem tri_retDM {es : List Expr} {p pos p2 : Pos} {a b : Int} {c : List Prop} {cc : SV} (G : PGood K sc lv) (O : OraOK K sc ν Φ) (he : evl Φ σ z es = some (i2c a b, z', c)) (hc : All c) (hb : b ≠ 0) (hp : Builtin.divisionGoesByPylong a b = false) (hq : i2c (a.fdiv b) (a.fmod b) = cc) (hn : ∀ p ∈ n, p ∈ ν := by exact fun _ h => h) (hR : ∀ u s, Done K.g K.L (New (.t cc) n) s0 u s → R (.ret u) s := by exact fun _ _ h => h) (hf : isGlo sc (Str.ofString "divmod") = true := by rfl) (hok : okArgs es = true := by rfl) :
    Tri K sc s0 z σ ν (.Return (some (.Call (.Name (Str.ofString "divmod") p) es [] pos)) p2 :: rest) R := fun s hs => by
  refine wpAny_execs_cons (wpAny_Return_some (wpAny_Call_NameR (name_built G.env G hf no_divmod bt_divmod (by decide) hs ?_)))
  obtain ⟨e, r, rfl, e1, e2⟩ := ok_args (env := K.env sc) hok
  refine callWith_builtin1 (el_ok (ev_of G O) ((Bool.and_eq_true _ _).mp hok).2 he hc hs fun us s1 hs1 hu => ?_) e1 (star_plain e2)
  obtain ⟨_, _, rfl, ⟨t, rfl⟩, _, _, rfl, ⟨t', rfl⟩, rfl⟩ := hu
  refine divmod_int hb (hR _ _ ?_) (.inl hp)
  have lt := hs1.fresh
  have P := (hs1.push (tupO [.int (a.fdiv b) s1.toks, .int (a.fmod b) (s1.toks + 1)])).tok (s1.toks + 1 + 1) false nofun
  exact done_ok (ν' := (s1.heap.objs.size, tupO [.int (a.fdiv b) s1.toks, .int (a.fmod b) (s1.toks + 1)]) :: n) P (fun p hp => (List.mem_cons.mp hp).elim (fun e => e ▸ .head _) fun hp => .tail _ (hn p hp)) ⟨_, _, rfl, hq ▸ ⟨_, _, rfl, .head _, _, _, rfl, ⟨_, rfl⟩, _, _, rfl, ⟨_, rfl⟩, rfl⟩, fun p hp => lt p (hn p hp)⟩
end
theorem rsh_n (a n : Nat) : (a : Int).fdiv (2 ^ (n : Int).toNat) = ((a / 2 ^ n : Nat) : Int) := by
  rw [Int.toNat_natCast, Int.fdiv_eq_ediv_of_nonneg _ (Int.le_of_lt (Int.pow_pos (by decide)))]
  norm_cast
theorem lsh_n (a n : Nat) : (a : Int) * 2 ^ (n : Int).toNat = ((a * 2 ^ n : Nat) : Int) := by
  rw [Int.toNat_natCast]
  norm_cast
theorem and_n (a n : Nat) : Builtin.bitAnd (a : Int) ((2 ^ n - 1 : Nat) : Int) = ((a % 2 ^ n : Nat) : Int) := by
  show ((a &&& (2 ^ n - 1) : Nat) : Int) = _
  rw [Nat.and_two_pow_sub_one_eq_mod]
theorem dm_n (a b : Nat) : (a : Int).fdiv b = ((a / b : Nat) : Int) ∧ (a : Int).fmod b = ((a % b : Nat) : Int) := by
  rw [Int.fdiv_eq_ediv_of_nonneg _ (Int.natCast_nonneg b), Int.fmod_eq_emod_of_nonneg _ (Int.natCast_nonneg b)]
  exact ⟨rfl, rfl⟩
end Mine
end
noncomputable section
open PySem PySem.W PyProof.Rows PySem.Spec PySem.Calls
namespace Mine
set_option genInjectivity false
set_option genSizeOf false
noncomputable abbrev D21 (d : Nat) : Prop := ∀ (a b n : Nat), 1 ≤ n → n ≤ 4000 * 2 ^ d → 2 ^ (n - 1) ≤ b → b < 2 ^ n → a < b * 2 ^ n → Fn 74 (2 * d + 1) (.p (.i a) (i2c b n)) (New (.t (i2c ((a / b : Nat) : Int) ((a % b : Nat) : Int))))
noncomputable abbrev D32 (d : Nat) : Prop := ∀ (x y b b1 b2 n : Nat), 1 ≤ n → n ≤ 4000 * 2 ^ d → b = b1 * 2 ^ n + b2 → 2 ^ (n - 1) ≤ b1 → b1 < 2 ^ n → b2 < 2 ^ n → y < 2 ^ n → x * 2 ^ n + y < b * 2 ^ n → Fn 81 (2 * d + 2) (.p (.i x) (.p (.i y) (.p (.i b) (.p (.i b1) (i2c b2 n))))) (New (.t (i2c (((x * 2 ^ n + y) / b : Nat) : Int) (((x * 2 ^ n + y) % b : Nat) : Int))))
theorem at_32 : ∀ P, nsIn (hd.heap_39 P) mainGlobals (Str.ofString "_div3n2n") = some (some (.ref 81)) := fun P => by k_dflt k_is
theorem is_32 : FnIs 81 := fun P => ⟨_, _, _, _, by k_dflt k_is⟩
theorem at_21 : ∀ P, nsIn (hd.heap_39 P) mainGlobals (Str.ofString "_div2n1n") = some (some (.ref 74)) := fun P => by k_dflt k_is
theorem is_21 : FnIs 74 := fun P => ⟨_, _, _, _, by k_dflt k_is⟩
/-- the sizes that come up -/
theorem sz21 {d n : Nat} (hd : d ≤ 6) (hn : n ≤ 4000 * 2 ^ d) : n ≤ 256000 := Nat.le_trans hn (Nat.mul_le_mul_left 4000 (Nat.pow_le_pow_right (n := 2) (by decide) hd))
theorem sum27 {n k l : Nat} (hn : n ≤ 256000) (hk : k ≤ 256001) (hl : l ≤ 600000) : n + k + l ≤ 2 ^ 27 := Nat.le_trans (Nat.add_le_add (Nat.add_le_add hn hk) hl) (by decide)
theorem dec21 {d n : Nat} {x : Int} (hA : x ≤ 2 * (n : Int)) (hn : n ≤ 4000 * 2 ^ d) (h : ¬ x - (n : Int) ≤ 4000) : d = d - 1 + 1 := by
  cases d with
  | zero => exact absurd (show x - (n : Int) ≤ 4000 by lia) h
  | succ e => rfl
theorem hlf21 {n H P X : Nat} (hn : n ≤ 4000 * (X * 2)) (hn1 : 1 ≤ n) (h : n + P = 2 * H) (hP : P < 2) : H ≤ 4000 * X ∧ 1 ≤ H := by lia
theorem two21 (n : Nat) : n % 2 ^ 1 = 0 ∨ n % 2 ^ 1 = 1 := Nat.mod_two_eq_zero_or_one n
theorem ev21 (n : Nat) : n + n % 2 ^ 1 = 2 * ((n + n % 2 ^ 1) / 2) := by lia
theorem d21_of {d : Nat} (hd : d ≤ 6) (h32 : ∀ e, d = e + 1 → D32 e) : D21 d := by
  intro a b n hn1 hn hb1 hb2 hab
  intro ν0 us hu
  refine IsL.e3 hu fun u1 u2 u3 i1 i2 i3 => ?_
  unfold MCk
  k_fill
  k_dflt refine' mc_tri (lv := 2 * d) [((Str.ofString "a"), u1), ((Str.ofString "b"), u2), ((Str.ofString "n"), u3)] [((Str.ofString "a"), (.i a)), ((Str.ofString "b"), (.i b)), ((Str.ofString "n"), (.i n)), ((Str.ofString "_DIV_LIMIT"), .i 4000)] (fun P => ?ho) (fun P => ?hcd) (fun w s X => ?hb) ?hnd ?hkd ?hc0 ?h1 ?h2 ?h3 (fun ν hν => ?hs) (fun K ν s9 G hν lt hfz hcl hq => ?body)
  case ho => k_dflt k_is
  case hcd => k_dflt k_is
  case hb => exact BindsTo.of_eq rfl
  case hnd => exact (by decide : (["a", "b", "n"].map Str.ofString).Nodup)
  case hkd => rfl
  case hc0 => exact List.nodup_nil
  case h1 => rfl
  case h2 => rfl
  case h3 => rfl
  case hs => exact ⟨rfl, .inl rfl, Is.mono hν i1, rfl, .inl rfl, Is.mono hν i2, rfl, .inl rfl, Is.mono hν i3, ⟨rfl, _, fun P => by k_dflt k_is, ⟨_, rfl⟩⟩, trivial⟩
  have hA : a < 2 ^ (2 * n) := big21 hb2 hab
  have hz := sz21 hd hn
  refine tri_if G .nil rfl trivial (fun h => ?_) fun h => tri_next ?_
  · exact tri_retDM G .nil rfl trivial (Int.natCast_ne_zero.mpr (Nat.ne_of_gt (Nat.lt_of_lt_of_le (Nat.two_pow_pos _) hb1))) (no_pylong a b n hn1 (of_decide_eq_true h) hb1) (by rw [(dm_n a b).1, (dm_n a b).2])
  obtain ⟨e, rfl⟩ : ∃ e, d = e + 1 := ⟨d - 1, dec21 (Int.ofNat_le.mpr (bits_le hA)) hn (of_decide_eq_false h)⟩
  have h32' := h32 e rfl
  refine tri_asg G .nil rfl trivial (tri_val (congrArg SV.i (and_n n 1)) ?_)
  have hP := two21 n
  have hH := ev21 n
  generalize (n + n % 2 ^ 1) / 2 = H at hH
  generalize n % 2 ^ 1 = P at hP hH ⊢
  refine tri_meet [((Str.ofString "a"), .i (a * 2 ^ P : Nat)), ((Str.ofString "b"), .i (b * 2 ^ P : Nat)), ((Str.ofString "n"), .i (n + P : Nat)), ((Str.ofString "pad"), .i (P : Nat))] (fun R' loop => ?_) ?_
  · rcases hP with rfl | rfl
    · exact tri_if G .nil rfl trivial (fun h => nomatch h) fun _ => tri_next (tri_mono loop (fun h => nomatch h) (fun _ h => h) (sub_of (AllSub.get ⟨(congrArg (fun t : Nat => some (SV.i t)) (Nat.mul_one a)).symm, (congrArg (fun t : Nat => some (SV.i t)) (Nat.mul_one b)).symm, rfl, rfl, trivial⟩)))
    · exact tri_if G .nil rfl trivial (fun _ => tri_aug G .nil rfl rfl trivial rfl ⟨by decide, bits_n (n := 1) hA (by rw [Nat.two_mul]; exact sum27 hz (Nat.le_succ_of_le hz) (by decide)), trivial⟩ (tri_aug G .nil rfl rfl trivial rfl ⟨by decide, bits_n (n := 1) hb2 (sum27 hz (by decide) (Nat.zero_le _)), trivial⟩ (tri_aug G .nil rfl rfl trivial rfl trivial (tri_next (tri_mono loop (fun h => nomatch h) (fun _ h => h) (sub_of (AllSub.get ⟨congrArg (fun t => some (SV.i t)) (lsh_n a 1), congrArg (fun t => some (SV.i t)) (lsh_n b 1), rfl, rfl, trivial⟩))))))) fun h => nomatch h
  obtain ⟨hb2', hb1', hab', hfq, hfr⟩ := pad21 a b n P H hH hn1 hb1 hb2 hab
  obtain ⟨hHn, hH1⟩ := hlf21 (X := 2 ^ e) hn hn1 hH (by rcases hP with rfl | rfl <;> decide)
  have hHz := sz21 (Nat.le_of_succ_le hd) hHn
  rw [hH]
  generalize a * 2 ^ P = a' at *
  generalize b * 2 ^ P = b' at *
  obtain ⟨g1, g2, g3, g4, g5, g6, g7, g8, g9, g10, g11⟩ := half21 hH1 hb1' hb2' hab'
  refine tri_asg G .nil rfl ⟨by decide, trivial⟩ (tri_val (congrArg SV.i ((rsh_n (2 * H) 1).trans (congrArg (fun t : Nat => (t : Int)) (Nat.mul_div_cancel_left H (by decide : 0 < 2))))) ?_)
  refine tri_asg G .nil rfl ⟨Int.natCast_nonneg _, bits_n (a := 1) (k := 1) (by decide) (Nat.add_comm 1 H ▸ sum27 hHz (by decide) (Nat.zero_le _)), trivial⟩ (tri_val (congrArg SV.i ((congrArg (· - 1) (lsh_n 1 H)).trans (mask_e H))) ?_)
  refine tri_swap2 G .nil rfl ⟨Int.natCast_nonneg _, trivial⟩ (tri_val2 (congrArg SV.i (rsh_n b' H)) (congrArg SV.i (and_n b' H)) ?_)
  refine tri_unpX G (ex_call G .nil at_32 is_32 (Nat.le_refl (2 * e + 2)) rfl ⟨Int.natCast_nonneg _, Int.natCast_nonneg _, trivial⟩ (Fn.cast (x' := (.p (.i (a' / 2 ^ (2 * H) : Nat)) (.p (.i (a' / 2 ^ H % 2 ^ H : Nat)) (.p (.i (b' : Nat)) (.p (.i (b' / 2 ^ H : Nat)) (i2c (b' % 2 ^ H : Nat) H)))))) (by rw [rsh_n, rsh_n, and_n]) (h32' _ _ _ _ _ _ hH1 hHn g1 g2 g3 g4 g5 (by rw [g6]; exact g7))) gives_new) rfl fun ν1 hν1 => ?_
  rw [g6]
  refine tri_unpX G (ex_call G .nil at_32 is_32 (Nat.le_refl (2 * e + 2)) rfl trivial (Fn.cast (x' := (.p (.i (a' / 2 ^ H % b' : Nat)) (.p (.i (a' % 2 ^ H : Nat)) (.p (.i (b' : Nat)) (.p (.i (b' / 2 ^ H : Nat)) (i2c (b' % 2 ^ H : Nat) H)))))) (by rw [and_n]) (h32' _ _ _ _ _ _ hH1 hHn g1 g2 g3 g4 g8 (g9 _ (Nat.mod_lt _ g11)))) gives_new) rfl fun ν2 hν2 => ?_
  obtain ⟨e1, e2⟩ := sum21 a' b' H g11
  rw [e2]
  have hq2 : (a' / 2 ^ H % b' * 2 ^ H + a' % 2 ^ H) / b' < 2 ^ H := by rw [Nat.div_lt_iff_lt_mul g11, Nat.mul_comm _ b']; exact g9 _ (Nat.mod_lt _ g11)
  refine tri_meet [((Str.ofString "r"), .i (a' % b' / 2 ^ P : Nat)), ((Str.ofString "q1"), .i (a' / 2 ^ H / b' : Nat)), ((Str.ofString "q2"), .i ((a' / 2 ^ H % b' * 2 ^ H + a' % 2 ^ H) / b' : Nat)), ((Str.ofString "half_n"), .i (H : Nat))] (fun R' loop => ?_) ?_
  · rcases hP with rfl | rfl
    · exact tri_if G .nil rfl trivial (fun h => nomatch h) fun _ => tri_next (tri_mono loop (fun h => nomatch h) (fun _ h => h) (sub_of (AllSub.get ⟨(congrArg (fun t : Nat => some (SV.i t)) (Nat.div_one _)).symm, rfl, rfl, rfl, trivial⟩)))
    · exact tri_if G .nil rfl trivial (fun _ => tri_aug G .nil rfl rfl trivial rfl ⟨by decide, trivial⟩ (tri_next (tri_mono loop (fun h => nomatch h) (fun _ h => h) (sub_of (AllSub.get ⟨congrArg (fun t => some (SV.i t)) (rsh_n _ 1), rfl, rfl, rfl, trivial⟩))))) fun h => nomatch h
  exact tri_retT (n := ν) G .nil rfl ⟨Int.natCast_nonneg _, bits_n g10 (sum27 hHz (Nat.le_succ_of_le hHz) (Nat.zero_le _)), trivial⟩ (by rw [lsh_n, or_add_eq _ _ _ hq2, e1, hfq, hfr]) rfl fun p hp => hν2 p (hν1 p hp)
theorem d32_a {x n b b1 b2 : Nat} (hb : b = b1 * 2 ^ n + b2) (hb1 : b1 < 2 ^ n) (hb2 : b2 < 2 ^ n) : b < 2 ^ (2 * n) := by
  rw [hb, Nat.two_mul, Nat.pow_add]
  have : (b1 + 1) * 2 ^ n ≤ 2 ^ n * 2 ^ n := Nat.mul_le_mul_right _ hb1
  rw [Nat.add_mul] at this
  lia
theorem d32_j {x y b b1 b2 n Q R : Nat} (hb : b = b1 * 2 ^ n + b2) (e2 : Q * b1 + R = x) (e3 : R * 2 ^ n + y < b + Q * b2) : ((Q : Int) * b + (((R * 2 ^ n + y : Nat) : Int) - ((Q * b2 : Nat) : Int)) = ((x * 2 ^ n + y : Nat) : Int)) ∧ ((R * 2 ^ n + y : Nat) : Int) - ((Q * b2 : Nat) : Int) < b := by
  constructor
  · subst hb
    rw [← e2]
    push_cast
    grind
  · have : ((R * 2 ^ n + y : Nat) : Int) < ((b + Q * b2 : Nat) : Int) := Int.ofNat_lt.2 e3
    rw [Int.natCast_add] at this
    exact Int.sub_lt_iff.mpr this
theorem d32_s {q r b v : Int} (h1 : q * b + r = v) (h2 : r < 0) (hb : 0 < b) : (-(r + b)).toNat < (-r).toNat ∧ (q - 1) * b + (r + b) = v ∧ r + b < b := by
  refine ⟨by lia, ?_, by lia⟩
  rw [← h1, Int.sub_mul, Int.one_mul]
  lia
theorem d32_of {d : Nat} (hd : d ≤ 6) (h21 : D21 d) : D32 d := by
  intro x y b b1 b2 n hn1 hn hb hb1 hb1' hb2 hy hab
  intro ν0 us hu
  refine IsL.e6 hu fun u1 u2 u3 u4 u5 u6 i1 i2 i3 i4 i5 i6 => ?_
  unfold MCk
  k_fill
  k_dflt refine' mc_tri (lv := 2 * d + 1) [((Str.ofString "a12"), u1), ((Str.ofString "a3"), u2), ((Str.ofString "b"), u3), ((Str.ofString "b1"), u4), ((Str.ofString "b2"), u5), ((Str.ofString "n"), u6)] [((Str.ofString "a12"), (.i x)), ((Str.ofString "a3"), (.i y)), ((Str.ofString "b"), (.i b)), ((Str.ofString "b1"), (.i b1)), ((Str.ofString "b2"), (.i b2)), ((Str.ofString "n"), (.i n))] (fun P => ?ho) (fun P => ?hcd) (fun w s X => ?hb) ?hnd ?hkd ?hc0 ?h1 ?h2 ?h3 (fun ν hν => ?hs) (fun K ν s9 G hν lt hfz hcl hq => ?body)
  case ho => k_dflt k_is
  case hcd => k_dflt k_is
  case hb => exact BindsTo.of_eq rfl
  case hnd => exact (by decide : (["a12", "a3", "b", "b1", "b2", "n"].map Str.ofString).Nodup)
  case hkd => rfl
  case hc0 => exact List.nodup_nil
  case h1 => rfl
  case h2 => rfl
  case h3 => rfl
  case hs => exact ⟨rfl, .inl rfl, Is.mono hν i1, rfl, .inl rfl, Is.mono hν i2, rfl, .inl rfl, Is.mono hν i3, rfl, .inl rfl, Is.mono hν i4, rfl, .inl rfl, Is.mono hν i5, rfl, .inl rfl, Is.mono hν i6, trivial⟩
  have hz := sz21 hd hn
  have hb0 : 0 < b1 := Nat.lt_of_lt_of_le (Nat.two_pow_pos _) hb1
  have hbb := d32_a (x := x) hb hb1' hb2
  have hxb : x < b := Nat.lt_of_mul_lt_mul_right (Nat.lt_of_le_of_lt (Nat.le_add_right _ _) hab)
  refine tri_meetX (fun σ' ν' => (∀ p ∈ ν, p ∈ ν') ∧ ∃ Q R : Nat, Q * b1 + R = x ∧ R * 2 ^ n + y < b + Q * b2 ∧ σ' = [((Str.ofString "q"), .i (Q : Nat)), ((Str.ofString "r"), .i (R : Nat)), ((Str.ofString "a3"), .i (y : Nat)), ((Str.ofString "b"), .i (b : Nat)), ((Str.ofString "b2"), .i (b2 : Nat)), ((Str.ofString "n"), .i (n : Nat))]) (fun R' k => tri_if G .nil rfl ⟨Int.natCast_nonneg _, trivial⟩ (fun h => ?_) fun h => ?_) fun σ' ν' T => ?_
  · have hx' : x / 2 ^ n = b1 := Int.ofNat.inj ((rsh_n x n).symm.trans (eq_of_beq h))
    obtain ⟨e1, e2, e3⟩ := eq32 hb hx' hab
    exact tri_swap2 G .nil rfl ⟨Int.natCast_nonneg _, bits_n (a := 1) (k := 1) (by decide) (Nat.add_comm 1 n ▸ sum27 hz (by decide) (Nat.zero_le _)), Int.natCast_nonneg _, bits_n hb1' (sum27 hz (Nat.le_succ_of_le hz) (Nat.zero_le _)), trivial⟩ (tri_val2 (congrArg SV.i ((congrArg (· - 1) (lsh_n 1 n)).trans (mask_e n))) (congrArg SV.i ((congrArg (fun t => (x : Int) - t + (b1 : Int)) (lsh_n b1 n)).trans e1)) (tri_next (tri_mono (k _ _ ⟨fun _ h => h, 2 ^ n - 1, _, e2, e3, rfl⟩) (fun h => nomatch h) (fun _ h => h) (sub_of (AllSub.get (.of rfl))))))
  · have hx' : x / 2 ^ n ≠ b1 := fun q => (beq_eq_false_iff_ne.mp h) ((rsh_n x n).trans (congrArg (fun t : Nat => (t : Int)) q))
    obtain ⟨e1, e2, e3⟩ := ne32 hb hx' hb0 hb2 hy hab
    exact tri_unpX G (ex_call G .nil at_21 is_21 (Nat.le_refl (2 * d + 1)) rfl trivial (h21 x b1 n hn1 hn hb1 hb1' e1) gives_new) rfl fun ν1 hν1 => tri_next (tri_mono (k _ _ ⟨hν1, _, _, e2, e3, rfl⟩) (fun h => nomatch h) (fun _ h => h) (sub_of (AllSub.get (.of rfl))))
  obtain ⟨hν1, Q, R, e2, e3, rfl⟩ := T
  have hR : R < 2 ^ (2 * n) := Nat.lt_of_le_of_lt (e2 ▸ Nat.le_add_left _ _ : R ≤ x) (Nat.lt_trans hxb hbb)
  have hQ : Q < 2 ^ (2 * n) := Nat.lt_of_le_of_lt (Nat.le_trans (Nat.le_mul_of_pos_right Q hb0) (e2 ▸ Nat.le_add_right _ _ : Q * b1 ≤ x)) (Nat.lt_trans hxb hbb)
  have hs3 : 2 * n + n ≤ 2 ^ 27 := by rw [Nat.two_mul]; exact sum27 hz (Nat.le_succ_of_le hz) (Nat.le_trans hz (by decide))
  obtain ⟨j1, j2⟩ := d32_j (y := y) hb e2 e3
  refine tri_asg G .nil rfl ⟨Int.natCast_nonneg _, bits_n hR hs3, mulOk_of_bits (bits_le hQ) (bits_le hb2) hs3, trivial⟩ (tri_val (congrArg SV.i ((congrArg (fun t => Builtin.bitOr t y - _) (lsh_n R n)).trans (congrArg (fun t => t - _) (or_add_eq R y n hy)))) ?_)
  refine tri_mono (σ' := [((Str.ofString "q"), .i Q), ((Str.ofString "r"), .i (((R * 2 ^ n + y : Nat) : Int) - ((Q * b2 : Nat) : Int))), ((Str.ofString "b"), .i b)]) (ν' := ν') (z' := false) ?_ (fun h => nomatch h) (fun _ h => h) (sub_of (AllSub.get ⟨rfl, congrArg (fun t => some (SV.i (_ - t))) (Int.natCast_mul Q b2).symm, rfl, trivial⟩))
  refine tri_while (fun k σ ν2 => ν2 = ν' ∧ ∃ q r : Int, q * b + r = ((x * 2 ^ n + y : Nat) : Int) ∧ r < b ∧ k = (-r).toNat ∧ σ = [((Str.ofString "q"), .i q), ((Str.ofString "r"), .i r), ((Str.ofString "b"), .i b)]) _ G ⟨rfl, _, _, j1, j2, rfl, rfl⟩ fun k σ ν2 J => ?_
  obtain ⟨rfl, q, r, j3, j4, rfl, rfl⟩ := J
  refine ⟨[], decide (r < 0), _, _, .nil, rfl, trivial, fun h => ?_, fun h => ?_⟩
  · obtain ⟨k1, k2, k3⟩ := d32_s j3 (of_decide_eq_true h) (Int.natCast_pos.mpr (Nat.lt_of_le_of_lt (Nat.zero_le _) hxb))
    exact tri_aug G .nil rfl rfl trivial rfl trivial (tri_aug G .nil rfl rfl trivial rfl trivial (tri_wend _ _ _ k1 ⟨rfl, _, _, k2, k3, rfl, rfl⟩ (fun _ h => h) (sub_of (AllSub.get (.of rfl)))))
  · obtain ⟨f1, f2⟩ := fin32 j3 (Int.not_lt.mp (of_decide_eq_false h)) j4
    exact tri_retT (n := ν) G .nil rfl trivial (by rw [f1, f2]) rfl hν1
theorem d21_all : ∀ d, d ≤ 6 → D21 d
  | 0, _ => d21_of (by decide) fun e h => nomatch h
  | d + 1, h => d21_of h fun e he => by
    cases he
    exact d32_of (Nat.le_of_succ_le h) (d21_all d (Nat.le_of_succ_le h))
theorem div21 : D21 6 := d21_all 6 (by decide)
end Mine
end
noncomputable section
open PySem PySem.W PyProof.Rows PySem.Spec PySem.Calls
namespace Mine
theorem codeHd_K {K : Frag} {h : Heap} {c P : Addr} {oc : Value} {od : Option Addr} {vs : Array Value} {sl : Array (Option Value)} {file : Str} {tf : Tok} {flags : Int} {tg : Tok} {inF : Bool} {text : Int} {tt : Tok} (X : K.In h) (hl : K.lookup c = some ⟨oc, od, .fields vs, sl⟩) (h0 : oc = .type "code") (h1 : vs[11]? = some (.ref P))
    (h3 : vs.getD 18 .none = .str file tf) (h4 : vs.getD 7 .none = .int flags tg) (h5 : vs.getD 9 .none = .bool inF) (h6 : vs.getD 10 .none = .int text tt) (h7 : c ≠ P) : CodeHd h c P :=
  ⟨_, vs, file, tf, flags, tg, inF, text, tt, X _ _ hl, h0, rfl, h1, by rw [Array.getD_eq_getD_getElem?, h1]; rfl, h3, h4, h5, h6, h7⟩
theorem cd94 {P : Params} {h : Heap} (X : (hd.heap_39 P).In h) : CodeHd h 94 90 := codeHd_K X (show (hd.heap_39 P).lookup 94 = some _ from rfl) rfl rfl rfl rfl rfl rfl (by decide)
theorem cd87 {P : Params} {h : Heap} (X : (hd.heap_39 P).In h) : CodeHd h 87 83 := codeHd_K X (show (hd.heap_39 P).lookup 87 = some _ from rfl) rfl rfl rfl rfl rfl rfl (by decide)
section
variable {f c' : Addr} {lv : Nat} {vs : List Value} {kw : List (Str × Value)} {R : List (Addr × Obj) → List (Addr × Obj) → Value → Prop} {name qual : Str} {params : Arguments} {body : List Stmt} {scope : Scope} {cl : List (Str × Addr)} {doc pm ctv : Value} {oc : Obj} {vcs : Array Value} {t : Tok}
/-- a def made in a body, entered once -/
theorem mc_nest (binds : List (Str × Value)) (req : List (Addr × Obj)) {P : List (Addr × Obj) → Prop} (hPr : ∀ news, P news → ∀ p ∈ req, p ∈ news) (hf : (f, fnMade name qual params body scope cl doc pm c' ctv) ∈ req) (hc : (c', oc) ∈ req) (hdd : oc.data = .fields vcs) (hv : vcs[1]? = some (.str qual t))
    (hbind : ∀ (s : Shared), BindsTo s (fnX name qual params body scope cl .none .none doc pm none (.ref c') ctv) ⟨vs, kw⟩ binds)
    (hnd : (binds.map (·.1)).Nodup) (hloc : ∀ y ∈ binds, scope.names.lookup y.1 = some .local)
    (hco : scope.isCoroutine = false) (hgen : scope.isGenerator = false) (hk : scope.kind = .function) (hcell : ∀ x ∈ scope.names, x.2 ≠ .cell) (hlv : 1 ≤ lv)
    (h : ∀ (w : World) (p : Program) (loose : List Str) (mean : ExcName → Option Value) (mg mb : Str → Option Value) (news : List (Addr × Obj)) (dp un : Nat) (gd : Option (List Code)) (outer : List Env) (A₀ : Around) (base g : Heap) (L' : Addr) (s : Shared),
      Below A₀ base outer g → (hd.heap_39 w.params).In g → Top p loose mean mg mb g → P news → dp + 10 * lv < recursionLimit + 1 → un + 100 * lv < cLine + 3 →
      Fr g L' s.heap (ofL binds) → News g L' s.heap news → (∀ p ∈ news, p.1 < L') →
      wpAny (model PySem.Challenge.rw_uk0013_01.row.prog w) (ktrTop dp un gd qual scope L' f (.ref c') cl outer) (execs body (envX qual scope L' f (.ref c') cl)) (fun fl s' => Done g L' (R news) s (match fl with | .ret v => v | _ => .none) s') (fun _ _ => False) s) :
    MCk f lv vs kw P R := by
  intro w p loose mean mg mb news dp un gd cn cs a ccd cl' outer A₀ base h₀ L m s Q E B F X N T hck hP hdp hun ret
  have N1 := N _ (hPr _ hP _ hc)
  refine wpAny_call ?_
  refine callX_plain (cl := cl) B F N T.nolimit rfl rfl hck (N _ (hPr _ hP _ hf)).1 rfl ⟨c', oc, vcs, t, rfl, N1.1, hdd, hv⟩ (by show dp < recursionLimit; lia) (hbind s) hloc (fun g L' h₁ FG F' N' B' st lt => ?_) hcell hco hgen hk
  rw [ofL_rev binds hnd] at F'
  refine wpAny_mono (h w p loose mean mg mb news (dp + 1) (un + 3) gd (envX cn cs L a ccd cl' :: outer) _ base g L' { s with heap := h₁, toks := s.toks + binds.length } B' (X.keeps st) (T.keeps st) hP (by lia) (by lia) F' N' lt) (fun fl s' hd => ?_) fun _ _ z => z.elim
  obtain ⟨h', tk', m', news', rfl, F₂, N₂, r⟩ := hd
  exact ⟨L', m', news', F₂, N₂, fun Fc Nc => ret _ news' h' tk' r Fc Nc⟩
end
/-- the table of a maker's inner code: empty, or grown once -/
noncomputable def TabSt (ln co : Nat) (qual : Str) (ps : Array Value) (rest : List (Addr × Obj)) : Prop :=
  ps = #[] ∨ ∃ c' oc vs t, ps = #[rawInt ln, rawInt co, .ref c'] ∧ (c', oc) ∈ rest ∧ oc.data = .fields vs ∧ vs[1]? = some (.str qual t)
end Mine
end
noncomputable section
open PySem PySem.W PyProof.Rows PySem.Spec PySem.Calls
namespace Mine
set_option genInjectivity false
set_option genSizeOf false
/-! defs made in a body -/
theorem tab_code_ne {oc : Obj} {vs : Array Value} {q : Str} {t : Tok} {ln co : Int} {a : Addr} {ps : Array Value} (h1 : oc.data = .fields vs) (h2 : vs[1]? = some (.str q t)) (h3 : ps = #[] ∨ ps = #[rawInt ln, rawInt co, .ref a]) : oc ≠ tabObj ps := by
  rintro rfl
  cases h1
  rcases h3 with rfl | rfl
  · cases h2
  · cases h2
/-- the ledger, a table of made code grown by a code -/
noncomputable abbrev grown (n : Lg) (P : Addr) (c' : Addr) (oc : Obj) (ln co : Nat) : Lg := (c', oc) :: (P, tabObj #[rawInt ln, rawInt co, .ref c']) :: n.filter fun p => p.1 != P
/-- a code that was in the table, or a new one -/
noncomputable def CodeAt (P : Addr) (n : Lg) (c' : Addr) (oc : Obj) (qual : Str) : Prop := (∃ vs t, oc.data = .fields vs ∧ vs[1]? = some (.str qual t)) ∧ (((c', oc) ∈ n ∧ ∃ x y, (P, tabObj #[x, y, .ref c']) ∈ n) ∨ ∀ r ∈ n, @LT.lt Nat _ r.1 c')
section
variable {K : PC} {sc : Scope} {lv : Nat} {ν ν' : Lg} {s0 : Shared} {σ σ' : Sg} {z z' z2 : Bool} {s : Shared} {Φ : Ora} {R : Flow → Shared → Prop} {rest body : List Stmt} {E Q : Value → Shared → Prop} {m cm : Str → Option Value} {κ : Lg × Lg} {x y : Str} {q : Addr} {vs : List Value} {sv sv' sw sw' : SV} {n : Lg}
theorem mem_but {l : Lg} {P : Addr} {p : Addr × Obj} (hp : p ∈ l) (h : p.1 ≠ P) : p ∈ l.filter fun p => p.1 != P := List.mem_filter.mpr ⟨hp, bne_iff_ne.mpr h⟩
/-- a table of made code -/
noncomputable def isTab (o : Obj) : Prop := ∃ ps : Array Value, (∀ q t, ps[1]? ≠ some (.str q t)) ∧ o = tabObj ps
theorem code_not_tab {oc : Obj} {vs : Array Value} {q : Str} {t : Tok} (h1 : oc.data = .fields vs) (h2 : vs[1]? = some (.str q t)) : ¬ isTab oc := fun ⟨ps, hp, e⟩ => by
  subst e
  cases h1
  exact hp q t h2
/-- all but the tables stays -/
noncomputable def Keep (ν l : Lg) : Prop := ∀ p ∈ ν, ¬ isTab p.2 → p ∈ l
/-- what is known without a table stays known -/
theorem Keep.isX {l : Lg} (go : Keep ν l) : ∀ x : SV, (∀ u, Is ν x u → Is l x u) ∧ ∀ us, IsL ν x us → IsL l x us := by
  have seq : ∀ {a} {us : List Value} {t : Obj}, (a, t) ∈ ν → (∀ ps, t ≠ tabObj ps) → (a, t) ∈ l := fun h n => go _ h fun ⟨_, _, e⟩ => n _ e
  intro x
  induction x with
  | p a r iha ihr => exact ⟨fun _ h => h, fun _ ⟨u, ur, e, h1, h2⟩ => ⟨u, ur, e, iha.1 _ h1, ihr.2 _ h2⟩⟩
  | t c ih => exact ⟨fun _ ⟨q, us, e, h1, h2⟩ => ⟨q, us, e, seq (us := us) h1 (fun _ h => nomatch h), ih.2 _ h2⟩, fun _ h => h⟩
  | l c ih => exact ⟨fun _ ⟨q, us, n, e, h1, h2⟩ => ⟨q, us, n, e, seq (us := us) h1 (fun _ h => nomatch h), ih.2 _ h2⟩, fun _ h => h⟩
  | li l => exact ⟨fun _ ⟨q, us, n, e, h1, h2⟩ => ⟨q, us, n, e, seq (us := us) h1 (fun _ h => nomatch h), h2⟩, fun _ h => h⟩
  | lv q l => exact ⟨fun _ ⟨e, n, h1⟩ => ⟨e, n, seq (us := l) h1 (fun _ h => nomatch h)⟩, fun _ h => h⟩
  | _ => exact ⟨fun _ h => h, fun _ h => h⟩
theorem PAtD.one (h : PAtD K sc ν s0 σ z s m cm κ) : ∀ p ∈ ν, ∀ r ∈ ν, p.1 = r.1 → p.2 = r.2 := fun p hp r hr e => Option.some.inj ((h.N p (List.mem_append_left _ hp)).1.symm.trans (e ▸ (h.N r (List.mem_append_left _ hr)).1))
theorem tri_one (h : (∀ p ∈ ν, ∀ r ∈ ν, p.1 = r.1 → p.2 = r.2) → Tri K sc s0 z σ ν body R) : Tri K sc s0 z σ ν body R := fun s hs => by
  refine PAt.el hs fun m cm κ D => ?_
  exact h D.one s ⟨m, cm, κ, D⟩
theorem TabSt.isTab {ln co : Nat} {q : Str} {ps : Array Value} {l : Lg} {o : Obj} (h : TabSt ln co q ps l) (_ : (a, tabObj ps) ∈ ν) (e : o = tabObj ps) : isTab o := ⟨ps, fun q t => by
  rcases h with rfl | ⟨c, _, _, _, rfl, -⟩
  · exact nofun
  · exact nofun, e⟩
/-- def name(..): .. -/
theorem tri_def {name qual : Str} {params : Arguments} {body' : List Stmt} {sc' : Scope} {pos : Pos} {P c : Addr} {ps : Array Value} {clos : List (Str × Addr)} (G : PGood K sc lv) (hC : CodeHd K.g c P) (hccd : K.ccd = .ref c) (hq : qualnameIn (K.env sc) name name = qual) (hcl : closureFor sc' (K.env sc) = pure clos) (hP : (P, tabObj ps) ∈ ν) (hT : TabSt pos.line pos.col qual ps ν) (hl : (K.ow.lookup name).isSome = true)
    (h : ∀ f c' oc doc pm ctv ν' fn, (∀ p ∈ ν, ∀ r ∈ ν, p.1 = r.1 → p.2 = r.2) → ν' = (f, fn) :: grown ν P c' oc pos.line pos.col → fn = fnMade name qual params body' sc' clos doc pm c' ctv → CodeAt P ν c' oc qual → (∀ p ∈ grown ν P c' oc pos.line pos.col, @LT.lt Nat _ p.1 f) → Tri K sc s0 false ((name, .v (.ref f)) :: σ) ν' rest R)
    (hx : isCel sc name = true := by rfl) (hd0 : params.defaults = [] := by rfl) (hk0 : params.kw_defaults = [] := by rfl) (ha : annTrees params none (K.env sc) = [] := by rfl) : Tri K sc s0 z σ ν (.FunctionDef name params body' [] none [] sc' none name pos :: rest) R := fun s hs => by
  refine wpAny_execs_cons (nestDef_K hd0 hk0 ha ?_)
  rw [hq]
  refine PAt.el hs fun m cm κ D => ?_
  refine G.el fun pp loose mean mg mb dp un gd outer A₀ base eA B X T _ _ => ?_
  have hoff := D.O _ hP
  have one := D.one
  have fin : ∀ f c' oc doc pm ctv h' tk, CodeAt P ν c' oc qual → c' ∉ K.ha κ → (∀ p ∈ grown ν P c' oc pos.line pos.col, @LT.lt Nat _ p.1 f) → (∀ c ∈ K.ha κ, @LT.lt Nat _ c f) → Fr K.g K.L h' m → News K.g K.L h' (((f, fnMade name qual params body' sc' clos doc pm c' ctv) :: grown ν P c' oc pos.line pos.col) ++ K.hl κ) →
      wpAny (PM K.w) K.A (storeName (K.env sc) name (.ref f)) (fun _ s => sq K sc rest R .next s) (fun _ _ => False) { s with heap := h', toks := tk } := fun f c' oc doc pm ctv h' tk hc hoc hf1 hf2 F N =>
    st_cel G hx hl ⟨m, cm, κ, D.heap tk F N (fun p hp => ?_) fun sv u hu => ((Keep.isX (fun p hp hne => .tail _ (.tail _ (.tail _ (mem_but hp fun e => hne (hT.isTab hP (one p hp _ hP e)))))) sv).1 u hu)⟩ (show Is _ (.v (.ref f)) _ from rfl) fun s' hs' => h f c' oc doc pm ctv _ _ one rfl rfl hc hf1 s' hs'
  · have ne : ∀ p ∈ (ν.filter fun p => p.1 != P) ++ K.hl κ, p.1 ≠ P := fun p hp => (List.mem_append.mp hp).elim (fun hp => bne_iff_ne.mp (List.mem_filter.mp hp).2) fun hp e => hoff (show P ∈ K.ha κ from e ▸ D.hid_of hp)
    have N : News K.g K.L s.heap ((P, tabObj ps) :: ((ν.filter fun p => p.1 != P) ++ K.hl κ)) := fun p hp => (List.mem_cons.mp hp).elim (fun e => e ▸ D.N _ (List.mem_append_left _ hP)) fun hp => (List.mem_append.mp hp).elim (fun hp => D.N p (List.mem_append_left _ (List.mem_filter.mp hp).1)) fun hp => D.N p (List.mem_append_right _ hp)
    have all : ∀ r ∈ ν, ∃ o, (r.1, o) ∈ (P, tabObj ps) :: ((ν.filter fun p => p.1 != P) ++ K.hl κ) := fun r hr => by
      by_cases e : r.1 = P
      · exact ⟨_, by rw [e]; exact .head _⟩
      · exact ⟨r.2, .tail _ (List.mem_append_left _ (mem_but hr e))⟩
    rcases hT with rfl | ⟨c', oc, vs, t, rfl, hm, d1, d2⟩
    · refine nest_K (ps := #[]) D.F N T hC hccd (.head ne) trivial rfl hcl fun f c' oc vs t ctv doc h' tk F' N' d1 d2 l1 l2 => fin f c' oc doc _ ctv h' tk ⟨⟨vs, t, d1, d2⟩, .inr fun r hr => ?_⟩ (fun q => ?_) (fun p hp => ?_) (fun c hc => ?_) F' N'
      · obtain ⟨o, ho⟩ := all r hr
        exact l1 (r.1, o) ho
      · obtain ⟨o, ho⟩ := D.hidden q
        exact Nat.lt_irrefl _ (l1 _ (.tail _ (List.mem_append_right _ ho)))
      · refine mem_c hp ?_ fun hp => ?_
        · exact l2
        refine mem_c hp ?_ fun hp => ?_
        · exact Nat.lt_trans (l1 (P, tabObj #[]) (.head _)) l2
        · exact Nat.lt_trans (l1 _ (.tail _ (List.mem_append_left _ hp))) l2
      · obtain ⟨o, ho⟩ := D.hidden hc
        exact Nat.lt_trans (l1 _ (.tail _ (List.mem_append_right _ ho))) l2
    · have hne : c' ≠ P := fun e => tab_code_ne d1 d2 (.inr rfl) (one _ hm _ hP e)
      have hm' : (c', oc) ∈ (P, tabObj #[rawInt pos.line, rawInt pos.col, .ref c']) :: ((ν.filter fun p => p.1 != P) ++ K.hl κ) := .tail _ (List.mem_append_left _ (mem_but hm hne))
      refine nestHit_K (c' := c') D.F N T hC hccd (.head _) (by simp [TriplesOk, rawInt]) (by simp [codeAmong, rawInt]) hcl fun f ctv doc h' tk F' N' l1 => fin f c' oc doc ((mg "__name__").getD .none) ctv h' tk ⟨⟨vs, t, d1, d2⟩, .inl ⟨hm, _, _, hP⟩⟩ (D.O _ hm) (fun p hp => ?_) (fun c hc => ?_) F' fun p hp => ?_
      · refine mem_c hp ?_ fun hp => ?_
        · exact l1 _ hm'
        refine mem_c hp ?_ fun hp => ?_
        · exact l1 _ (.head _)
        · exact l1 _ (.tail _ (List.mem_append_left _ hp))
      · obtain ⟨o, ho⟩ := D.hidden hc
        exact l1 _ (.tail _ (List.mem_append_right _ ho))
      · refine mem_c hp ?_ fun hp => ?_
        · exact N' _ (.head _)
        refine mem_c hp ?_ fun hp => ?_
        · exact N' _ (.tail _ hm')
        · exact N' p (.tail _ hp)
  · refine mem_c hp ?_ fun hp => ?_
    · exact fun q => Nat.lt_irrefl _ (hf2 _ q)
    refine mem_c hp ?_ fun hp => ?_
    · exact hoc
    refine mem_c hp ?_ fun hp => ?_
    · exact hoff
    · exact D.O p (List.mem_filter.mp hp).1
/-! a nested def entered -/
theorem Kn.L {μ : Lg} {u : Value} (h : isLoc sc x = true) (e : m x = some u) (i : Is ν sv u) : Kn sc K m cm μ ν x sv := .inl ⟨h, u, e, i⟩
theorem Kn.F {μ : Lg} {u : Value} {c : Addr} {o : Obj} (h : isFre sc x = true) (hc : K.cl.lookup x = some c) (hm : (c, o) ∈ K.fc) (hd : o.data = .cell (some u)) (i : Is ν sv u) : Kn sc K m cm μ ν x sv := .inr (.inr (.inr (.inl ⟨h, c, o, u, hc, hm, hd, i⟩)))
theorem Kn.M {μ : Lg} {k : Nat} (h : Pl K sc m x q) (hm : (q, listO vs k) ∈ μ) : Kn sc K m cm μ ν x (.m q vs) := .inr (.inr (.inr (.inr ⟨q, vs, k, rfl, h, hm⟩)))
noncomputable def AllKn (sc : Scope) (K : PC) (m cm : Str → Option Value) (μ ν : Lg) : Sg → Prop
  | [] => True
  | p :: r => Kn sc K m cm μ ν p.1 p.2 ∧ AllKn sc K m cm μ ν r
theorem allKn_at {μ : Lg} : ∀ {σ : Sg}, AllKn sc K m cm μ ν σ → ∀ x sv, σ.lookup x = some sv → Kn sc K m cm μ ν x sv
  | (a, b) :: r, h, x, sv, hl => lk_set (P := fun sv => Kn sc K m cm μ ν x sv) hl (fun e => e ▸ h.1) fun _ hl => allKn_at h.2 x sv hl
/-- what is left of a ledger without some places -/
noncomputable abbrev butL (n : Lg) (l : List Addr) : Lg := n.filter fun p => decide (p.1 ∉ l)
theorem mem_butL {n : Lg} {l : List Addr} {p : Addr × Obj} (hp : p ∈ n) (h : p.1 ∉ l) : p ∈ butL n l := List.mem_filter.mpr ⟨hp, decide_eq_true h⟩
theorem butL_mem {n : Lg} {l : List Addr} {p : Addr × Obj} (hp : p ∈ butL n l) : p ∈ n ∧ p.1 ∉ l := ⟨(List.mem_filter.mp hp).1, of_decide_eq_true (List.mem_filter.mp hp).2⟩
noncomputable abbrev ad (μ fc : Lg) : List Addr := μ.map (·.1) ++ fc.map (·.1)
theorem mc_triN {f c' : Addr} {us : List Value} {kw : List (Str × Value)} {P : Lg → Prop} {Rc : Lg → Lg → Value → Prop} {name qual : Str} {params : Arguments} {body : List Stmt} {scope : Scope} {cl : List (Str × Addr)} {doc pm ctv : Value} {oc : Obj} {vcs : Array Value} {t : Tok} (binds : List (Str × Value)) (σ : Sg) (req fc μ : Lg)
    (hPr : ∀ n, P n → ∀ p ∈ req, p ∈ n) (hf : (f, fnMade name qual params body scope cl doc pm c' ctv) ∈ req) (hc : (c', oc) ∈ req) (hdd : oc.data = .fields vcs) (hv : vcs[1]? = some (.str qual t)) (hm : ∀ n, P n → ∀ p ∈ μ ++ fc, p ∈ n) (hnd2 : (ad μ fc).Nodup)
    (hbind : ∀ (s : Shared), BindsTo s (fnX name qual params body scope cl .none .none doc pm none (.ref c') ctv) ⟨us, kw⟩ binds) (hnd : (binds.map (·.1)).Nodup) (hloc : ∀ y ∈ binds, scope.names.lookup y.1 = some .local)
    (hco : scope.isCoroutine = false) (hgen : scope.isGenerator = false) (hk : scope.kind = .function) (hcell : ∀ x ∈ scope.names, x.2 ≠ .cell)
    (hσ : ∀ K n, P n → K.cl = cl → K.fc = fc → AllKn scope K (ofL binds) (fun _ => none) μ (butL n (ad μ fc)) σ)
    (h : ∀ (K : PC) (n : Lg) (s : Shared), PGood K scope lv → P n → K.cl = cl → K.fc = fc → K.fz = fc → (∀ p ∈ n, p.1 ∉ ad μ fc → p ∈ butL n (ad μ fc)) → (∀ p ∈ n, p.1 ∈ fc.map (·.1) → p ∈ K.fz) → Tri K scope s false σ (butL n (ad μ fc)) body (retR K s (Rc n))) : MCk f (lv + 1) us kw P Rc := by
  refine mc_nest binds req hPr hf hc hdd hv hbind hnd hloc hco hgen hk hcell (Nat.le_add_left 1 lv) ?_
  intro w p loose mean mg mb n dp un gd outer A₀ base g L' s B X T hP hdp hun F N lt
  have hm := hm n hP
  have nd := List.nodup_append.mp hnd2
  refine h ⟨w, ktrTop dp un gd qual scope L' f (.ref c') cl outer, qual, L', f, .ref c', cl, [], g, fc, fc⟩ n s ⟨hk, nd.2.1, fun _ h => h, List.nodup_nil, (fun _ _ h => nomatch h), p, loose, mean, mg, mb, dp, un, gd, outer, A₀, base, rfl, B, X, T, room1 hdp, room2 hun⟩ hP rfl rfl rfl (fun p hp h => mem_butL hp h) (fun p hp h => ?_) s ⟨_, fun _ => none, ([], μ), rfl, F, fun p hp => ?_, .nil, hnd2, fun p hp h => (butL_mem hp).2 h, allKn_at (hσ _ n hP rfl rfl), nofun⟩
  · obtain ⟨r, hr, e⟩ := List.mem_map.mp h
    have := Option.some.inj ((N p hp).1.symm.trans (e ▸ (N r (hm r (List.mem_append_right _ hr))).1))
    rwa [show p = r from Prod.ext e.symm this]
  · rcases List.mem_append.mp hp with hp | hp
    · exact N p (butL_mem hp).1
    · exact N p (hm p hp)
/-- a callee that a name of the frame tells, its contract found where it is called -/
theorem cal_locX (G : PGood K sc lv) {f : Str} {kf : Addr} {lv' : Nat} {φ : Sg → SV → R2} (C : ∀ q s0 σ, K.okz q → ∀ x us z s m cm κ, PAtD (K.wz q) sc ν s0 σ z s m cm κ → IsL ν x us → OptP (fun r => All r.2 → ∃ P, MCk kf lv' us [] P (Val r.1) ∧ P (ν ++ (K.wz q).hl κ)) (φ σ x)) (hk : FnIn ν kf) (hlv : lv' ≤ lv) :
    ∀ q s0 σ, K.okz q → CalE K.w K.A (K.env sc) ν (PAt (K.wz q) sc ν s0 σ) f fun x => bd2 (φ σ x) fun u c => some (u, (σ.lookup f = some (.v (.ref kf))) :: c) := by
  intro q s0 σ hq es pos p x z s E Q hn hs args
  refine .bd2 fun u c hφ hc h => call_by (K := (K.wz q)) (fa := kf) (fun hQ => (ev_of (G.fz hq) .nil).loc hc.1 rfl hs fun u hu => (show u = _ from hu) ▸ hQ) (fun z s hs => ?_) hn hs args fun us z s hs hu => call_vsX (G.fz hq) hlv (fun m cm κ D => (C q s0 σ hq x us z s m cm κ D hu).get hφ hc.2) gives_val hs fun u ν' s' hs' hu => h u s' (hu.1 ▸ hs') (hu.1 ▸ hu.2)
  obtain ⟨oc, od, fd, sl, hm⟩ := hk
  exact ⟨oc, od, fd, sl, hs.new hm⟩
/-- a number comes back, from a nested def -/
theorem tri_retN {e : Expr} {p : Pos} {c : List Prop} (G : PGood K sc lv) (O : OraOK K sc ν Φ) (he : ev Φ σ z e = some (sv, z', c)) (hc : All c) (hq : sv = sv') (hn : ∀ p ∈ n, p ∈ ν ∨ p ∈ K.fz) (hf : flat sv = true := by rfl) (hR : ∀ u s, Done K.g K.L (Val sv' n) s0 u s → R (.ret u) s := by exact fun _ _ h => h) : Tri K sc s0 z σ ν (.Return (some e) p :: rest) R :=
  tri_ret G O he hc fun u s hs hu => hR u s (by
    refine PAt.el hs fun m cm κ D => ?_
    exact D.e ▸ Done.of D.F (fun p hp => D.N p ((hn p hp).elim (List.mem_append_left _) fun h => List.mem_append_right _ (List.mem_append_right _ (List.mem_append_right _ h)))) (fun _ h => h) ⟨rfl, hq ▸ (flat_is hf).1 u hu⟩)
end
end Mine
end
noncomputable section
open PySem PySem.W PyProof.Rows PySem.Spec PySem.Calls
namespace Mine
set_option genInjectivity false
set_option genSizeOf false
theorem setL_not {l : Lg} {q : Addr} {o : Obj} (h : ∀ p ∈ l, p.1 ≠ q) : setL l q o = l := by
  rw [setL]
  conv => rhs; rw [← List.map_id l]
  exact List.map_congr_left fun p hp => if_neg (h p hp)
theorem setL_append {a b : Lg} {q : Addr} {o : Obj} : setL (a ++ b) q o = setL a q o ++ setL b q o := List.map_append
theorem setL_keep {l : Lg} {q : Addr} {o : Obj} {p : Addr × Obj} (hp : p ∈ l) (h : p.1 ≠ q) : p ∈ setL l q o := List.mem_map.mpr ⟨p, hp, if_neg h⟩
section
variable {K : PC} {sc : Scope} {lv : Nat} {ν ν' : Lg} {s0 : Shared} {σ σ' : Sg} {z z1 z' z2 : Bool} {s : Shared} {Φ : Ora} {R : Flow → Shared → Prop} {rest body : List Stmt} {E Q : Value → Shared → Prop} {m cm : Str → Option Value} {κ : Lg × Lg} {x y : Str} {q : Addr} {vs : List Value} {sv sv' sw sw' : SV} {n : Lg}
/-- x[k] = v -/
theorem tri_setItem {e k : Expr} {p sp p2 : Pos} {i : Int} {c c2 : List Prop} (G : PGood K sc lv) (O : OraOK K sc ν Φ) (hl : σ.lookup x = some (.m q vs)) (he : ev Φ σ z e = some (sv, z1, c)) (hc : All c) (hk : ev Φ σ z1 k = some (.i i, z', c2)) (hc2 : All c2) (h0 : 0 ≤ i) (h1 : i.toNat < vs.length) (hz : vs.length ≤ 1048576) (h : ∀ u, Is ν sv u → Tri K sc s0 false ((x, .m q (vs.set i.toNat u)) :: σ) ν rest R)
    (hn : noM x σ = true := by rfl) (hsw : swapsWith e (some (.Subscript (.Name x p) k sp)) p2.line (K.env sc) = pure false := by rfl) : Tri K sc s0 z σ ν (.Assign [.Subscript (.Name x p) k sp] e p2 :: rest) R := fun s hs => by
  refine wpAny_execs_cons (wpAny_Assign_Subscript (ev_ok (ev_of G O) he hc hs fun u s1 hs1 hu => name_m G hs1 hl (ev_ok (ev_of G O) hk hc2 hs1 fun w s2 hs2 hw => ?_)) hsw)
  refine Is.ie hw fun t => ?_
  obtain ⟨n, hq⟩ := hs2.mIs hl
  obtain ⟨n', e'⟩ := upd_get (us := vs.set i.toNat u) (f := fun a => a.setIfInBounds i.toNat u) hq (by rw [List.setIfInBounds_toArray])
  exact ki_setAt hq h0 (idx_lt ⟨h0, h1, hz⟩) (by rw [List.size_toArray]; exact (Int.toNat_lt h0).mp h1) (h u hu _ (hs2.mutate hl hn (Heap.SameBut.update ..) e' s2.toks))
/-- a call that changes a list that is known to change -/
theorem call_M (G : PGood K sc lv) {fa : Addr} {lv' : Nat} (hlv : lv' ≤ lv) {us : List Value} {kw : List (Str × Value)} {T : List Value → Prop} (hl : σ.lookup x = some (.m q vs)) (hn : noM x σ = true) (hC : ∀ m cm κ, PAtD K sc ν s0 σ z s m cm κ → ∃ P, MCk fa lv' us kw P (Mut q T) ∧ P (ν ++ K.hl κ)) (hs : PAt K sc ν s0 σ z s)
    (h : ∀ us', T us' → ∀ s, PAt K sc ν s0 ((x, .m q us') :: σ) false s → Q .none s) : wpAny (PM K.w) K.A (call (.ref fa) us kw) Q E s := by
  refine PAt.el hs fun m cm κ D => ?_
  obtain ⟨P, C, hP⟩ := hC m cm κ D
  refine G.el fun pp loose mean mg mb dp un gd outer A₀ base eA B X T hd' hu => ?_
  rw [eA]
  refine mck_use C B D.F X D.N T G.kind hP (Nat.lt_of_le_of_lt (Nat.add_le_add_left (Nat.mul_le_mul_left 10 hlv) _) hd') (Nat.lt_of_le_of_lt (Nat.add_le_add_left (Nat.mul_le_mul_left 100 hlv) _) hu) fun v n' h' tk' hr F' N' => ?_
  obtain ⟨us', k, ht, rfl, rfl⟩ := hr
  obtain ⟨hm, n, hq⟩ := D.isM hl
  have qin : q ∈ κ.2.map (·.1) := List.mem_map_of_mem (f := (·.1)) hq
  have nd := List.nodup_append.mp D.M
  have ha : K.ha (κ.1, setL κ.2 q (listO us' k)) = K.ha κ := congrArg (· ++ K.hid) setL_addr
  refine h us' ht _ ⟨m, cm, (κ.1, setL κ.2 q (listO us' k)), congrArg (fun t : Shared => { t with heap := h', toks := tk' }) D.e, F', fun p hp => ?_, D.Y, ha ▸ D.M, ha ▸ D.O, fun y sw hy => lk_set (P := Kn sc K m cm _ ν y) hy (fun w => .inr (.inr (.inr (.inr ⟨q, us', k, rfl, w ▸ hm, mem_setL hq⟩)))) fun w hy => (D.a y sw hy).mono rfl rfl (fun _ h => h) fun _ _ _ e => ?_, nofun⟩
  · rcases List.mem_append.mp hp with hp | hp
    · exact N' p (setL_keep (List.mem_append_left _ hp) fun e => D.O p hp (List.mem_append_left _ (e ▸ qin)))
    rcases List.mem_append.mp hp with hp | hp
    · exact N' p (setL_keep (List.mem_append_right _ (List.mem_append_left _ hp)) fun e => nd.2.2 q qin p.1 (List.mem_append_left _ (cells_addr D.Y ▸ List.mem_map_of_mem (f := (·.1)) hp)) e.symm)
    rcases List.mem_append.mp hp with hp | hp
    · rcases setL_mem hp with rfl | hp
      · exact N' _ (mem_setL (List.mem_append_right _ (List.mem_append_right _ (List.mem_append_left _ hq))))
      · exact N' p (setL_keep (List.mem_append_right _ (List.mem_append_right _ (List.mem_append_left _ hp.1))) hp.2)
    · exact N' p (setL_keep (List.mem_append_right _ (List.mem_append_right _ (List.mem_append_right _ hp))) fun e => nd.2.2 q qin p.1 (List.mem_append_right _ (List.mem_map_of_mem (f := (·.1)) hp)) e.symm)
  · have := noM_of hn y sw w hy
    rw [e] at this
    cases this
/-- f(..), which changes a list, f told by a name of the frame -/
theorem tri_callM {f : Str} {fa : Addr} {lv' : Nat} {es : List Expr} {p pos p2 : Pos} {xa : SV} {c : List Prop} {T : List Value → Prop} (G : PGood K sc lv) (O : OraOK K sc ν Φ) (hf : σ.lookup f = some (.v (.ref fa))) (hk : FnIn ν fa) (hlv : lv' ≤ lv) (he : evl Φ σ z es = some (xa, z', c)) (hc : All c) (hl : σ.lookup x = some (.m q vs)) (hC : ∀ us z s m cm κ, IsL ν xa us → PAtD K sc ν s0 σ z s m cm κ → ∃ P, MCk fa lv' us [] P (Mut q T) ∧ P (ν ++ K.hl κ))
    (h : ∀ us', T us' → Tri K sc s0 false ((x, .m q us') :: σ) ν rest R) (hn : noM x σ = true := by rfl) (hok : okArgs es = true := by rfl) (hi : interactive (K.env sc) = false := by rfl) (hsw : swapsWith (.Call (.Name f p) es [] pos) none p2.line (K.env sc) = pure false := by rfl) : Tri K sc s0 z σ ν (.Expr (.Call (.Name f p) es [] pos) p2 :: rest) R := fun s hs => by
  refine wpAny_execs_cons (wpAny_Expr (call_by (fa := fa) (fun hQ => (ev_of G .nil).loc hf rfl hs fun u hu => (show u = _ from hu) ▸ hQ) (fun z s hs => ?_) hok hs (fun hq => el_ok (ev_of G O) ((Bool.and_eq_true _ _).mp hok).2 he hc hs fun us s1 hs1 hu => hq us _ s1 hs1 hu) fun us z s hs hu => call_M G hlv hl hn (fun m cm κ D => hC us z s m cm κ hu D) hs fun us' ht s hs => h us' ht s hs) hi hsw)
  obtain ⟨oc, od, fd, sl, hm⟩ := hk
  exact ⟨oc, od, fd, sl, hs.new hm⟩
/-- return, a list changed -/
theorem tri_retM {p : Pos} {T : List Value → Prop} (hl : σ.lookup x = some (.m q vs)) (ht : T vs) (hn : ∀ p ∈ n, p.1 ≠ q → p ∈ ν ∨ p ∈ K.fz) (hR : ∀ s, Done K.g K.L (Mut q T n) s0 .none s → R (.ret .none) s := by exact fun _ h => h) : Tri K sc s0 z σ ν (.Return none p :: rest) R := fun s hs => by
  refine wpAny_execs_cons (wpAny_Return_none ?_)
  refine PAt.el hs fun m cm κ D => ?_
  obtain ⟨_, k, hq⟩ := D.isM hl
  refine hR s (D.e ▸ Done.of D.F (fun p hp => ?_) (fun _ h => h) ⟨vs, k, ht, rfl, rfl⟩)
  rcases setL_mem hp with rfl | hp
  · exact D.mGet hq
  · exact D.N p ((hn p hp.1 hp.2).elim (List.mem_append_left _) fun h => List.mem_append_right _ (List.mem_append_right _ (List.mem_append_right _ h)))
theorem tri_nilM {T : List Value → Prop} (hl : σ.lookup x = some (.m q vs)) (ht : T vs) (hn : ∀ p ∈ n, p.1 ≠ q → p ∈ ν ∨ p ∈ K.fz) (hR : ∀ s, Done K.g K.L (Mut q T n) s0 .none s → R .next s := by exact fun _ h => h) : Tri K sc s0 z σ ν [] R := fun s hs => by
  refine wpAny_execs_nil ?_
  refine PAt.el hs fun m cm κ D => ?_
  obtain ⟨_, k, hq⟩ := D.isM hl
  refine hR s (D.e ▸ Done.of D.F (fun p hp => ?_) (fun _ h => h) ⟨vs, k, ht, rfl, rfl⟩)
  rcases setL_mem hp with rfl | hp
  · exact D.mGet hq
  · exact D.N p ((hn p hp.1 hp.2).elim (List.mem_append_left _) fun h => List.mem_append_right _ (List.mem_append_right _ (List.mem_append_right _ h)))
/-- a call that changes a list that lies among the things known -/
theorem call_F (G : PGood K sc lv) {fa : Addr} {lv' : Nat} (hlv : lv' ≤ lv) {us : List Value} {kw : List (Str × Value)} {T : List Value → Prop} {k0 : Nat} (hq : (q, listO vs k0) ∈ ν) (hσ : AllSub σ σ') (hfl : allFlat σ' = true) (hxl : σ.lookup x = some (.lv q vs)) (hC : ∀ m cm κ, PAtD K sc ν s0 σ z s m cm κ → ∃ P, MCk fa lv' us kw P (Mut q T) ∧ P (ν ++ K.hl κ)) (hs : PAt K sc ν s0 σ z s)
    (h : ∀ us' k, T us' → ∀ s, PAt K sc (setL ν q (listO us' k)) s0 ((x, .lv q us') :: σ') false s → Q .none s) : wpAny (PM K.w) K.A (call (.ref fa) us kw) Q E s := by
  refine PAt.el hs fun m cm κ D => ?_
  obtain ⟨P, C, hP⟩ := hC m cm κ D
  refine G.el fun pp loose mean mg mb dp un gd outer A₀ base eA B X T hd' hun => ?_
  rw [eA]
  refine mck_use C B D.F X D.N T G.kind hP (Nat.lt_of_le_of_lt (Nat.add_le_add_left (Nat.mul_le_mul_left 10 hlv) _) hd') (Nat.lt_of_le_of_lt (Nat.add_le_add_left (Nat.mul_le_mul_left 100 hlv) _) hun) fun v n' h' tk' hr F' N' => ?_
  obtain ⟨us', k, ht, rfl, rfl⟩ := hr
  have hoff : ∀ p ∈ K.hl κ, p.1 ≠ q := fun p hp e => D.O _ hq (show q ∈ K.ha κ from e ▸ D.hid_of hp)
  rw [setL_append, setL_not hoff] at N'
  refine h us' k ht _ ⟨m, cm, κ, congrArg (fun t : Shared => { t with heap := h', toks := tk' }) D.e, F', N', D.Y, D.M, fun p hp => ?_, fun y sw hy => lk_set (P := Kn sc K m cm _ _ y) hy (fun w => ?_) fun w hy => ?_, nofun⟩
  · rcases setL_mem hp with rfl | hp
    · exact show q ∉ K.ha κ from D.O (q, listO vs k0) hq
    · exact D.O p hp.1
  · exact (w ▸ D.a x _ hxl).mono rfl rfl (fun u hu => ⟨hu.1, k, mem_setL hq⟩) fun _ _ _ e => nomatch e
  · have hfl := allFlat_of hfl hy
    obtain ⟨sw', h1, h2⟩ := sub_of (ν := ν) hσ.get y sw hy
    refine (D.a y sw' h1).mono rfl rfl (fun u hu => (flat_is hfl).1 u (h2.1 u hu)) fun q vs n e h => ?_
    rw [h2.2 q vs e] at hfl
    cases hfl
/-- f(..), which changes a list that lies among the things known -/
theorem tri_callF {f : Str} {fa : Addr} {lv' : Nat} {es : List Expr} {p pos p2 : Pos} {xa : SV} {c : List Prop} {T : List Value → Prop} (G : PGood K sc lv) (O : OraOK K sc ν Φ) (hf : σ.lookup f = some (.v (.ref fa))) (hk : FnIn ν fa) (hlv : lv' ≤ lv) (he : evl Φ σ z es = some (xa, z', c)) (hc : All c) {k0 : Nat} (hq : (q, listO vs k0) ∈ ν) (hσ : AllSub σ σ') (hfl : allFlat σ' = true) (hxl : σ.lookup x = some (.lv q vs)) (hC : ∀ us z s m cm κ, IsL ν xa us → PAtD K sc ν s0 σ z s m cm κ → ∃ P, MCk fa lv' us [] P (Mut q T) ∧ P (ν ++ K.hl κ))
    (h : ∀ us' k, T us' → Tri K sc s0 false ((x, .lv q us') :: σ') (setL ν q (listO us' k)) rest R) (hok : okArgs es = true := by rfl) (hi : interactive (K.env sc) = false := by rfl) (hsw : swapsWith (.Call (.Name f p) es [] pos) none p2.line (K.env sc) = pure false := by rfl) : Tri K sc s0 z σ ν (.Expr (.Call (.Name f p) es [] pos) p2 :: rest) R := fun s hs => by
  refine wpAny_execs_cons (wpAny_Expr (call_by (fa := fa) (fun hQ => (ev_of G .nil).loc hf rfl hs fun u hu => (show u = _ from hu) ▸ hQ) (fun z s hs => ?_) hok hs (fun hq => el_ok (ev_of G O) ((Bool.and_eq_true _ _).mp hok).2 he hc hs fun us s1 hs1 hu => hq us _ s1 hs1 hu) fun us z s hs hu => call_F G hlv hq hσ hfl hxl (fun m cm κ D => hC us z s m cm κ hu D) hs fun us' k ht s hs => h us' k ht s hs) hi hsw)
  obtain ⟨oc, od, fd, sl, hm⟩ := hk
  exact ⟨oc, od, fd, sl, hs.new hm⟩
/-- x = [c] * e -/
theorem tri_zerosC {c0 : Expr} {p1 p2 lp pos : Pos} {e : Expr} {i k : Int} {c c1 : List Prop} (G : PGood K sc lv) (O : ∀ ν, OraOK K sc ν Φ) (h0 : ev Φ σ z c0 = some (.i i, z1, c1)) (hc1 : All c1) (he : ev Φ σ false e = some (.i k, z', c)) (hc : All c) {k' : Nat} (hkk : k = k') (hk : k' ≤ 64) (hl : (K.ow.lookup x).isSome = true)
    (h : ∀ q us ν', IntsL (List.replicate k' i) us → (∀ p ∈ ν, @LT.lt Nat _ p.1 q) → (q, listO us 0) ∈ ν' → (∀ p ∈ ν, p ∈ ν') → (∀ p ∈ ν', p.1 ≠ q → p ∈ ν ∨ ∀ r ∈ ν, @LT.lt Nat _ r.1 p.1) → Tri K sc s0 false ((x, .lv q us) :: σ) ν' rest R)
    (hx : isCel sc x = true := by rfl) (hst : noStar [c0] = true := by rfl) (hsw : swapsWith (.BinOp (.List [c0] lp) .Mult e pos) (some (.Name x p1)) p2.line (K.env sc) = pure false := by rfl) : Tri K sc s0 z σ ν (.Assign [.Name x p1] (.BinOp (.List [c0] lp) .Mult e pos) p2 :: rest) R := fun s hs => by
  refine wpAny_execs_cons (wpAny_Assign_Name (wpAny_BinOp (List_ (el_ok (ev_of G (O ν)) hst (show evl Φ σ z [c0] = some (.p (.i i) .nl, z1, c1 ++ []) by show bnd (ev Φ σ z c0) _ = _; rw [h0]; rfl) ((List.append_nil c1).symm ▸ hc1) hs fun us s1 hs1 hu => ?_))) hsw)
  obtain ⟨_, _, rfl, ⟨t, rfl⟩, rfl⟩ := hu
  refine wpAny_newObj_type ?_ (Nat.le_of_ble_eq_true rfl)
  have P := (hs1.push (listO [.int i t] 0)).weak
  have lt := hs1.fresh
  generalize s1.heap.objs.size = q1 at P lt ⊢
  refine ev_ok (ev_of G (O _)) he hc P fun u s2 hs2 hu => ?_
  refine Is.ie hu fun t2 => ?_
  refine PAt.el hs2 fun m cm κ D => ?_
  subst hkk
  refine KM.mul (ns := [i]) D.F D.N ⟨_, (D.N _ (.head _)).1, rfl, 0, rfl⟩ (.cons i _ .nil) (Int.le_trans (by decide) (Int.natCast_nonneg k')) (Int.lt_of_le_of_lt (Int.ofNat_le.mpr hk) (by decide)) (by rw [List.length_singleton, Nat.one_mul]; exact Nat.le_trans hk (by decide)) fun q h' F' N' l1 hi _ _ _ _ _ => ?_
  have hD := D.heap (ν' := (q, listO (List.replicate k' [Value.int i t]).flatten 0) :: (q1, listO [.int i t] 0) :: ν) s2.toks F' N' (fun p hp => (List.mem_cons.mp hp).elim (fun e q => ?_) (D.O p)) fun sv u => Is.mono fun _ => .tail _
  · refine st_cel G hx hl ⟨m, cm, κ, hD⟩ (show Is _ (.lv q (List.replicate k' [Value.int i t]).flatten) _ from ⟨rfl, 0, .head _⟩) fun s3 hs3 => h q _ _ (.of (by rw [List.flatten_replicate_singleton, List.flatten_replicate_singleton] at hi; rw [List.flatten_replicate_singleton]; exact hi)) (fun p hp => l1 p (.tail _ (List.mem_append_left _ hp))) (.head _) (fun p hp => .tail _ (.tail _ hp)) (fun p hp hne => ?_) s3 hs3
    rcases List.mem_cons.mp hp with rfl | hp
    · exact absurd rfl hne
    refine mem_c hp ?_ fun hp => ?_
    · exact .inr lt
    · exact .inl hp
  · obtain ⟨o, ho⟩ := D.hidden (e ▸ q)
    exact Nat.lt_irrefl _ (l1 _ (List.mem_append_right _ ho))
end
end Mine
end
noncomputable section
open PySem PySem.W PyProof.Rows PySem.Spec PySem.Calls
namespace Mine
set_option genInjectivity false
set_option genSizeOf false
/-! tables of made code that grow in a call -/
theorem ints_app : ∀ {l l' : List Int} {us us' : List Value}, IntsL l us → IntsL l' us' → IntsL (l ++ l') (us ++ us')
  | [], _, _, _, h, h' => by cases h; exact h'
  | _ :: _, _, _, _, ⟨t, ur, e, h⟩, h' => by subst e; exact ⟨t, _, rfl, ints_app h h'⟩
theorem ints_one {x : Int} {u : Value} (h : ∃ t, u = .int x t) : IntsL [x] [u] := h.elim fun t e => ⟨t, [], by rw [e], rfl⟩
noncomputable abbrev qI : Str := Str.ofString "_int2digits.<locals>.inner"
noncomputable abbrev qD : Str := Str.ofString "_digits2int.<locals>.inner"
noncomputable def tb : List (Nat × Nat × Str) := [(83, 86, qI), (90, 101, qD)]
noncomputable def TabT (T : Nat × Nat × Str) (ps : Array Value) (n : Lg) : Prop := (T.1, tabObj ps) ∈ n ∧ TabSt T.2.1 4 T.2.2 ps n
noncomputable def Tabs (n : Lg) : Prop := ∀ T ∈ tb, ∃ ps, TabT T ps n
noncomputable abbrev One (n : Lg) : Prop := ∀ p ∈ n, ∀ r ∈ n, p.1 = r.1 → p.2 = r.2
/-- the two tables may be grown, and things may be new; all else stays -/
noncomputable def Grw (n n' : Lg) : Prop := (∀ p ∈ n, p.1 ≠ 83 → p.1 ≠ 90 → p ∈ n') ∧ (∀ p ∈ n', (∃ r ∈ n, r.1 = p.1) ∨ ∀ r ∈ n, @LT.lt Nat _ r.1 p.1) ∧ ∀ T ∈ tb, ∀ ps, TabT T ps n → ∃ ps', TabT T ps' n' ∧ (ps' = ps ∨ ∃ x y c, ps' = #[x, y, .ref c] ∧ ∀ r ∈ n, @LT.lt Nat _ r.1 c)
section
variable {n n' n2 ν : Lg}
theorem Grw.refl : Grw n n := ⟨fun _ h _ _ => h, fun p hp => .inl ⟨p, hp, rfl⟩, fun _ _ ps h => ⟨ps, h, .inl rfl⟩⟩
theorem Grw.tabs (h : Grw n n') (t : Tabs n) : Tabs n' := fun T hT => by
  obtain ⟨ps, hp⟩ := t T hT
  obtain ⟨ps', h', -⟩ := h.2.2 T hT ps hp
  exact ⟨ps', h'⟩
theorem in83 : (83, 86, qI) ∈ tb := .head _
theorem in90 : (90, 101, qD) ∈ tb := .tail _ (.head _)
theorem tb_ne {T T' : Nat × Nat × Str} (h : T ∈ tb) (h' : T' ∈ tb) : T'.1 = T.1 → T' = T := by
  refine mem_c h ?_ fun h => ?_
  · refine mem_c h' ?_ fun h' => ?_
    · exact fun _ => rfl
    · cases List.mem_singleton.mp h'
      exact fun e => absurd e (by decide)
  · cases List.mem_singleton.mp h
    refine mem_c h' ?_ fun h' => ?_
    · exact fun e => absurd e (by decide)
    · cases List.mem_singleton.mp h'
      exact fun _ => rfl
theorem Grw.has (t : Tabs n) (h : Grw n n') : ∀ p ∈ n, ∃ r ∈ n', r.1 = p.1 := fun p hp => by
  by_cases e : p.1 = 83
  · obtain ⟨_, hm, _⟩ := h.tabs t _ in83
    exact ⟨_, hm, e.symm⟩
  by_cases e2 : p.1 = 90
  · obtain ⟨_, hm, _⟩ := h.tabs t _ in90
    exact ⟨_, hm, e2.symm⟩
  · exact ⟨p, h.1 p hp e e2, rfl⟩
theorem Grw.up (t : Tabs n) (h : Grw n n') {c : Addr} (hc : ∀ r ∈ n', @LT.lt Nat _ r.1 c) : ∀ r ∈ n, @LT.lt Nat _ r.1 c := fun r hr => by
  obtain ⟨r', h1, h2⟩ := h.has t r hr
  exact h2 ▸ hc r' h1
theorem Grw.trans (t : Tabs n) (h : Grw n n') (h' : Grw n' n2) : Grw n n2 := by
  refine ⟨fun p hp a b => h'.1 p (h.1 p hp a b) a b, fun p hp => ?_, fun T hT ps ht => ?_⟩
  · rcases h'.2.1 p hp with ⟨r, hr, e⟩ | hf
    · exact e ▸ h.2.1 r hr
    · exact .inr (h.up t hf)
  · obtain ⟨ps1, t1, e1⟩ := h.2.2 T hT ps ht
    obtain ⟨ps2, t2, e2⟩ := h'.2.2 T hT ps1 t1
    refine ⟨ps2, t2, ?_⟩
    rcases e2 with rfl | ⟨x, y, c, e, hc⟩
    · exact e1
    · exact .inr ⟨x, y, c, e, h.up t hc⟩
theorem TabSt.keep {ln co : Nat} {q : Str} {ps : Array Value} {l l' : Lg} (h : TabSt ln co q ps l) (k : Keep l l') : TabSt ln co q ps l' := h.imp id fun ⟨c, oc, vs, t, e, m, d1, d2⟩ => ⟨c, oc, vs, t, e, k _ m (code_not_tab d1 d2), d1, d2⟩
/-- by addresses -/
theorem keep_of {l' : Lg} (one : One n) (t : Tabs n) (h : ∀ p ∈ n, p.1 ≠ 83 → p.1 ≠ 90 → p ∈ l') : Keep n l' := fun p hp hn => by
  obtain ⟨ps, h1, h2⟩ := t _ in83
  obtain ⟨ps2, h3, h4⟩ := t _ in90
  exact h p hp (fun e => hn (h2.isTab h1 (one p hp _ h1 e))) fun e => hn (h4.isTab h3 (one p hp _ h3 e))
theorem Grw.keep (one : One n) (t : Tabs n) (h : Grw n n') : Keep n n' := keep_of one t h.1
theorem Grw.cons {q : Addr} {o : Obj} (h : Grw n n') (hq : ∀ r ∈ n, @LT.lt Nat _ r.1 q) : Grw n ((q, o) :: n') := by
  refine ⟨fun p hp a b => .tail _ (h.1 p hp a b), fun p hp => ?_, fun T hT ps ht => ?_⟩
  · refine mem_c hp ?_ fun hp => ?_
    · exact .inr hq
    · exact h.2.1 p hp
  · obtain ⟨ps1, ⟨t1, t2⟩, e1⟩ := h.2.2 T hT ps ht
    exact ⟨ps1, ⟨.tail _ t1, t2.imp id fun ⟨c, oc, vs, t, e, m, r⟩ => ⟨c, oc, vs, t, e, .tail _ m, r⟩⟩, e1⟩
theorem ne_tb {T : Nat × Nat × Str} (hT : T ∈ tb) {a : Nat} (h : a ≠ 83) (h2 : a ≠ 90) : a ≠ T.1 := by
  refine mem_c hT ?_ fun hT => ?_
  · exact h
  · cases List.mem_singleton.mp hT
    exact h2
/-- a def made in a body: its table grown -/
theorem grown_grw (one : One n) {T : Nat × Nat × Str} (hT : T ∈ tb) {ps : Array Value} (ht : TabT T ps n) {c : Addr} {oc : Obj} (hc : CodeAt T.1 n c oc T.2.2) : Grw n (grown n T.1 c oc T.2.1 4) := by
  obtain ⟨h1, h2⟩ := ht
  obtain ⟨⟨vs, t, d1, d2⟩, hc⟩ := hc
  have kp : ∀ p ∈ n, p.1 ≠ T.1 → p ∈ grown n T.1 c oc T.2.1 4 := fun p hp hne => .tail _ (.tail _ (mem_but hp hne))
  refine ⟨fun p hp a b => kp p hp (ne_tb hT a b), fun p hp => ?_, fun T' hT' ps' ht' => ?_⟩
  · refine mem_c hp ?_ fun hp => ?_
    · exact hc.imp (fun h => ⟨_, h.1, rfl⟩) id
    refine mem_c hp ?_ fun hp => ?_
    · exact .inl ⟨_, h1, rfl⟩
    · exact .inl ⟨p, (List.mem_filter.mp hp).1, rfl⟩
  · by_cases e : T'.1 = T.1
    · cases tb_ne hT hT' e
      refine ⟨_, ⟨.tail _ (.head _), .inr ⟨c, oc, vs, t, rfl, .head _, d1, d2⟩⟩, hc.imp (fun ⟨_, x, y, ht⟩ => ?_) fun h => ⟨_, _, c, rfl, h⟩⟩
      have q : #[x, y, Value.ref c] = ps' := by
        have := congrArg Obj.data (one _ ht _ ht'.1 rfl)
        injection this
      rcases ht'.2 with rfl | ⟨c2, _, _, _, rfl, -⟩
      · cases q
      · cases q; rfl
    · obtain ⟨h3, h4⟩ := ht'
      refine ⟨ps', ⟨kp _ h3 e, h4.keep fun p hp hn => kp p hp fun e => hn (h2.isTab h1 (one p hp _ h1 e))⟩, .inl rfl⟩
/-- what a call leaves: grown tables, and a value -/
noncomputable def GrB (sv : SV) (n n' : Lg) (v : Value) : Prop := Grw n n' ∧ ∃ ext, (∀ p ∈ ext, p ∈ n' ∧ ∀ r ∈ n, @LT.lt Nat _ r.1 p.1) ∧ Is ext sv v
theorem gives_grB {sv : SV} (t : Tabs ν) : Gives (GrB sv) ν (GrB sv ν) := fun H n' v dis one ⟨g, ext, hx, hi⟩ => by
  have off : ∀ T ∈ tb, T.1 ∉ H.map (·.1) := fun T hT q => by
    obtain ⟨r, hr, e⟩ := List.mem_map.mp q
    obtain ⟨ps, h1, -⟩ := t T hT
    exact dis _ h1 r hr e.symm
  have offν : ∀ p ∈ ν, p.1 ∉ H.map (·.1) := fun p hp q => by
    obtain ⟨r, hr, e⟩ := List.mem_map.mp q
    exact dis p hp r hr e.symm
  have offN : ∀ a, (∀ r ∈ ν ++ H, @LT.lt Nat _ r.1 a) → a ∉ H.map (·.1) := fun a h q => by
    obtain ⟨r, hr, e⟩ := List.mem_map.mp q
    exact Nat.lt_irrefl _ (e ▸ h r (List.mem_append_right _ hr))
  have kp : ∀ p ∈ ν, p.1 ≠ 83 → p.1 ≠ 90 → p ∈ butL n' (H.map (·.1)) := fun p hp a b => mem_butL (g.1 p (List.mem_append_left _ hp) a b) (offν p hp)
  have keep := keep_of one t kp
  refine ⟨butL n' (H.map (·.1)), fun p hp => ?_, fun sv u h => (keep.isX sv).1 u h, fun p hp => ?_, ⟨kp, fun p hp => ?_, fun T hT ps ht => ?_⟩, ext, fun p hp => ⟨mem_butL (hx p hp).1 (offN _ (hx p hp).2), fun r hr => (hx p hp).2 r (List.mem_append_left _ hr)⟩, hi⟩
  · rcases List.mem_append.mp hp with hp | hp
    · exact (butL_mem hp).1
    · exact g.1 p (List.mem_append_right _ hp) (fun e => off _ in83 (e ▸ List.mem_map_of_mem (f := (·.1)) hp)) fun e => off _ in90 (e ▸ List.mem_map_of_mem (f := (·.1)) hp)
  · obtain ⟨h1, h2⟩ := butL_mem hp
    refine (g.2.1 p h1).imp (fun ⟨r, hr, e⟩ => ⟨r, (List.mem_append.mp hr).elim id fun hr => absurd (List.mem_map_of_mem (f := (·.1)) hr) (e ▸ h2), e⟩) id
  · obtain ⟨h1, h2⟩ := butL_mem hp
    refine (g.2.1 p h1).imp (fun ⟨r, hr, e⟩ => ⟨r, (List.mem_append.mp hr).elim id fun hr => absurd (List.mem_map_of_mem (f := (·.1)) hr) (e ▸ h2), e⟩) fun h r hr => h r (List.mem_append_left _ hr)
  · obtain ⟨ps', ⟨t1, t2⟩, e⟩ := g.2.2 T hT ps ⟨List.mem_append_left _ ht.1, ht.2.imp id fun ⟨c, oc, vs, t, e, m, r⟩ => ⟨c, oc, vs, t, e, List.mem_append_left _ m, r⟩⟩
    refine ⟨ps', ⟨mem_butL t1 (off T hT), ?_⟩, e.imp id fun ⟨x, y, c, e, h⟩ => ⟨x, y, c, e, fun r hr => h r (List.mem_append_left _ hr)⟩⟩
    rcases e with rfl | ⟨x, y, c, rfl, h⟩
    · exact ht.2.keep keep
    · rcases t2 with h' | ⟨c', oc, vs, t, e, m, r⟩
      · cases h'
      · cases e
        exact .inr ⟨c, oc, vs, t, rfl, mem_butL m (offN _ h), r⟩
variable {K : PC} {sc : Scope} {lv : Nat} {s0 : Shared} {σ : Sg} {z z' : Bool} {Φ : Ora} {R : Flow → Shared → Prop} {rest : List Stmt} {x sv : SV}
theorem GrB.is {v : Value} (h : GrB sv n n' v) : Is n' sv v := h.2.elim fun _ h => h.2.mono fun p hp => (h.1 p hp).1
theorem gives_newG (sv : SV) : Gives (New sv) ν fun n v => Grw ν n ∧ Is n sv v := fun _ _ _ _ _ ⟨q, o, e, h1, h2⟩ => ⟨(q, o) :: ν, fun _ hp => e ▸ hp, fun _ _ => Is.mono fun _ => .tail _, fun p hp => (List.mem_cons.mp hp).elim (fun e => .inr (e ▸ h2)) fun hp => .inl ⟨p, hp, rfl⟩, .cons .refl fun p hp => h2 p (List.mem_append_left _ hp), h1.mono fun p hp => List.mem_singleton.mp hp ▸ .head _⟩
/-- a def of the text that grows tables -/
noncomputable def FnB (f : Addr) (lv : Nat) (x sv : SV) : Prop := ∀ ν us, IsL ν x us → MCk f lv us [] (fun n => (∀ p ∈ ν, p ∈ n) ∧ Tabs n) (GrB sv)
theorem Tabs.app (t : Tabs n) (r : Lg) : Tabs (n ++ r) := fun T hT => (t T hT).imp fun _ h => ⟨List.mem_append_left _ h.1, h.2.imp id fun ⟨c, oc, vs, t, e, m, r⟩ => ⟨c, oc, vs, t, e, List.mem_append_left _ m, r⟩⟩
theorem Tabs.cons (t : Tabs n) {p : Addr × Obj} : Tabs (p :: n) := fun T hT => (t T hT).imp fun _ h => ⟨.tail _ h.1, h.2.imp id fun ⟨c, oc, vs, t, e, m, r⟩ => ⟨c, oc, vs, t, e, .tail _ m, r⟩⟩
theorem ex_callB (G : PGood K sc lv) (O : OraOK K sc ν Φ) (t : Tabs ν) {f : Str} {fa : Addr} {lv' : Nat} {es : List Expr} {p pos : Pos} {c : List Prop} (ha : ∀ P, nsIn (hd.heap_39 P) mainGlobals f = some (some (.ref fa))) (hfn : FnIs fa) (hlv : lv' ≤ lv)
    (he : evl Φ σ z es = some (x, z', c)) (hc : All c) (C : FnB fa lv' x sv) (hf : isGlo sc f = true := by rfl) (hok : okArgs es = true := by rfl) : Ex K sc s0 z σ ν (.Call (.Name f p) es [] pos) sv (Grw ν) := fun s E Q hs h =>
  call_ref G.env (view_at ⟨G.nd, G.fcz⟩) G hf ha hfn hok hs (fun hq => el_ok (ev_of G O) ((Bool.and_eq_true _ _).mp hok).2 he hc hs fun us s1 hs1 hu => hq us _ s1 hs1 hu) fun us z s hs hu => call_vs G hlv (C ν us hu) (fun r => ⟨fun _ => List.mem_append_left _, t.app r⟩) (gives_grB t) hs fun u ν' s' hs' hT => h u ν' s' hs' hT.1 hT.is
theorem Tabs.mono (t : Tabs n) (h : ∀ p ∈ n, p ∈ n') : Tabs n' := fun T hT => (t T hT).imp fun _ k => ⟨h _ k.1, k.2.imp id fun ⟨c, oc, vs, t, e, m, r⟩ => ⟨c, oc, vs, t, e, h _ m, r⟩⟩
/-- what a call gives comes back, tables grown -/
theorem tri_retCallB (G : PGood K sc lv) (O : OraOK K sc ν Φ) (t : Tabs ν) {f : Str} {fa : Addr} {lv' : Nat} {es : List Expr} {p pos p2 : Pos} {c : List Prop} (ha : ∀ P, nsIn (hd.heap_39 P) mainGlobals f = some (some (.ref fa))) (hfn : FnIs fa) (hlv : lv' ≤ lv)
    (he : evl Φ σ z es = some (x, z', c)) (hc : All c) (C : FnB fa lv' x sv) (hR : ∀ u s, Done K.g K.L (GrB sv ν) s0 u s → R (.ret u) s := by exact fun _ _ h => h) (hf : isGlo sc f = true := by rfl) (hok : okArgs es = true := by rfl) : Tri K sc s0 z σ ν (.Return (some (.Call (.Name f p) es [] pos)) p2 :: rest) R := fun s hs =>
  wpAny_execs_cons (wpAny_Return_some (call_ref G.env (view_at ⟨G.nd, G.fcz⟩) G hf ha hfn hok hs (fun hq => el_ok (ev_of G O) ((Bool.and_eq_true _ _).mp hok).2 he hc hs fun us s1 hs1 hu => hq us _ s1 hs1 hu) fun us z s hs hu => call_vs G hlv (C ν us hu) (fun r => ⟨fun _ => List.mem_append_left _, t.app r⟩) (gives_grB t) hs fun u ν' s' hs' hT => hR u s' (done_ok hs' (fun _ h => h) hT)))
/-- a tuple comes back, tables grown -/
theorem tri_retB {k : Nat} {es : List Expr} {p p2 : Pos} {x x' : SV} {c : List Prop} {n : Lg} (G : PGood K sc lv) (O : OraOK K sc ν Φ) (t : Tabs n) (g : Grw n ν) (he : evl Φ σ z es = some (x, z', c)) (hc : All c) (hq : x = x') (hf : flat x = true := by rfl) (hR : ∀ u s, Done K.g K.L (GrB (.t x') n) s0 u s → R (.ret u) s := by exact fun _ _ h => h) (ho : noStar es = true := by rfl) (hz : Nat.ble (len x) 1000 = true := by rfl) : Tri K sc s0 z σ ν (.Return (some (.Tuple es k p)) p2 :: rest) R :=
  tri_retTup G O he hc (fun q us s hu lt hs => hR _ s <| done_ok (ν' := (q, tupO us) :: ν) hs (fun _ h => h) ⟨.cons g (g.up t lt), [(q, tupO us)], fun p hp => by cases List.mem_singleton.mp hp; exact ⟨.head _, g.up t lt⟩, ⟨q, us, rfl, .head _, hq ▸ (flat_is hf).2 us hu⟩⟩) ho hz
end
end Mine
end
noncomputable section
open PySem PySem.W PyProof.Rows PySem.Spec PySem.Calls
namespace Mine
noncomputable abbrev f1 : UInt64 := 4607182418800017408
noncomputable abbrev f2 : UInt64 := 4611686018427387904
noncomputable abbrev f4 : UInt64 := 4616189618054758400
noncomputable abbrev f6 : UInt64 := 4618441417868443648
noncomputable abbrev fh : UInt64 := 4602678819172646912
noncomputable abbrev f13 : UInt64 := 4599676419421066581
noncomputable abbrev f16 : UInt64 := 4595172819793696085
noncomputable abbrev f23 : UInt64 := 4604180019048437077
noncomputable def vF (m1 m2 hue : UInt64) : UInt64 :=
  if (Float64.cmp (Float64.divmod hue f1).snd f16 == some Ordering.lt) = true then Float64.add m1 (Float64.mul (Float64.mul (Float64.sub m2 m1) (Float64.divmod hue f1).snd) f6)
  else if (Float64.cmp (Float64.divmod hue f1).snd fh == some Ordering.lt) = true then m2
  else if (Float64.cmp (Float64.divmod hue f1).snd f23 == some Ordering.lt) = true then Float64.add m1 (Float64.mul (Float64.mul (Float64.sub m2 m1) (Float64.sub f23 (Float64.divmod hue f1).snd)) f6)
  else m1
noncomputable abbrev T3 : Type := UInt64 × UInt64 × UInt64
noncomputable def hsvR1 (h s v : UInt64) (i : Int) (f : UInt64) : T3 :=
  if i = 0 then (v, Float64.mul v (Float64.sub f1 (Float64.mul s (Float64.sub f1 f))), Float64.mul v (Float64.sub f1 s))
  else if i = 1 then (Float64.mul v (Float64.sub f1 (Float64.mul s f)), v, Float64.mul v (Float64.sub f1 s))
  else if i = 2 then (Float64.mul v (Float64.sub f1 s), v, Float64.mul v (Float64.sub f1 (Float64.mul s (Float64.sub f1 f))))
  else if i = 3 then (Float64.mul v (Float64.sub f1 s), Float64.mul v (Float64.sub f1 (Float64.mul s f)), v)
  else if i = 4 then (Float64.mul v (Float64.sub f1 (Float64.mul s (Float64.sub f1 f))), Float64.mul v (Float64.sub f1 s), v)
  else (v, Float64.mul v (Float64.sub f1 s), Float64.mul v (Float64.sub f1 (Float64.mul s f)))
noncomputable def hsvI (h : UInt64) : Int := Flt.toInt Float64.truncOf (Float64.mul h f6)
noncomputable def hsvR (h s v : UInt64) : T3 := if (Float64.cmp s 0 == some Ordering.eq) = true then (v, v, v) else hsvR1 h s v ((hsvI h).fmod 6) (Float64.sub (Float64.mul h f6) (Float64.ofInt (hsvI h)))
theorem hsv_last {x : Int} (h0 : x.fmod 6 ≠ 0) (h1 : x.fmod 6 ≠ 1) (h2 : x.fmod 6 ≠ 2) (h3 : x.fmod 6 ≠ 3) (h4 : x.fmod 6 ≠ 4) (h5 : x.fmod 6 ≠ 5) : False := by
  rw [Int.fmod_eq_emod_of_nonneg _ (by decide)] at *; lia
noncomputable def hsvOf (r g b : UInt64) : T3 :=
  let mx := Flt.maxOfBits [r, g, b]
  let mn := Flt.minOfBits [r, g, b]
  if (Float64.cmp mn mx == some Ordering.eq) = true then (0, 0, mx) else
  let rc := Float64.div (Float64.sub mx r) (Float64.sub mx mn)
  let gc := Float64.div (Float64.sub mx g) (Float64.sub mx mn)
  let bc := Float64.div (Float64.sub mx b) (Float64.sub mx mn)
  let h := if (Float64.cmp r mx == some Ordering.eq) = true then Float64.sub bc gc else if (Float64.cmp g mx == some Ordering.eq) = true then Float64.sub (Float64.add f2 rc) bc else Float64.sub (Float64.add f4 gc) rc
  ((Float64.divmod (Float64.div h f6) f1).snd, Float64.div (Float64.sub mx mn) mx, mx)
noncomputable def hlsOf (r g b : UInt64) : T3 :=
  let mx := Flt.maxOfBits [r, g, b]
  let mn := Flt.minOfBits [r, g, b]
  let l := Float64.div (Float64.add mx mn) f2
  if (Float64.cmp mn mx == some Ordering.eq) = true then (0, l, 0) else
  let s := if (Float64.cmp l fh == some Ordering.lt || Float64.cmp l fh == some Ordering.eq) = true then Float64.div (Float64.sub mx mn) (Float64.add mx mn) else Float64.div (Float64.sub mx mn) (Float64.sub (Float64.sub f2 mx) mn)
  let rc := Float64.div (Float64.sub mx r) (Float64.sub mx mn)
  let gc := Float64.div (Float64.sub mx g) (Float64.sub mx mn)
  let bc := Float64.div (Float64.sub mx b) (Float64.sub mx mn)
  let h := if (Float64.cmp r mx == some Ordering.eq) = true then Float64.sub bc gc else if (Float64.cmp g mx == some Ordering.eq) = true then Float64.sub (Float64.add f2 rc) bc else Float64.sub (Float64.add f4 gc) rc
  ((Float64.divmod (Float64.div h f6) f1).snd, l, s)
noncomputable def hlsR (h l s : UInt64) : T3 :=
  if (Float64.cmp s 0 == some Ordering.eq) = true then (l, l, l) else
  let m2 := if (Float64.cmp l fh == some Ordering.lt || Float64.cmp l fh == some Ordering.eq) = true then Float64.mul l (Float64.add f1 s) else Float64.sub (Float64.add l s) (Float64.mul l s)
  let m1 := Float64.sub (Float64.mul f2 l) m2
  (vF m1 m2 (Float64.add h f13), vF m1 m2 h, vF m1 m2 (Float64.sub h f13))
end Mine
end
noncomputable section
open PySem PySem.W PyProof.Rows PySem.Spec PySem.Calls
namespace Mine
set_option genInjectivity false
set_option genSizeOf false
theorem no_max : ∀ P, nsIn (hd.heap_39 P) mainGlobals (Str.ofString "max") = some none := fun _ => rfl
theorem no_min : ∀ P, nsIn (hd.heap_39 P) mainGlobals (Str.ofString "min") = some none := fun _ => rfl
theorem no_len : ∀ P, nsIn (hd.heap_39 P) mainGlobals (Str.ofString "len") = some none := fun _ => rfl
theorem no_int : ∀ P, nsIn (hd.heap_39 P) mainGlobals (Str.ofString "int") = some none := fun _ => rfl
section
variable {K : PC} {sc : Scope} {lv : Nat}
theorem c_max (G : PGood K sc lv) (hf : isGlo sc (Str.ofString "max") = true) : CalK K sc (Str.ofString "max") φmax := cal_bi G (bi_max G) (by decide +kernel) (.inl ⟨_, rfl⟩) hf no_max (by decide)
theorem c_len (G : PGood K sc lv) (hf : isGlo sc (Str.ofString "len") = true) : CalK K sc (Str.ofString "len") φlen := cal_bi G (bi_len G) (by decide +kernel) (.inl ⟨_, rfl⟩) hf no_len (by decide)
theorem c_min (G : PGood K sc lv) (hf : isGlo sc (Str.ofString "min") = true) : CalK K sc (Str.ofString "min") φmin := cal_bi G (bi_min G) (by decide +kernel) (.inl ⟨_, rfl⟩) hf no_min (by decide)
theorem c_int (G : PGood K sc lv) (hf : isGlo sc (Str.ofString "int") = true) : CalK K sc (Str.ofString "int") φint := cal_bi G (bi_int G) (by decide +kernel) (.inr ⟨_, rfl⟩) hf no_int (by decide)
end
theorem mul_l {a b : Int} (h : a.natAbs < 2 ^ 64) : IntMulOk a b := .of_left (intBits_le h)
theorem bf {b : Bool} (h : b = false) : ¬ b = true := Bool.eq_false_iff.mp h
theorem zf1 : Float64.isZero f1 = false := by decide +kernel
theorem zf2 : Float64.isZero f2 = false := by decide +kernel
theorem zf6 : Float64.isZero f6 = false := by decide +kernel
/-- a row of three floats -/
noncomputable abbrev c3 (T : T3) (z : Bool) : SV := .p (.f T.1 false) (.p (.f T.2.1 z) (.p (.f T.2.2 z) .nl))
theorem c3_eq {T : T3} {a b c : UInt64} {z1 z2 z3 z : Bool} {ν : Lg} {us : List Value} (e : T = (a, b, c)) (hz : z = true → (z2 && z3) = true) (h : IsL ν (.p (.f a z1) (.p (.f b z2) (.p (.f c z3) .nl))) us) : IsL [] (c3 T z) us := by
  obtain ⟨_, _, rfl, ⟨t1, rfl, -⟩, _, _, rfl, ⟨t2, rfl, n2⟩, _, _, rfl, ⟨t3, rfl, n3⟩, rfl⟩ := h
  subst e
  exact ⟨_, _, rfl, ⟨t1, rfl, nofun⟩, _, _, rfl, ⟨t2, rfl, fun q => n2 ((Bool.and_eq_true _ _).mp (hz q)).1⟩, _, _, rfl, ⟨t3, rfl, fun q => n3 ((Bool.and_eq_true _ _).mp (hz q)).2⟩, rfl⟩
theorem fz_eq {a b : UInt64} {z : Bool} {ν : Lg} {u : Value} (e : b = a) (h : Is ν (.f a z) u) : Is [] (.f b false) u := by
  obtain ⟨t, rfl, -⟩ := h
  subst e
  exact ⟨t, rfl, nofun⟩
section
variable {K : PC} {sc : Scope} {lv : Nat} {ν : Lg} {s0 : Shared} {σ : Sg} {z z' z1 z2 z3 zt : Bool} {Φ : Ora} {R : Flow → Shared → Prop} {rest : List Stmt} {n : Lg} {c : List Prop}
theorem tri_ret3 {k : Nat} {es : List Expr} {p p2 : Pos} {T : T3} {x y w : UInt64} (G : PGood K sc lv) (O : OraOK K sc ν Φ) (he : evl Φ σ z es = some (.p (.f x z1) (.p (.f y z2) (.p (.f w z3) .nl)), z', c)) (hc : All c) (hq : T = (x, y, w)) (hz : zt = true → (z2 && z3) = true := by first | exact fun _ => rfl | exact nofun) (hn : ∀ p ∈ n, p ∈ ν := by exact fun _ h => h) (hR : ∀ u s, Done K.g K.L (New (.t (c3 T zt)) n) s0 u s → R (.ret u) s := by exact fun _ _ h => h) (ho : noStar es = true := by rfl) : Tri K sc s0 z σ ν (.Return (some (.Tuple es k p)) p2 :: rest) R :=
  tri_retTup G O he hc (fun q us s hu lt hs => hR _ s (done_ok (ν' := (q, tupO us) :: n) hs (fun p hp => (List.mem_cons.mp hp).elim (fun e => e ▸ .head _) fun hp => .tail _ (hn p hp)) ⟨q, _, rfl, ⟨q, us, rfl, .head _, (c3_eq hq hz hu).wk⟩, fun p hp => lt p (hn p hp)⟩)) ho rfl
theorem tri_ret1 {e : Expr} {p : Pos} {x y : UInt64} (G : PGood K sc lv) (O : OraOK K sc ν Φ) (he : ev Φ σ z e = some (.f x z1, z', c)) (hc : All c) (hq : y = x) (hn : ∀ p ∈ n, p ∈ ν := by exact fun _ h => h) (hR : ∀ u s, Done K.g K.L (Val (.f y false) n) s0 u s → R (.ret u) s := by exact fun _ _ h => h) : Tri K sc s0 z σ ν (.Return (some e) p :: rest) R :=
  tri_ret G O he hc fun u s hs hu => hR u s (done_ok hs hn ⟨rfl, fz_eq hq hu⟩)
end
theorem v_spec' (m1 m2 hue : UInt64) : Fn 130 1 (.p (.f m1 false) (.p (.f m2 false) (.p (.f hue false) .nl))) (Val (.f (vF m1 m2 hue) false)) := by
  intro ν0 us hu
  refine IsL.e3 hu fun u1 u2 u3 i1 i2 i3 => ?_
  unfold MCk
  k_fill
  k_dflt refine' mc_tri (lv := 0) [((Str.ofString "m1"), u1), ((Str.ofString "m2"), u2), ((Str.ofString "hue"), u3)] [((Str.ofString "m1"), (.f m1 false)), ((Str.ofString "m2"), (.f m2 false)), ((Str.ofString "hue"), (.f hue false)), ((Str.ofString "ONE_SIXTH"), .f f16 false), ((Str.ofString "TWO_THIRD"), .f f23 false)] (fun P => ?ho) (fun P => ?hcd) (fun w s X => ?hb) ?hnd ?hkd ?hc0 ?h1 ?h2 ?h3 (fun ν hν => ?hs) (fun K ν s9 G hν lt hfz hcl hq => ?body)
  case ho => k_dflt k_is
  case hcd => k_dflt k_is
  case hb => exact BindsTo.of_eq rfl
  case hnd => exact (by decide : (["m1", "m2", "hue"].map Str.ofString).Nodup)
  case hkd => rfl
  case hc0 => exact List.nodup_nil
  case h1 => rfl
  case h2 => rfl
  case h3 => rfl
  case hs => exact ⟨rfl, .inl rfl, Is.mono hν i1, rfl, .inl rfl, Is.mono hν i2, rfl, .inl rfl, Is.mono hν i3, ⟨rfl, _, fun P => by k_dflt k_is, ⟨_, rfl, nofun⟩⟩, ⟨rfl, _, fun P => by k_dflt k_is, ⟨_, rfl, nofun⟩⟩, trivial⟩
  refine tri_asg G .nil rfl ⟨zf1, trivial⟩ ?_
  refine tri_if G .nil rfl trivial (fun h1 => ?_) fun h1 => tri_next (tri_if G .nil rfl trivial (fun h2 => ?_) fun h2 => tri_next (tri_if G .nil rfl trivial (fun h3 => ?_) fun h3 => tri_next ?_))
  · exact tri_ret1 (y := vF m1 m2 hue) G .nil rfl trivial (if_pos h1)
  · exact tri_ret1 (y := vF m1 m2 hue) G .nil rfl trivial ((if_neg (bf h1)).trans (if_pos h2))
  · exact tri_ret1 (y := vF m1 m2 hue) G .nil rfl trivial ((if_neg (bf h1)).trans ((if_neg (bf h2)).trans (if_pos h3)))
  · exact tri_ret1 (y := vF m1 m2 hue) G .nil rfl trivial ((if_neg (bf h1)).trans ((if_neg (bf h2)).trans (if_neg (bf h3))))
theorem hsv_spec' (h s v : UInt64) (hf : Float64.isFinite (Float64.mul h f6) = true) (ho : (hsvI h).natAbs < 2 ^ 1024 - 2 ^ 970) : Fn 144 1 (.p (.f h false) (.p (.f s false) (.p (.f v false) .nl))) (New (.t (c3 (hsvR h s v) false))) := by
  intro ν0 us hu
  refine IsL.e3 hu fun u1 u2 u3 i1 i2 i3 => ?_
  unfold MCk
  k_fill
  k_dflt refine' mc_tri (lv := 0) [((Str.ofString "h"), u1), ((Str.ofString "s"), u2), ((Str.ofString "v"), u3)] [((Str.ofString "h"), (.f h false)), ((Str.ofString "s"), (.f s false)), ((Str.ofString "v"), (.f v false))] (fun P => ?ho) (fun P => ?hcd) (fun w s X => ?hb) ?hnd ?hkd ?hc0 ?h1 ?h2 ?h3 (fun ν hν => ?hs) (fun K ν s9 G hν lt hfz hcl hq => ?body)
  case ho => k_dflt k_is
  case hcd => k_dflt k_is
  case hb => exact BindsTo.of_eq rfl
  case hnd => exact (by decide : (["h", "s", "v"].map Str.ofString).Nodup)
  case hkd => rfl
  case hc0 => exact List.nodup_nil
  case h1 => rfl
  case h2 => rfl
  case h3 => rfl
  case hs => exact ⟨rfl, .inl rfl, Is.mono hν i1, rfl, .inl rfl, Is.mono hν i2, rfl, .inl rfl, Is.mono hν i3, trivial⟩
  have O : OraOK K _ ν [(Str.ofString "int", fun _ => φint)] := .cons (c_int G rfl) .nil
  refine tri_if G .nil rfl trivial (fun h0 => tri_ret3 (T := hsvR h s v) (zt := false) G .nil rfl trivial (if_pos h0)) fun h0 => tri_next ?_
  refine tri_asg G O rfl ⟨hf, trivial⟩ (tri_asg G .nil rfl ⟨ho, trivial⟩ (tri_asg G .nil rfl trivial (tri_asg G .nil rfl trivial (tri_asg G .nil rfl trivial (tri_asg G .nil rfl ⟨by decide, trivial⟩ ?_)))))
  refine tri_if G .nil rfl trivial (fun g0 => tri_ret3 (T := hsvR h s v) (zt := false) G .nil rfl trivial ((if_neg (bf h0)).trans (if_pos (beq_iff_eq.mp g0)))) fun g0 => tri_next ?_
  refine tri_if G .nil rfl trivial (fun g1 => tri_ret3 (T := hsvR h s v) (zt := false) G .nil rfl trivial ((if_neg (bf h0)).trans ((if_neg (mt beq_iff_eq.mpr (bf g0))).trans (if_pos (beq_iff_eq.mp g1))))) fun g1 => tri_next ?_
  refine tri_if G .nil rfl trivial (fun g2 => tri_ret3 (T := hsvR h s v) (zt := false) G .nil rfl trivial ((if_neg (bf h0)).trans ((if_neg (mt beq_iff_eq.mpr (bf g0))).trans ((if_neg (mt beq_iff_eq.mpr (bf g1))).trans (if_pos (beq_iff_eq.mp g2)))))) fun g2 => tri_next ?_
  refine tri_if G .nil rfl trivial (fun g3 => tri_ret3 (T := hsvR h s v) (zt := false) G .nil rfl trivial ((if_neg (bf h0)).trans ((if_neg (mt beq_iff_eq.mpr (bf g0))).trans ((if_neg (mt beq_iff_eq.mpr (bf g1))).trans ((if_neg (mt beq_iff_eq.mpr (bf g2))).trans (if_pos (beq_iff_eq.mp g3))))))) fun g3 => tri_next ?_
  refine tri_if G .nil rfl trivial (fun g4 => tri_ret3 (T := hsvR h s v) (zt := false) G .nil rfl trivial ((if_neg (bf h0)).trans ((if_neg (mt beq_iff_eq.mpr (bf g0))).trans ((if_neg (mt beq_iff_eq.mpr (bf g1))).trans ((if_neg (mt beq_iff_eq.mpr (bf g2))).trans ((if_neg (mt beq_iff_eq.mpr (bf g3))).trans (if_pos (beq_iff_eq.mp g4)))))))) fun g4 => tri_next ?_
  refine tri_if G .nil rfl trivial (fun g5 => tri_ret3 (T := hsvR h s v) (zt := false) G .nil rfl trivial ((if_neg (bf h0)).trans ((if_neg (mt beq_iff_eq.mpr (bf g0))).trans ((if_neg (mt beq_iff_eq.mpr (bf g1))).trans ((if_neg (mt beq_iff_eq.mpr (bf g2))).trans ((if_neg (mt beq_iff_eq.mpr (bf g3))).trans ((if_neg (mt beq_iff_eq.mpr (bf g4)))))))))) fun g5 => tri_next ?_
  exact (hsv_last (mt beq_iff_eq.mpr (bf g0)) (mt beq_iff_eq.mpr (bf g1)) (mt beq_iff_eq.mpr (bf g2)) (mt beq_iff_eq.mpr (bf g3)) (mt beq_iff_eq.mpr (bf g4)) (mt beq_iff_eq.mpr (bf g5))).elim
theorem rgbhsv_spec' (r g b : UInt64) (k1 : (Float64.cmp (Flt.minOfBits [r, g, b]) (Flt.maxOfBits [r, g, b]) == some Ordering.eq) = false → Float64.isZero (Flt.maxOfBits [r, g, b]) = false) (k2 : (Float64.cmp (Flt.minOfBits [r, g, b]) (Flt.maxOfBits [r, g, b]) == some Ordering.eq) = false → Float64.isZero (Float64.sub (Flt.maxOfBits [r, g, b]) (Flt.minOfBits [r, g, b])) = false) : Fn 137 1 (.p (.f r true) (.p (.f g true) (.p (.f b true) .nl))) (New (.t (c3 (hsvOf r g b) true))) := by
  intro ν0 us hu
  refine IsL.e3 hu fun u1 u2 u3 i1 i2 i3 => ?_
  unfold MCk
  k_fill
  k_dflt refine' mc_tri (lv := 0) [((Str.ofString "r"), u1), ((Str.ofString "g"), u2), ((Str.ofString "b"), u3)] [((Str.ofString "r"), (.f r true)), ((Str.ofString "g"), (.f g true)), ((Str.ofString "b"), (.f b true))] (fun P => ?ho) (fun P => ?hcd) (fun w s X => ?hb) ?hnd ?hkd ?hc0 ?h1 ?h2 ?h3 (fun ν hν => ?hs) (fun K ν s9 G hν lt hfz hcl hq => ?body)
  case ho => k_dflt k_is
  case hcd => k_dflt k_is
  case hb => exact BindsTo.of_eq rfl
  case hnd => exact (by decide : (["r", "g", "b"].map Str.ofString).Nodup)
  case hkd => rfl
  case hc0 => exact List.nodup_nil
  case h1 => rfl
  case h2 => rfl
  case h3 => rfl
  case hs => exact ⟨rfl, .inl rfl, Is.mono hν i1, rfl, .inl rfl, Is.mono hν i2, rfl, .inl rfl, Is.mono hν i3, trivial⟩
  have O : OraOK K _ ν [(Str.ofString "max", fun _ => φmax), (Str.ofString "min", fun _ => φmin)] := .cons (c_max G rfl) (.cons (c_min G rfl) .nil)
  refine tri_asg G O rfl trivial (tri_asg G O rfl trivial (tri_asg G .nil rfl trivial (tri_asg G .nil rfl trivial ?_)))
  refine tri_if G .nil rfl trivial (fun h0 => tri_ret3 (T := hsvOf r g b) (zt := true) G .nil rfl trivial (if_pos h0)) fun h0 => tri_next ?_
  refine tri_asg G .nil rfl ⟨k1 h0, trivial⟩ (tri_asg G .nil rfl ⟨k2 h0, trivial⟩ (tri_asg G .nil rfl ⟨k2 h0, trivial⟩ (tri_asg G .nil rfl ⟨k2 h0, trivial⟩ ?_)))
  refine tri_if G .nil rfl trivial (fun h1 => tri_asg G .nil rfl trivial (tri_next ?_)) fun h1 => tri_if G .nil rfl trivial (fun h2 => tri_asg G .nil rfl trivial (tri_next (tri_next ?_))) fun h2 => tri_asg G .nil rfl trivial (tri_next (tri_next ?_))
  · exact tri_asg G .nil rfl ⟨zf6, zf1, trivial⟩ (tri_ret3 (T := hsvOf r g b) (zt := true) G .nil rfl trivial ((if_neg (bf h0)).trans (congrArg (fun h => ((Float64.divmod (Float64.div h f6) f1).snd, _, _)) (if_pos h1))))
  · exact tri_asg G .nil rfl ⟨zf6, zf1, trivial⟩ (tri_ret3 (T := hsvOf r g b) (zt := true) G .nil rfl trivial ((if_neg (bf h0)).trans (congrArg (fun h => ((Float64.divmod (Float64.div h f6) f1).snd, _, _)) ((if_neg (bf h1)).trans (if_pos h2)))))
  · exact tri_asg G .nil rfl ⟨zf6, zf1, trivial⟩ (tri_ret3 (T := hsvOf r g b) (zt := true) G .nil rfl trivial ((if_neg (bf h0)).trans (congrArg (fun h => ((Float64.divmod (Float64.div h f6) f1).snd, _, _)) ((if_neg (bf h1)).trans (if_neg (bf h2))))))
theorem rgbhls_spec' (r g b : UInt64) (k1 : (Float64.cmp (Flt.minOfBits [r, g, b]) (Flt.maxOfBits [r, g, b]) == some Ordering.eq) = false → Float64.isZero (Float64.add (Flt.maxOfBits [r, g, b]) (Flt.minOfBits [r, g, b])) = false) (k2 : (Float64.cmp (Flt.minOfBits [r, g, b]) (Flt.maxOfBits [r, g, b]) == some Ordering.eq) = false → Float64.isZero (Float64.sub (Flt.maxOfBits [r, g, b]) (Flt.minOfBits [r, g, b])) = false) (k3 : (Float64.cmp (Flt.minOfBits [r, g, b]) (Flt.maxOfBits [r, g, b]) == some Ordering.eq) = false → Float64.isZero (Float64.sub (Float64.sub f2 (Flt.maxOfBits [r, g, b])) (Flt.minOfBits [r, g, b])) = false) : Fn 116 1 (.p (.f r true) (.p (.f g true) (.p (.f b true) .nl))) (New (.t (c3 (hlsOf r g b) true))) := by
  intro ν0 us hu
  refine IsL.e3 hu fun u1 u2 u3 i1 i2 i3 => ?_
  unfold MCk
  k_fill
  k_dflt refine' mc_tri (lv := 0) [((Str.ofString "r"), u1), ((Str.ofString "g"), u2), ((Str.ofString "b"), u3)] [((Str.ofString "r"), (.f r true)), ((Str.ofString "g"), (.f g true)), ((Str.ofString "b"), (.f b true))] (fun P => ?ho) (fun P => ?hcd) (fun w s X => ?hb) ?hnd ?hkd ?hc0 ?h1 ?h2 ?h3 (fun ν hν => ?hs) (fun K ν s9 G hν lt hfz hcl hq => ?body)
  case ho => k_dflt k_is
  case hcd => k_dflt k_is
  case hb => exact BindsTo.of_eq rfl
  case hnd => exact (by decide : (["r", "g", "b"].map Str.ofString).Nodup)
  case hkd => rfl
  case hc0 => exact List.nodup_nil
  case h1 => rfl
  case h2 => rfl
  case h3 => rfl
  case hs => exact ⟨rfl, .inl rfl, Is.mono hν i1, rfl, .inl rfl, Is.mono hν i2, rfl, .inl rfl, Is.mono hν i3, trivial⟩
  have O : OraOK K _ ν [(Str.ofString "max", fun _ => φmax), (Str.ofString "min", fun _ => φmin)] := .cons (c_max G rfl) (.cons (c_min G rfl) .nil)
  refine tri_asg G O rfl trivial (tri_asg G O rfl trivial (tri_asg G .nil rfl trivial (tri_asg G .nil rfl trivial (tri_asg G .nil rfl ⟨zf2, trivial⟩ ?_))))
  refine tri_if G .nil rfl trivial (fun h0 => tri_ret3 (T := hlsOf r g b) (zt := true) G .nil rfl trivial (if_pos h0)) fun h0 => tri_next ?_
  refine tri_sel G .nil rfl rfl rfl rfl trivial (fun _ => ⟨k1 h0, trivial⟩) (fun _ => ⟨k3 h0, trivial⟩) ?_
  refine tri_asg G .nil rfl ⟨k2 h0, trivial⟩ (tri_asg G .nil rfl ⟨k2 h0, trivial⟩ (tri_asg G .nil rfl ⟨k2 h0, trivial⟩ ?_))
  refine tri_if G .nil rfl trivial (fun h1 => tri_asg G .nil rfl trivial (tri_next ?_)) fun h1 => tri_if G .nil rfl trivial (fun h2 => tri_asg G .nil rfl trivial (tri_next (tri_next ?_))) fun h2 => tri_asg G .nil rfl trivial (tri_next (tri_next ?_))
  · exact tri_asg G .nil rfl ⟨zf6, zf1, trivial⟩ (tri_ret3 (T := hlsOf r g b) (zt := true) G .nil rfl trivial ((if_neg (bf h0)).trans (congrArg (fun h => ((Float64.divmod (Float64.div h f6) f1).snd, _, _)) (if_pos h1))))
  · exact tri_asg G .nil rfl ⟨zf6, zf1, trivial⟩ (tri_ret3 (T := hlsOf r g b) (zt := true) G .nil rfl trivial ((if_neg (bf h0)).trans (congrArg (fun h => ((Float64.divmod (Float64.div h f6) f1).snd, _, _)) ((if_neg (bf h1)).trans (if_pos h2)))))
  · exact tri_asg G .nil rfl ⟨zf6, zf1, trivial⟩ (tri_ret3 (T := hlsOf r g b) (zt := true) G .nil rfl trivial ((if_neg (bf h0)).trans (congrArg (fun h => ((Float64.divmod (Float64.div h f6) f1).snd, _, _)) ((if_neg (bf h1)).trans (if_neg (bf h2))))))
noncomputable def φv : SV → R2 := f3 fun a b c _ => some (.f (vF a b c) false, [])
theorem fn_v : PureFn 130 1 φv := fun ν us x hu => f3_is hu fun a b c z t1 t2 t3 e _ _ => e ▸ v_spec' a b c ν _ ⟨_, _, rfl, ⟨t1, rfl, nofun⟩, _, _, rfl, ⟨t2, rfl, nofun⟩, _, _, rfl, ⟨t3, rfl, nofun⟩, rfl⟩
theorem at_v : ∀ P, nsIn (hd.heap_39 P) mainGlobals (Str.ofString "_v") = some (some (.ref 130)) := fun P => by k_dflt k_is
theorem is_v : FnIs 130 := fun P => ⟨_, _, _, _, by k_dflt k_is⟩
theorem hls_spec' (h l s : UInt64) : Fn 123 2 (.p (.f h false) (.p (.f l false) (.p (.f s false) .nl))) (New (.t (c3 (hlsR h l s) false))) := by
  intro ν0 us hu
  refine IsL.e3 hu fun u1 u2 u3 i1 i2 i3 => ?_
  unfold MCk
  k_fill
  k_dflt refine' mc_tri (lv := 1) [((Str.ofString "h"), u1), ((Str.ofString "l"), u2), ((Str.ofString "s"), u3)] [((Str.ofString "h"), (.f h false)), ((Str.ofString "l"), (.f l false)), ((Str.ofString "s"), (.f s false)), ((Str.ofString "ONE_THIRD"), .f f13 false)] (fun P => ?ho) (fun P => ?hcd) (fun w s X => ?hb) ?hnd ?hkd ?hc0 ?h1 ?h2 ?h3 (fun ν hν => ?hs) (fun K ν s9 G hν lt hfz hcl hq => ?body)
  case ho => k_dflt k_is
  case hcd => k_dflt k_is
  case hb => exact BindsTo.of_eq rfl
  case hnd => exact (by decide : (["h", "l", "s"].map Str.ofString).Nodup)
  case hkd => rfl
  case hc0 => exact List.nodup_nil
  case h1 => rfl
  case h2 => rfl
  case h3 => rfl
  case hs => exact ⟨rfl, .inl rfl, Is.mono hν i1, rfl, .inl rfl, Is.mono hν i2, rfl, .inl rfl, Is.mono hν i3, ⟨rfl, _, fun P => by k_dflt k_is, ⟨_, rfl, nofun⟩⟩, trivial⟩
  have O : OraOK K _ ν [(Str.ofString "_v", fun _ => φv)] := .cons (cal_fn G fn_v at_v is_v (Nat.le_refl _)) .nil
  refine tri_if G .nil rfl trivial (fun h0 => tri_ret3 (T := hlsR h l s) (zt := false) G .nil rfl trivial (if_pos h0)) fun h0 => tri_next ?_
  refine tri_sel G .nil rfl rfl rfl rfl trivial (fun _ => trivial) (fun _ => trivial) (tri_asg G .nil rfl trivial ?_)
  exact tri_ret3 (T := hlsR h l s) (zt := false) G O rfl trivial ((if_neg (bf h0)))
end Mine
end
noncomputable section
open PySem
namespace Mine
noncomputable def ofD (n : Nat) : List Nat → Nat
  | [] => 0
  | x :: r => x + 2 ^ n * ofD n r
theorem ofD_append (n : Nat) : ∀ a b : List Nat, ofD n (a ++ b) = ofD n a + 2 ^ (n * a.length) * ofD n b
  | [], b => by simp [ofD]
  | x :: r, b => by
    simp only [List.cons_append, ofD, ofD_append n r b, List.length_cons]
    rw [Nat.mul_add, ← Nat.mul_assoc, ← Nat.pow_add, show n + n * r.length = n * (r.length + 1) by rw [Nat.mul_add, Nat.mul_one, Nat.add_comm]]
    lia
theorem ofD_lt (n : Nat) : ∀ a : List Nat, (∀ x ∈ a, x < 2 ^ n) → ofD n a < 2 ^ (n * a.length)
  | [], _ => by simp [ofD]
  | x :: r, h => by
    have h1 := h x (.head _)
    have h2 := ofD_lt n r fun y hy => h y (.tail _ hy)
    simp only [ofD, List.length_cons]
    rw [show n * (r.length + 1) = n + n * r.length by rw [Nat.mul_add, Nat.mul_one, Nat.add_comm], Nat.pow_add]
    have : 2 ^ n * (ofD n r + 1) ≤ 2 ^ n * 2 ^ (n * r.length) := Nat.mul_le_mul_left _ h2
    rw [Nat.mul_add, Nat.mul_one] at this
    lia
noncomputable def seg (ds : List Nat) (i j : Nat) : List Nat := (ds.drop i).take (j - i)
theorem seg_len {ds : List Nat} {i j : Nat} (h : j ≤ ds.length) : (seg ds i j).length = j - i := by
  unfold seg; rw [List.length_take, List.length_drop]; lia
theorem seg_split {ds : List Nat} {i m j : Nat} (h1 : i ≤ m) (h2 : m ≤ j) : seg ds i j = seg ds i m ++ seg ds m j := by
  unfold seg
  obtain ⟨a, rfl⟩ := Nat.exists_eq_add_of_le h1
  obtain ⟨b, rfl⟩ := Nat.exists_eq_add_of_le h2
  rw [show i + a + b - i = a + b by lia, show i + a - i = a by lia, show i + a + b - (i + a) = b by lia, List.take_add, List.drop_drop]
theorem seg_one {ds : List Nat} {i : Nat} (h : i < ds.length) : seg ds i (i + 1) = [ds[i]] := by
  unfold seg
  rw [List.drop_eq_getElem_cons h, show i + 1 - i = 0 + 1 by lia, List.take_succ_cons, List.take_zero]
theorem seg_all (ds : List Nat) : seg ds 0 ds.length = ds := by
  unfold seg; rw [List.drop_zero, Nat.sub_zero, List.take_length]
theorem seg_mem {ds : List Nat} {i j x : Nat} (h : x ∈ seg ds i j) : x ∈ ds := List.mem_of_mem_drop (List.mem_of_mem_take h)
theorem ofD_seg {n : Nat} {ds : List Nat} {i m j : Nat} (h1 : i ≤ m) (h2 : m ≤ j) (h3 : j ≤ ds.length) : ofD n (seg ds m j) * 2 ^ ((m - i) * n) + ofD n (seg ds i m) = ofD n (seg ds i j) := by
  rw [seg_split h1 h2, ofD_append, seg_len (by lia), Nat.mul_comm n, Nat.mul_comm (2 ^ _), Nat.add_comm]
theorem ofD_seg_lt {n : Nat} {ds : List Nat} {i j : Nat} (h : ∀ x ∈ ds, x < 2 ^ n) (h3 : j ≤ ds.length) : ofD n (seg ds i j) < 2 ^ (n * (j - i)) := by
  have := ofD_lt n (seg ds i j) fun x hx => h x (seg_mem hx)
  rwa [seg_len h3] at this
end Mine
end
noncomputable section
open PySem PySem.W PyProof.Rows PySem.Spec PySem.Calls
namespace Mine
set_option genInjectivity false
set_option genSizeOf false
noncomputable abbrev scD : Scope := { kind := .function, names := [(Str.ofString "digits", .cell), (Str.ofString "n", .cell), (Str.ofString "inner", .cell), (Str.ofString "len", .globalImplicit)], isGenerator := false, isCoroutine := false }
noncomputable def φin (n : Nat) (ds : List Nat) (d : Nat) : SV → R2 := i2 fun i j => some (.i ((ofD n (seg ds i.toNat j.toNat) : Nat) : Int), [0 ≤ i ∧ i.toNat < j.toNat ∧ j.toNat ≤ ds.length ∧ j.toNat ≤ i.toNat + 2 ^ d])
theorem three {a b c p : Addr × Obj} {H : Lg} (ha : a ∈ H) (hb : b ∈ H) (hc : c ∈ H) (h : p ∈ [a, b, c]) : p ∈ H := by
  refine mem_c h ?_ fun h => ?_
  · exact ha
  refine mem_c h ?_ fun h => ?_
  · exact hb
  refine mem_c h ?_ fun h => ?_
  · exact hc
  · cases h
theorem nd3 (L : Nat) : [L + 1, L + 1 + 1, L + 1 + 1 + 1].Nodup := by simp
theorem dig_at {n i : Nat} {ds : List Nat} (h : i + 1 ≤ ds.length) : (ds.map fun x : Nat => (x : Int)).getD i 0 = (ofD n (seg ds i (i + 1)) : Nat) := by
  rw [seg_one h, List.getD_eq_getElem?_getD, List.getElem?_map, List.getElem?_eq_getElem h]
  show ((ds[i] : Nat) : Int) = _
  simp [ofD]
theorem half_at {i j d l : Nat} (h1 : i < j) (h2 : j ≤ i + 2 ^ d) (h3 : i + 1 ≠ j) (h4 : j ≤ l) (h5 : l ≤ 64) (h6 : d ≤ 6) : ∃ e M, d = e + 1 ∧ (i + j) / 2 ^ 1 = M ∧ i < M ∧ M < j ∧ M ≤ i + 2 ^ e ∧ j ≤ M + 2 ^ e ∧ M ≤ l := by
  cases d with
  | zero => lia
  | succ e =>
    rw [Nat.pow_succ] at h2
    exact ⟨e, _, rfl, rfl, by lia, by lia, by lia, by lia, by lia⟩
theorem sz_at {n i M j l : Nat} (hn : n ≤ 128000) (h1 : i < M) (h2 : M < j) (h3 : j ≤ l) (h4 : l ≤ 64) : n * (j - M) + (M - i) * n ≤ 2 ^ 27 := by
  rw [Nat.mul_comm (M - i), ← Nat.mul_add]
  exact Nat.le_trans (Nat.mul_le_mul hn (show j - M + (M - i) ≤ 64 by lia)) (by decide)
theorem dig_nil {n : Nat} {ds : List Nat} : (if (!(ds.map fun x : Nat => (x : Int)).isEmpty) = true then (((ofD n (seg ds (0 : Int).toNat (((ds.map fun x : Nat => (x : Int)).length : Nat) : Int).toNat) : Nat)) : Int) else 0) = ((ofD n ds : Nat) : Int) := by
  cases ds with
  | nil => rfl
  | cons a r =>
    show ((ofD n (seg (a :: r) 0 _) : Nat) : Int) = _
    rw [List.length_map, Int.toNat_natCast, seg_all]
theorem dig_len0 {ds : List Nat} (h1 : ds.length ≤ 64) (h : (!(ds.map fun x : Nat => (x : Int)).isEmpty) = true) : (0 : Int) ≤ 0 ∧ (0 : Int).toNat < ((((ds.map fun x : Nat => (x : Int)).length : Nat)) : Int).toNat ∧ ((((ds.map fun x : Nat => (x : Int)).length : Nat)) : Int).toNat ≤ ds.length ∧ ((((ds.map fun x : Nat => (x : Int)).length : Nat)) : Int).toNat ≤ (0 : Int).toNat + 2 ^ 6 := by
  rw [List.length_map, Int.toNat_natCast]
  cases ds with
  | nil => cases h
  | cons a r => exact ⟨Int.le_refl 0, Nat.succ_pos _, Nat.le_refl _, Nat.le_trans h1 (by decide)⟩
/-- a part of the digits is summed -/
noncomputable def DgOK (f : Addr) (P : Lg) (n : Nat) (ds : List Nat) (d : Nat) : Prop := ∀ (ν1 : Lg) (us : List Value) (x : SV), IsL ν1 x us → OptP (fun r => All r.2 → MCk f (d + 1) us [] (fun n => ∀ p ∈ P, p ∈ n) (Val r.1)) (φin n ds d x)
theorem dig2_spec' (ds : List Nat) (n : Nat) (hlen : ds.length ≤ 64) (hn : n ≤ 128000) (hds : ∀ x ∈ ds, x < 2 ^ n) {ν0 : Lg} {us : List Value} (hu : IsL ν0 (.p (.li (ds.map fun x : Nat => (x : Int))) (.p (.i n) .nl)) us) :
    MCk 95 8 us [] (fun n => (∀ p ∈ ν0, p ∈ n) ∧ Tabs n) (GrB (.i (ofD n ds : Nat))) := by
  refine IsL.e2 hu fun u1 u2 i1 i2 => ?_
  unfold MCk
  k_fill
  k_dflt refine' mc_tri (lv := 7) [((Str.ofString "digits"), u1), ((Str.ofString "n"), u2)] [((Str.ofString "digits"), .li (ds.map fun x : Nat => (x : Int))), ((Str.ofString "n"), .i n)] (fun P => ?ho) (fun P => ?hcd) (fun w s X => ?hb) ?hnd ?hkd ?hc0 ?h1 ?h2 ?h3 (fun ν hν => ?hs) (fun K ν s9 G hν lt hfz hcl hq => ?body)
  case ho => k_dflt k_is
  case hcd => k_dflt k_is
  case hb => exact BindsTo.of_eq rfl
  case hnd => exact (by decide : (["digits", "n"].map Str.ofString).Nodup)
  case hkd => rfl
  case hc0 => decide +kernel
  case h1 => rfl
  case h2 => rfl
  case h3 => rfl
  case hs => exact ⟨rfl, .inr rfl, Is.mono hν.1 i1, rfl, .inr rfl, Is.mono hν.1 i2, trivial⟩
  obtain ⟨hν1, hν2⟩ := hν
  obtain ⟨ps, hP, hT⟩ := hν2 _ in90
  obtain ⟨q1, q2, q3, q4⟩ := hq
  have ecl : K.cl = [((Str.ofString "inner"), K.L + 1 + 1 + 1), ((Str.ofString "n"), K.L + 1 + 1), ((Str.ofString "digits"), K.L + 1)] := q1.trans (hcl.trans rfl)
  have eow := q1 ▸ ecl
  have hC : CodeHd K.g 94 90 := by
    refine G.xt fun _ _ _ _ _ X T => ?_
    exact cd94 X
  refine tri_def (clos := [((Str.ofString "n"), K.L + 1 + 1), ((Str.ofString "inner"), K.L + 1 + 1 + 1), ((Str.ofString "digits"), K.L + 1)]) G hC q3 (by show _ = qD; unfold qualnameIn PC.env; rw [q2]; rfl) (by unfold PC.env; rw [ecl]; rfl) hP hT (by rw [eow]; rfl) fun f c' oc doc pm ctv νf fn one1 hg hfn hc hlf => ?_
  have hf : (f, fn) ∈ νf := hg ▸ .head _
  have hcm : (c', oc) ∈ νf := hg ▸ .tail _ (.head _)
  have hgr := grown_grw one1 in90 ⟨hP, hT⟩ hc
  obtain ⟨⟨vcs, t, hd1, hd2⟩, hca⟩ := hc
  have inner : ∀ q d s0 σ z s m cm κ, PAtD (K.wz q) scD νf s0 σ z s m cm κ → σ.lookup (Str.ofString "digits") = some (.li (ds.map fun x : Nat => (x : Int))) → σ.lookup (Str.ofString "n") = some (.i n) → σ.lookup (Str.ofString "inner") = some (.v (.ref f)) → d ≤ 6 → DgOK f (νf ++ (K.wz q).hl κ) n ds d := by
    intro q d s0 σ z s m cm κ D lD lN lI
    obtain ⟨oD, uD, mD, dD, iD, hD⟩ := D.cell (x := (Str.ofString "digits")) rfl lD rfl (c := K.L + 1) (by show K.ow.lookup _ = _; rw [eow]; rfl)
    obtain ⟨oN, uN, mN, dN, iN, hN⟩ := D.cell (x := (Str.ofString "n")) rfl lN rfl (c := K.L + 1 + 1) (by show K.ow.lookup _ = _; rw [eow]; rfl)
    obtain ⟨oI, uI, mI, dI, iI, hI⟩ := D.cell (x := (Str.ofString "inner")) rfl lI rfl (c := K.L + 1 + 1 + 1) (by show K.ow.lookup _ = _; rw [eow]; rfl)
    cases iI
    have hO := D.O
    generalize hH : (K.wz q).hl κ = H at mD mN mI ⊢
    generalize (K.wz q).ha κ = ha at hD hN hI hO
    clear D hH
    have nl : @LT.lt Nat _ K.L (K.L + 1) := Nat.lt_succ_self _
    have go : ∀ d, (∀ e, d = e + 1 → e ≤ 6 → DgOK f (νf ++ H) n ds e) → d ≤ 6 → DgOK f (νf ++ H) n ds d := by
      intro d ih hd6 ν1 us x hu
      refine i2_is hu fun i j t1 t2 e hc => ?_
      subst e
      obtain ⟨⟨h0, hij, hjl, hjd⟩, -⟩ := hc
      obtain ⟨i, rfl⟩ := Int.eq_ofNat_of_zero_le h0
      obtain ⟨j, rfl⟩ := Int.eq_ofNat_of_zero_le (a := j) (by lia)
      have hij : i < j := hij
      have hjl : j ≤ ds.length := hjl
      have hjd : j ≤ i + 2 ^ d := hjd
      have sub : ∀ n', (∀ p ∈ νf ++ H, p ∈ n') → ∀ p ∈ νf, p ∈ butL n' (ad [] [(K.L + 1, oD), (K.L + 1 + 1, oN), (K.L + 1 + 1 + 1, oI)]) := fun n' hn' p hp => mem_butL (hn' p (List.mem_append_left _ hp)) fun q => hO p hp (by
        rcases List.mem_cons.mp q with q | q
        · exact q ▸ hD
        rcases List.mem_cons.mp q with q | q
        · exact q ▸ hN
        rcases List.mem_cons.mp q with q | q
        · exact q ▸ hI
        · cases q)
      refine mc_triN [((Str.ofString "L"), .int i t1), ((Str.ofString "R"), .int j t2)] [((Str.ofString "L"), .i i), ((Str.ofString "R"), .i j), ((Str.ofString "digits"), .li (ds.map fun x : Nat => (x : Int))), ((Str.ofString "n"), .i n), ((Str.ofString "inner"), .v (.ref f))] (νf ++ H) [(K.L + 1, oD), (K.L + 1 + 1, oN), (K.L + 1 + 1 + 1, oI)] [] (fun _ h => h) (hfn ▸ List.mem_append_left _ hf) (List.mem_append_left _ hcm) hd1 hd2 (fun n h p hp => h p (List.mem_append_right _ (three mD mN mI hp))) (nd3 K.L) (fun s => BindsTo.of_eq rfl) (by decide : (["L", "R"].map Str.ofString).Nodup) (locs rfl) rfl rfl rfl (by decide) (fun K' n' hn' h1 h2 => ?_) fun K' n' s' G' hn' h1 h2 h3 h4 h5 => ?_
      · exact ⟨.L rfl rfl ⟨t1, rfl⟩, .L rfl rfl ⟨t2, rfl⟩, .F rfl (by rw [h1]; rfl) (by rw [h2]; exact .head _) dD (Is.mono (sub n' hn') iD), .F rfl (by rw [h1]; rfl) (by rw [h2]; exact .tail _ (.head _)) dN (Is.mono (sub n' hn') iN), .F rfl (by rw [h1]; rfl) (by rw [h2]; exact .tail _ (.tail _ (.head _))) dI (rfl), trivial⟩
      have cov : ∀ p ∈ n', p ∈ butL n' (ad [] [(K.L + 1, oD), (K.L + 1 + 1, oN), (K.L + 1 + 1 + 1, oI)]) ∨ p ∈ K'.fz := fun p hp => (Decidable.em (p.1 ∈ [K.L + 1, K.L + 1 + 1, K.L + 1 + 1 + 1])).symm.imp (h4 p hp) (h5 p hp)
      refine tri_if G' .nil rfl trivial (fun h => ?_) fun h => tri_next ?_
      · obtain rfl : j = i + 1 := Int.ofNat.inj (eq_of_beq h).symm
        exact tri_retN G' .nil rfl ⟨⟨Int.natCast_nonneg i, by rw [List.length_map]; exact hjl, by rw [List.length_map]; exact Nat.le_trans hlen (by decide)⟩, trivial⟩ (congrArg SV.i (dig_at hjl)) cov
      · obtain ⟨e, M, rfl, hM, a1, a2, a3, a4, a5⟩ := half_at hij hjd (fun q => Bool.noConfusion (h.symm.trans (beq_iff_eq.mpr (congrArg (fun t : Nat => (t : Int)) q)))) hjl hlen hd6
        refine tri_asg G' .nil rfl ⟨by decide, trivial⟩ (tri_val (congrArg SV.i ((congrArg (fun t : Int => t.fdiv (2 ^ (1 : Int).toNat)) (Int.natCast_add i j).symm).trans ((rsh_n (i + j) 1).trans (congrArg (fun t : Nat => (t : Int)) hM)))) ?_)
        refine tri_asg G' .nil rfl ⟨mul_l (by lia), trivial⟩ (tri_val (sv' := .i ((M - i) * n : Nat)) (congrArg SV.i (by rw [← Int.natCast_sub (Nat.le_of_lt a1), ← Int.natCast_mul])) ?_)
        have O : OraOK K' _ (butL n' (ad [] [(K.L + 1, oD), (K.L + 1 + 1, oN), (K.L + 1 + 1 + 1, oI)])) [((Str.ofString "inner"), fun σ x => bd2 (φin n ds e x) fun u c => some (u, (σ.lookup (Str.ofString "inner") = some (.v (.ref f))) :: c))] := .consL (cal_locX (φ := fun _ => φin n ds e) G' (fun q s0 σ hok x us z s m cm κ D' hu => (ih e rfl (Nat.le_of_succ_le hd6) _ us x hu).mono fun r hC hall => ⟨_, hC hall, fun p hp => (cov p (hn' p hp)).elim (List.mem_append_left _) fun h => List.mem_append_right _ (List.mem_append_right _ (List.mem_append_right _ (hok.2 p (h2 ▸ h3 ▸ h))))⟩) ⟨_, _, _, _, hfn ▸ sub n' hn' _ hf⟩ (Nat.le_refl _)) .nil
        exact tri_retN G' O rfl ⟨rfl, ⟨Int.natCast_nonneg M, a2, hjl, a4⟩, Int.natCast_nonneg _, bits_n (ofD_seg_lt hds hjl) (sz_at hn a1 a2 hjl hlen), rfl, ⟨Int.natCast_nonneg i, a1, a5, a3⟩, trivial⟩ (congrArg SV.i (by show (ofD n (seg ds M j) : Int) * 2 ^ ((((M - i) * n : Nat) : Int)).toNat + (ofD n (seg ds i M) : Nat) = _; rw [lsh_n, ← Int.natCast_add, ofD_seg (Nat.le_of_lt a1) (Nat.le_of_lt a2) hjl])) cov
    clear iD iN hO
    induction d with
    | zero => exact go 0 fun e h => nomatch h
    | succ d ih => exact go (d + 1) fun e h => by cases h; exact ih
  have hl64 : (ds.map fun x : Nat => (x : Int)).length < 2 ^ 63 := by rw [List.length_map]; exact Nat.lt_of_le_of_lt hlen (by decide)
  have O : OraOK K _ νf [((Str.ofString "inner"), fun σ x => bd2 (bd2 (φin n ds 6 x) fun u c => some (u, (σ.lookup (Str.ofString "digits") = some (.li (ds.map fun x : Nat => (x : Int))) ∧ σ.lookup (Str.ofString "n") = some (.i n) ∧ σ.lookup (Str.ofString "inner") = some (.v (.ref f))) :: c)) fun u c => some (u, (σ.lookup (Str.ofString "inner") = some (.v (.ref f))) :: c)), ((Str.ofString "len"), fun _ => φlen)] := .consL (cal_locX (φ := fun σ x => bd2 (φin n ds 6 x) fun u c => some (u, (σ.lookup (Str.ofString "digits") = some (.li (ds.map fun x : Nat => (x : Int))) ∧ σ.lookup (Str.ofString "n") = some (.i n) ∧ σ.lookup (Str.ofString "inner") = some (.v (.ref f))) :: c)) G (fun q s0 σ hok x us z s m cm κ D' hu => .bd2 fun u c hφ hc => by
    have C := (inner q 6 s0 σ z s m cm κ D' hc.1.1 hc.1.2.1 hc.1.2.2 (Nat.le_refl 6) _ us x hu).get hφ
    exact ⟨_, C hc.2, fun _ h => h⟩) ⟨_, _, _, _, hfn ▸ hf⟩ (by decide)) (.cons (c_len G rfl) .nil)
  refine tri_ret G O rfl ⟨hl64, fun h => ⟨hl64, rfl, ⟨rfl, rfl, rfl⟩, dig_len0 hlen h, trivial⟩, fun _ => trivial, trivial⟩ fun u s hs hu => done_ok hs (fun p hp => hg ▸ .tail _ hp) ⟨hgr, [], (fun _ h => (List.not_mem_nil h).elim), dig_nil ▸ (flat_is rfl).1 u hu⟩
end Mine
end
noncomputable section
open PySem
namespace Mine
noncomputable def dig (n : Nat) : Nat → Nat → List Nat
  | 0, _ => []
  | k + 1, x => x % 2 ^ n :: dig n k (x / 2 ^ n)
theorem dig_len (n : Nat) : ∀ k x, (dig n k x).length = k
  | 0, _ => rfl
  | k + 1, x => by simp [dig, dig_len n k]
theorem dig_split (n : Nat) : ∀ a b x, dig n (a + b) x = dig n a (x % 2 ^ (n * a)) ++ dig n b (x / 2 ^ (n * a))
  | 0, b, x => by simp [dig, Nat.mod_one]
  | a + 1, b, x => by
    have hp := Nat.two_pow_pos n
    rw [show a + 1 + b = (a + b) + 1 by lia]
    simp only [dig, List.cons_append]
    rw [dig_split n a b (x / 2 ^ n)]
    have e : 2 ^ (n * (a + 1)) = 2 ^ n * 2 ^ (n * a) := by rw [← Nat.pow_add, Nat.mul_add, Nat.mul_one, Nat.add_comm]
    rw [e, Nat.mod_mul_right_mod, Nat.div_div_eq_div_mul, Nat.mod_mul_right_div_self]
theorem dig_one {n x : Nat} (h : x < 2 ^ n) : dig n 1 x = [x] := by simp [dig, Nat.mod_eq_of_lt h]
noncomputable def put (ns : List Nat) (i j : Nat) (ds : List Nat) : List Nat := ns.take i ++ ds ++ ns.drop j
theorem put_len {ns ds : List Nat} {i j : Nat} (hi : i ≤ j) (hj : j ≤ ns.length) (hd : ds.length = j - i) : (put ns i j ds).length = ns.length := by
  unfold put; simp only [List.length_append, List.length_take, List.length_drop]; lia
theorem put_put {ns a b : List Nat} {i m j : Nat} (hi : i ≤ m) (hm : m ≤ j) (hj : j ≤ ns.length) (ha : a.length = m - i) (hb : b.length = j - m) : put (put ns i m a) m j b = put ns i j (a ++ b) := by
  unfold put
  have l1 : (ns.take i ++ a).length = m := by simp only [List.length_append, List.length_take]; lia
  have e1 : (ns.take i ++ a ++ ns.drop m).take m = ns.take i ++ a := by
    conv => lhs; arg 1; rw [← l1]
    exact List.take_left
  have e2 : (ns.take i ++ a ++ ns.drop m).drop j = ns.drop j := by
    rw [show j = (ns.take i ++ a).length + (j - m) by lia, ← List.drop_drop, List.drop_left, List.drop_drop]
    congr 1
    lia
  rw [e1, e2]
  simp [List.append_assoc]
theorem put_set {ns : List Nat} {i x : Nat} (hi : i < ns.length) : ns.set i x = put ns i (i + 1) [x] := by
  unfold put
  rw [List.set_eq_take_append_cons_drop, if_pos hi]
  simp
theorem put_all {ns ds : List Nat} : put ns 0 ns.length ds = ds := by simp [put]
theorem xor_eq (x s : Nat) : Builtin.bitXor (x : Int) ((x / 2 ^ s * 2 ^ s : Nat) : Int) = ((x % 2 ^ s : Nat) : Int) := by
  have hlo := Nat.mod_lt x (Nat.two_pow_pos s)
  have e : x / 2 ^ s * 2 ^ s ||| x % 2 ^ s = x := by
    rw [Nat.mul_comm, ← Nat.two_pow_add_eq_or_of_lt hlo]; exact Nat.div_add_mod x (2 ^ s)
  generalize hy : x / 2 ^ s * 2 ^ s = y at *
  have hsum : y + x % 2 ^ s = x := by rw [← hy, Nat.mul_comm]; exact Nat.div_add_mod x (2 ^ s)
  unfold Builtin.bitXor
  rw [or_eq]
  show ((x ||| y : Nat) : Int) - ((x &&& y : Nat) : Int) = _
  have h1 : x ||| y = x := by
    conv => lhs; lhs; rw [← e]
    conv => rhs; rw [← e]
    rw [Nat.or_comm y, Nat.or_assoc, Nat.or_self]
  have h2 : x &&& y = y := by
    apply Nat.eq_of_testBit_eq
    intro k
    have := congrArg (fun z => Nat.testBit z k) h1
    simp only [Nat.testBit_or, Nat.testBit_and] at this ⊢
    revert this
    cases x.testBit k <;> cases y.testBit k <;> simp
  rw [h1, h2]
  lia
theorem dig_fit {a n k : Nat} (ha : 0 < a) (hn : 1 ≤ n) (hk : (Builtin.Int.intBits (a : Int) + n - 1) / n = k) : 0 < k ∧ a < 2 ^ (n * k) := by
  have hb : Builtin.Int.intBits (a : Int) = a.log2 + 1 := by
    unfold Builtin.Int.intBits
    have h1 : ((a : Int) == 0) = false := by simp; lia
    rw [h1]
    simp
  rw [hb] at hk
  have h2 : a.log2 + 1 ≤ n * k := by
    have h3 := Nat.div_add_mod (a.log2 + 1 + n - 1) n
    have h4 := Nat.mod_lt (a.log2 + 1 + n - 1) hn
    rw [hk] at h3
    lia
  refine ⟨Nat.pos_of_ne_zero (by rintro rfl; simp at h2), ?_⟩
  exact Nat.lt_of_lt_of_le Nat.lt_log2_self (Nat.pow_le_pow_right (by decide) h2)
theorem split_fit {x n i M j : Nat} (h1 : i < M) (h2 : M < j) (hx : x < 2 ^ (n * (j - i))) : x % 2 ^ ((M - i) * n) < 2 ^ (n * (M - i)) ∧ x / 2 ^ ((M - i) * n) < 2 ^ (n * (j - M)) := by
  refine ⟨by rw [Nat.mul_comm n]; exact Nat.mod_lt _ (Nat.two_pow_pos _), ?_⟩
  rw [Nat.div_lt_iff_lt_mul (Nat.two_pow_pos _), ← Nat.pow_add, Nat.mul_comm (M - i), ← Nat.mul_add, show j - M + (M - i) = j - i by lia]
  exact hx
theorem dig_join {x n i M j : Nat} (h1 : i < M) (h2 : M < j) : dig n (M - i) (x % 2 ^ ((M - i) * n)) ++ dig n (j - M) (x / 2 ^ ((M - i) * n)) = dig n (j - i) x := by
  rw [show j - i = (M - i) + (j - M) by lia, dig_split, Nat.mul_comm n]
end Mine
end
noncomputable section
open PySem PySem.W PyProof.Rows PySem.Spec PySem.Calls
namespace Mine
set_option genInjectivity false
set_option genSizeOf false
noncomputable abbrev scI : Scope := { kind := .function, names := [(Str.ofString "a", .local), (Str.ofString "n", .cell), (Str.ofString "a_digits", .cell), (Str.ofString "inner", .cell), (Str.ofString "len", .globalImplicit)], isGenerator := false, isCoroutine := false }
theorem ints_set : ∀ {l : List Int} {us : List Value} {i : Nat} {x : Int} {u : Value}, IntsL l us → (∃ t, u = .int x t) → IntsL (l.set i x) (us.set i u)
  | [], _, _, _, _, h, _ => by cases h; exact rfl
  | _ :: _, _, 0, _, _, ⟨_, ur, e, h⟩, ⟨t, e2⟩ => by subst e e2; exact ⟨t, ur, rfl, h⟩
  | _ :: _, _, _ + 1, _, _, ⟨t, _, e, h⟩, hu => by subst e; exact ⟨t, _, rfl, ints_set h hu⟩
theorem nd4 {L D : Nat} (h1 : D ≠ L + 1) (h2 : D ≠ L + 1 + 1) (h3 : D ≠ L + 1 + 1 + 1) : [D, L + 1, L + 1 + 1, L + 1 + 1 + 1].Nodup := List.nodup_cons.mpr ⟨by simp [h1, h2, h3], nd3 L⟩
theorem dig_k {a n k : Nat} (hn1 : 1 ≤ n) (hk : (Builtin.Int.intBits (a : Int) + n - 1) / n = k) : ((Builtin.Int.intBits (a : Int) : Int) + (n : Int) - 1).fdiv (n : Int) = (k : Int) := by
  rw [Int.fdiv_eq_ediv_of_nonneg _ (Int.natCast_nonneg n), ← hk]
  have : 1 ≤ Builtin.Int.intBits (a : Int) + n := Nat.le_trans hn1 (Nat.le_add_left _ _)
  rw [Int.natCast_ediv, Int.natCast_sub this, Int.natCast_add]
  rfl
theorem nat_div {n : Nat} (h1 : 1 ≤ n) (h2 : n ≤ 128000) : (n : Int) ≠ 0 ∧ (n : Int).natAbs < 1073741824 := by omega
theorem sz_at2 {n i M j l : Nat} (hn : n ≤ 128000) (h1 : i < M) (h2 : M < j) (h3 : j ≤ l) (h4 : l ≤ 64) : n * (j - i) + (M - i) * n ≤ 2 ^ 27 := by
  rw [Nat.mul_comm (M - i), ← Nat.mul_add]
  exact Nat.le_trans (Nat.mul_le_mul hn (show j - i + (M - i) ≤ 128 by omega)) (by decide)
theorem TabSt.mono {ln co : Nat} {q : Str} {ps : Array Value} {rest rest' : Lg} (h : TabSt ln co q ps rest) (hs : ∀ p ∈ rest, p ∈ rest') : TabSt ln co q ps rest' :=
  h.imp id fun ⟨c', oc, vs, t, h, m, r⟩ => ⟨c', oc, vs, t, h, hs _ m, r⟩
/-- a part of the digits is put -/
noncomputable def DigOK (f D : Addr) (P : Lg) (n k d : Nat) : Prop := ∀ (x i j : Nat) (cur : List Value) (ns : List Nat) (mm : Nat), d ≤ 6 → i < j → j ≤ i + 2 ^ d → j ≤ k → x < 2 ^ (n * (j - i)) → IntsL ((ns).map fun x : Nat => (x : Int)) cur → ns.length = k → ∀ (ν1 : Lg) (us : List Value), IsL ν1 (.p (.i x) (i2c i j)) us → MCk f (d + 1) us [] (fun n' => (∀ p ∈ P, p.1 ≠ D → p ∈ n') ∧ (D, listO cur mm) ∈ n') (Mut D fun us' => IntsL ((put ns i j (dig n (j - i) x)).map fun x : Nat => (x : Int)) us')
theorem dig_spec' (a n k : Nat) (ha : 0 < a) (hn1 : 1 ≤ n) (hn : n ≤ 128000) (hk : (Builtin.Int.intBits (a : Int) + n - 1) / n = k) (hk64 : k ≤ 64) {ν0 : Lg} {us : List Value} (hu : IsL ν0 (i2c a n) us) :
    MCk 88 9 us [] (fun m => (∀ p ∈ ν0, p ∈ m) ∧ Tabs m) (GrB (.li ((dig n k a).map fun x : Nat => (x : Int)))) := by
  refine IsL.e2 hu fun u1 u2 i1 i2 => ?_
  unfold MCk
  k_fill
  k_dflt refine' mc_tri (lv := 8) [((Str.ofString "a"), u1), ((Str.ofString "n"), u2)] [((Str.ofString "a"), .i a), ((Str.ofString "n"), .i n)] (fun P => ?ho) (fun P => ?hcd) (fun w s X => ?hb) ?hnd ?hkd ?hc0 ?h1 ?h2 ?h3 (fun ν hν => ?hs) (fun K ν s9 G hν lt hfz hcl hq => ?body)
  case ho => k_dflt k_is
  case hcd => k_dflt k_is
  case hb => exact BindsTo.of_eq rfl
  case hnd => exact (by decide : (["a", "n"].map Str.ofString).Nodup)
  case hkd => rfl
  case hc0 => decide +kernel
  case h1 => rfl
  case h2 => rfl
  case h3 => rfl
  case hs => exact ⟨rfl, .inl rfl, Is.mono hν.1 i1, rfl, .inr rfl, Is.mono hν.1 i2, trivial⟩
  obtain ⟨hν1, hν2⟩ := hν
  obtain ⟨ps, hP, hT⟩ := hν2 _ in83
  obtain ⟨q1, q2, q3, q4⟩ := hq
  have eow : K.ow = [((Str.ofString "inner"), K.L + 1 + 1 + 1), ((Str.ofString "a_digits"), K.L + 1 + 1), ((Str.ofString "n"), K.L + 1)] := hcl.trans rfl
  have ecl := q1.trans eow
  have hC : CodeHd K.g 87 83 := by
    refine G.xt fun _ _ _ _ _ X T => ?_
    exact cd87 X
  refine tri_one fun one0 => ?_
  refine tri_zerosC G (fun _ => .nil) rfl trivial rfl ⟨(nat_div hn1 hn).1, (nat_div hn1 hn).2, trivial⟩ (dig_k hn1 hk) hk64 (by rw [eow]; rfl) fun D us0 ν1 hi0 hDlt hDm hsub hnew => ?_
  refine tri_def (clos := [((Str.ofString "n"), K.L + 1), ((Str.ofString "inner"), K.L + 1 + 1 + 1), ((Str.ofString "a_digits"), K.L + 1 + 1)]) G hC q3 (by show _ = qI; unfold qualnameIn PC.env; rw [q2]; rfl) (by unfold PC.env; rw [ecl]; with_unfolding_all rfl) (hsub _ hP) (hT.mono hsub) (by rw [eow]; rfl) fun f c' oc doc pm ctv νf fn one1 hg hfn hc hlf => ?_
  have hf : (f, fn) ∈ νf := hg ▸ .head _
  have hcm : (c', oc) ∈ νf := hg ▸ .tail _ (.head _)
  obtain ⟨⟨vcs, t, hd1, hd2⟩, hca⟩ := hc
  have h83 : D ≠ 83 := fun e => Nat.lt_irrefl _ (e ▸ hDlt _ hP)
  have hDf : (D, listO us0 0) ∈ νf := hg ▸ .tail _ (.tail _ (.tail _ (mem_but hDm h83)))
  have inner : ∀ q d s0 σ z s m cm κ, PAtD (K.wz q) scI νf s0 σ z s m cm κ → σ.lookup (Str.ofString "a_digits") = some (.lv D us0) → σ.lookup (Str.ofString "n") = some (.i n) → σ.lookup (Str.ofString "inner") = some (.v (.ref f)) →
      DigOK f D (νf ++ (K.wz q).hl κ) n k d := by
    intro q d s0 σ z s m cm κ X lA lN lI
    obtain ⟨oA, uA, mA, dA, iA, hA⟩ := X.cell (x := (Str.ofString "a_digits")) rfl lA rfl (c := K.L + 1 + 1) (by show K.ow.lookup _ = _; rw [eow]; rfl)
    obtain ⟨oN, uN, mN, dN, iN, hN⟩ := X.cell (x := (Str.ofString "n")) rfl lN rfl (c := K.L + 1) (by show K.ow.lookup _ = _; rw [eow]; rfl)
    obtain ⟨oI, uI, mI, dI, iI, hI⟩ := X.cell (x := (Str.ofString "inner")) rfl lI rfl (c := K.L + 1 + 1 + 1) (by show K.ow.lookup _ = _; rw [eow]; rfl)
    cases iI
    obtain ⟨rfl, -⟩ := iA
    have one := X.one
    have hO := X.O
    generalize hH : (K.wz q).hl κ = H at mA mN mI ⊢
    generalize (K.wz q).ha κ = ha at hA hN hI hO
    clear X hH
    have hfD : f ≠ D := fun e => by
      have q : fn.data = Data.seq us0.toArray 0 := congrArg Obj.data (one _ hf _ hDf e)
      rw [hfn] at q
      cases q
    have hcD : c' ≠ D := fun e => by
      have q : oc.data = Data.seq us0.toArray 0 := congrArg Obj.data (one _ hcm _ hDf e)
      cases hd1.symm.trans q
    have cD : ∀ c ∈ ha, D ≠ c := fun c hc e => hO _ hDf (e ▸ hc)
    have go : ∀ d, (∀ e, d = e + 1 → DigOK f D (νf ++ H) n k e) →
        DigOK f D (νf ++ H) n k d := by
      intro d ih x i j cur ns mm hd6 hij hjd hjk hx hcur hnl ν1 us hu
      obtain ⟨_, _, rfl, ⟨tx, rfl⟩, _, _, rfl, ⟨t1, rfl⟩, _, _, rfl, ⟨t2, rfl⟩, rfl⟩ := hu
      have hcl' : cur.length = k := hcur.length.trans ((List.length_map ..).trans hnl)
      have sub : ∀ n', (∀ p ∈ νf ++ H, p.1 ≠ D → p ∈ n') → ∀ p ∈ νf, p.1 ≠ D → p ∈ butL n' (ad [(D, listO cur mm)] [(K.L + 1, oN), (K.L + 1 + 1, oA), (K.L + 1 + 1 + 1, oI)]) := fun n' hn' p hp hne => mem_butL (hn' p (List.mem_append_left _ hp) hne) fun q => by
        rcases List.mem_cons.mp q with q | q
        · exact hne q
        rcases List.mem_cons.mp q with q | q
        · exact hO p hp (q ▸ hN)
        rcases List.mem_cons.mp q with q | q
        · exact hO p hp (q ▸ hA)
        rcases List.mem_cons.mp q with q | q
        · exact hO p hp (q ▸ hI)
        · cases q
      obtain ⟨rq, hrq, hr1, hr2⟩ : ∃ rq, rq = [(f, fn), (c', oc)] ∧ (f, fn) ∈ rq ∧ (c', oc) ∈ rq := ⟨_, rfl, .head _, .tail _ (.head _)⟩
      refine mc_triN [((Str.ofString "x"), .int x tx), ((Str.ofString "L"), .int i t1), ((Str.ofString "R"), .int j t2)] [((Str.ofString "x"), .i x), ((Str.ofString "L"), .i i), ((Str.ofString "R"), .i j), ((Str.ofString "a_digits"), .m D cur), ((Str.ofString "n"), .i n), ((Str.ofString "inner"), .v (.ref f))] rq [(K.L + 1, oN), (K.L + 1 + 1, oA), (K.L + 1 + 1 + 1, oI)] [(D, listO cur mm)] (fun n' h p hp => ?_) (hfn ▸ hr1) hr2 hd1 hd2 (fun n' h p hp => ?_) (nd4 (cD _ hN) (cD _ hA) (cD _ hI)) (fun s => BindsTo.of_eq rfl) (by decide : (["x", "L", "R"].map Str.ofString).Nodup) (locs rfl) rfl rfl rfl (by decide) (fun K' n' hn' h1 h2 => ?_) fun K' n' s' G' hn' h1 h2 h3 h4 h5 => ?_
      · rcases List.mem_cons.mp (hrq ▸ hp) with rfl | hp
        · exact h.1 _ (List.mem_append_left _ hf) hfD
        · exact List.mem_singleton.mp hp ▸ h.1 _ (List.mem_append_left _ hcm) hcD
      · refine mem_c hp ?_ fun hp => ?_
        · exact h.2
        · have hne : p.1 ∈ ha := by
            refine mem_c hp ?_ fun hp => ?_
            · exact hN
            refine mem_c hp ?_ fun hp => ?_
            · exact hA
            · exact List.mem_singleton.mp hp ▸ hI
          exact h.1 p (List.mem_append_right _ (three mN mA mI hp)) fun e => cD _ hne e.symm
      · have is : ∀ {sv u}, flat sv = true → Is νf sv u → Is (butL n' (ad [(D, listO cur mm)] [(K.L + 1, oN), (K.L + 1 + 1, oA), (K.L + 1 + 1 + 1, oI)])) sv u := fun h hu => (flat_is h).1 _ hu
        exact ⟨.L rfl rfl ⟨tx, rfl⟩, .L rfl rfl ⟨t1, rfl⟩, .L rfl rfl ⟨t2, rfl⟩, .M (.inr ⟨rfl, _, oA, by rw [h1]; rfl, by rw [h2]; exact .tail _ (.head _), dA⟩) (.head _), .F rfl (by rw [h1]; rfl) (by rw [h2]; exact .head _) dN (is rfl iN), .F rfl (by rw [h1]; rfl) (by rw [h2]; exact .tail _ (.tail _ (.head _))) dI (rfl), trivial⟩
      have cov : ∀ p ∈ n', p.1 ≠ D → p ∈ butL n' (ad [(D, listO cur mm)] [(K.L + 1, oN), (K.L + 1 + 1, oA), (K.L + 1 + 1 + 1, oI)]) ∨ p ∈ K'.fz := fun p hp hne => (Decidable.em (p.1 ∈ [K.L + 1, K.L + 1 + 1, K.L + 1 + 1 + 1])).symm.imp (fun h => h4 p hp fun q => (List.mem_cons.mp q).elim hne h) (h5 p hp)
      have hFn : FnIn (butL n' (ad [(D, listO cur mm)] [(K.L + 1, oN), (K.L + 1 + 1, oA), (K.L + 1 + 1 + 1, oI)])) f := ⟨_, _, _, _, hfn ▸ sub n' hn'.1 _ hf hfD⟩
      refine tri_if G' .nil rfl trivial (fun h => ?_) fun h => tri_next ?_
      · obtain rfl : j = i + 1 := Int.ofNat.inj (eq_of_beq h).symm
        refine tri_setItem (x := (Str.ofString "a_digits")) G' .nil rfl rfl trivial rfl trivial (Int.natCast_nonneg i) (hcl' ▸ hjk) (hcl' ▸ Nat.le_trans hk64 (by decide)) fun u hu => tri_retM (x := (Str.ofString "a_digits")) (T := fun us' => IntsL ((put ns i (i + 1) (dig n (i + 1 - i) x)).map fun x : Nat => (x : Int)) us') rfl ?_ cov
        have hx1 : x < 2 ^ n := by rwa [Nat.add_sub_cancel_left, Nat.mul_one] at hx
        rw [Nat.add_sub_cancel_left, dig_one hx1, ← put_set (hnl ▸ hjk), List.map_set]
        exact ints_set hcur hu
      · obtain ⟨e, M, rfl, hM, a1, a2, a3, a4, a5⟩ := half_at hij hjd (fun q => Bool.noConfusion (h.symm.trans (beq_iff_eq.mpr (congrArg (fun t : Nat => (t : Int)) q)))) hjk hk64 hd6
        obtain ⟨hlow, hupp⟩ := split_fit a1 a2 hx
        have ih' := fun x i j cur ns mm => ih e rfl x i j cur ns mm (Nat.le_of_succ_le hd6)
        clear ih
        refine tri_asg G' .nil rfl ⟨by decide, trivial⟩ (tri_val (congrArg SV.i ((congrArg (fun t : Int => t.fdiv (2 ^ (1 : Int).toNat)) (Int.natCast_add i j).symm).trans ((rsh_n (i + j) 1).trans (congrArg (fun t : Nat => (t : Int)) hM)))) ?_)
        refine tri_asg G' .nil rfl ⟨mul_l (by omega), trivial⟩ (tri_val (sv' := .i ((M - i) * n : Nat)) (congrArg SV.i (by rw [← Int.natCast_sub (Nat.le_of_lt a1), ← Int.natCast_mul])) ?_)
        refine tri_asg G' .nil rfl ⟨Int.natCast_nonneg _, trivial⟩ (tri_val (congrArg SV.i (rsh_n x ((M - i) * n))) ?_)
        refine tri_asg G' .nil rfl ⟨Int.natCast_nonneg _, bits_n (Nat.lt_of_le_of_lt (Nat.div_le_self _ _) hx) (sz_at2 hn a1 a2 hjk hk64), trivial⟩ (tri_val (congrArg SV.i ((congrArg (Builtin.bitXor x) (lsh_n _ ((M - i) * n))).trans (xor_eq x ((M - i) * n)))) ?_)
        have pre : ∀ {s z s2 m cm κ cur'} {σ2 : Sg} {sc' : Scope}, PAtD K' sc' (butL n' (ad [(D, listO cur mm)] [(K.L + 1, oN), (K.L + 1 + 1, oA), (K.L + 1 + 1 + 1, oI)])) s σ2 z s2 m cm κ → σ2.lookup (Str.ofString "a_digits") = some (.m D cur') → ∃ mm', (∀ p ∈ νf ++ H, p.1 ≠ D → p ∈ butL n' (ad [(D, listO cur mm)] [(K.L + 1, oN), (K.L + 1 + 1, oA), (K.L + 1 + 1 + 1, oI)]) ++ K'.hl κ) ∧ (D, listO cur' mm') ∈ butL n' (ad [(D, listO cur mm)] [(K.L + 1, oN), (K.L + 1 + 1, oA), (K.L + 1 + 1 + 1, oI)]) ++ K'.hl κ := fun X hl => by
          obtain ⟨-, n0, h0⟩ := X.isM hl
          exact ⟨n0, fun p hp hne => (cov p (hn'.1 p hp hne) hne).elim (List.mem_append_left _) fun h => List.mem_append_right _ (List.mem_append_right _ (List.mem_append_right _ h)), List.mem_append_right _ (List.mem_append_right _ (List.mem_append_left _ h0))⟩
        refine tri_callM (x := (Str.ofString "a_digits")) G' .nil rfl hFn (Nat.le_refl _) rfl trivial rfl (fun us z s m cm κ hu X => (pre X rfl).elim fun mm' hp => ⟨_, ih' (x % 2 ^ ((M - i) * n)) i M cur ns mm' a1 a3 a5 hlow hcur hnl _ us hu, hp⟩) fun cur1 hc1 => ?_
        refine tri_callM (x := (Str.ofString "a_digits")) G' .nil rfl hFn (Nat.le_refl _) rfl trivial rfl (fun us z s m cm κ hu X => (pre X rfl).elim fun mm' hp => ⟨_, ih' (x / 2 ^ ((M - i) * n)) M j cur1 _ mm' a2 a4 hjk hupp hc1 ((put_len (Nat.le_of_lt a1) (hnl ▸ a5) (dig_len _ _ _)).trans hnl) _ us hu, hp⟩) fun cur2 hc2 => ?_
        refine tri_nilM (x := (Str.ofString "a_digits")) (T := fun us' => IntsL ((put ns i j (dig n (j - i) x)).map fun x : Nat => (x : Int)) us') rfl ?_ cov
        rw [put_put (Nat.le_of_lt a1) (Nat.le_of_lt a2) (hnl ▸ hjk) (dig_len _ _ _) (dig_len _ _ _), dig_join a1 a2] at hc2
        exact hc2
    clear iN hO
    induction d with
    | zero => exact go 0 fun e h => nomatch h
    | succ d ih => exact go (d + 1) fun e h => by cases h; exact ih
  have hlu : us0.length = k := hi0.length.trans (List.length_replicate ..)
  obtain ⟨hk0, hak⟩ := dig_fit ha hn1 hk
  refine tri_if G .nil rfl trivial (fun _ => ?_) fun h => absurd h (by rw [bne_iff_ne.mpr (Int.natCast_ne_zero.mpr (Nat.ne_of_gt ha))]; exact fun h => nomatch h)
  have hl63 : us0.length < 2 ^ 63 := hlu ▸ Nat.lt_of_le_of_lt hk64 (by decide)
  have O : OraOK K scI νf [((Str.ofString "len"), fun _ => φlen)] := .cons (c_len G rfl) .nil
  refine tri_callF (x := (Str.ofString "a_digits")) (lv' := 7) (T := fun us' => IntsL ((dig n k a).map fun x : Nat => (x : Int)) us') (σ' := []) G O rfl ⟨_, _, _, _, hfn ▸ hf⟩ (by decide) rfl ⟨hl63, trivial⟩ hDf trivial rfl rfl (fun us z s m cm κ hu X => ?_) fun us' k' ht => tri_next ?_
  · have C := inner K.fz 6 _ _ z s m cm κ X rfl rfl rfl a 0 k us0 (List.replicate k 0) 0 (Nat.le_refl 6) hk0 (Nat.le_trans hk64 (by decide)) (Nat.le_refl k) hak (by rw [List.map_replicate]; exact hi0) List.length_replicate _ us (hlu ▸ hu)
    have e : put (List.replicate k 0) 0 k (dig n (k - 0) a) = dig n k a := by
      have := put_all (ns := List.replicate k 0) (ds := dig n k a)
      rwa [List.length_replicate] at this
    rw [e] at C
    exact ⟨_, C, fun p hp _ => hp, List.mem_append_left _ hDf⟩
  · have hcD : c' ≠ D := fun e => hca.elim (fun h => by
      have q : oc.data = Data.seq us0.toArray 0 := congrArg Obj.data (one1 _ h.1 _ hDm e)
      cases hd1.symm.trans q) fun h => Nat.lt_irrefl _ (e ▸ h _ hDm)
    have gne : ∀ p ∈ grown ν 83 c' oc 86 4, p.1 ≠ D := fun p hp => by
      refine mem_c hp ?_ fun hp => ?_
      · exact hcD
      refine mem_c hp ?_ fun hp => ?_
      · exact h83.symm
      · exact Nat.ne_of_lt (hDlt p (List.mem_filter.mp hp).1)
    refine tri_ret G .nil rfl trivial fun u s hs hu => done_ok hs (fun p hp => (List.mem_cons.mp hp).elim (fun e => e ▸ mem_setL hDf) fun hp => setL_keep (hg ▸ .tail _ ?_) (gne p hp)) ⟨.cons (grown_grw one0 in83 ⟨hP, hT⟩ ⟨⟨vcs, t, hd1, hd2⟩, ?_⟩) hDlt, [(D, listO us' k')], (fun p hp => by cases List.mem_singleton.mp hp; exact ⟨.head _, hDlt⟩), D, us', k', hu.1, .head _, ht⟩
    · refine mem_c hp ?_ fun hp => ?_
      · exact .head _
      refine mem_c hp ?_ fun hp => ?_
      · exact .tail _ (.head _)
      · exact .tail _ (.tail _ (mem_but (hsub _ (List.mem_filter.mp hp).1) (bne_iff_ne.mp (List.mem_filter.mp hp).2)))
    · exact hca.elim (fun ⟨h, x, y, ht⟩ => (hnew _ h hcD).imp (fun h' => ⟨h', x, y, (hnew _ ht h83.symm).elim id fun q => absurd (q _ hP) (Nat.lt_irrefl _)⟩) id) fun h => .inr fun r hr => h r (hsub r hr)
end Mine
end
noncomputable section
open PySem
namespace Mine
theorem bits_b {b n : Nat} (hb : 0 < b) (h : Builtin.Int.intBits (b : Int) = n) : 1 ≤ n ∧ 2 ^ (n - 1) ≤ b ∧ b < 2 ^ n := by
  have hl : Builtin.Int.intBits (b : Int) = b.log2 + 1 := by
    unfold Builtin.Int.intBits
    have h1 : ((b : Int) == 0) = false := by simp; lia
    rw [h1]; simp
  rw [hl] at h
  subst h
  exact ⟨by lia, by simpa using Nat.log2_self_le (by lia : b ≠ 0), Nat.lt_log2_self⟩
/-- the part of a that the top i digits say -/
noncomputable def topA (n k a i : Nat) : Nat := a / 2 ^ (n * (k - i))
theorem topA_zero {n k a : Nat} (h : a < 2 ^ (n * k)) : topA n k a 0 = 0 := by unfold topA; rw [Nat.sub_zero]; exact Nat.div_eq_of_lt h
theorem topA_last {n k a : Nat} : topA n k a k = a := by unfold topA; simp
theorem dig_get {n : Nat} : ∀ (k a j : Nat), j < k → (dig n k a)[j]? = some (a / 2 ^ (n * j) % 2 ^ n)
  | 0, _, _, h => absurd h (by lia)
  | k + 1, a, 0, _ => by simp [dig]
  | k + 1, a, j + 1, h => by
    simp only [dig, List.getElem?_cons_succ]
    rw [dig_get k _ j (by lia), Nat.div_div_eq_div_mul, ← Nat.pow_add, show n + n * j = n * (j + 1) by rw [Nat.mul_add, Nat.mul_one, Nat.add_comm]]
theorem topA_succ {n k a i : Nat} (h : i < k) : topA n k a (i + 1) = topA n k a i * 2 ^ n + a / 2 ^ (n * (k - 1 - i)) % 2 ^ n := by
  unfold topA
  rw [show k - (i + 1) = k - 1 - i by lia, show k - i = (k - 1 - i) + 1 by lia, Nat.mul_add, Nat.mul_one, Nat.pow_add, ← Nat.div_div_eq_div_mul]
  have := Nat.div_add_mod (a / 2 ^ (n * (k - 1 - i))) (2 ^ n)
  rw [Nat.mul_comm] at this
  exact this.symm
theorem long_step {A b n d : Nat} (hb : 0 < b) (hd : d < 2 ^ n) : A % b * 2 ^ n + d < b * 2 ^ n ∧ (A % b * 2 ^ n + d) / b < 2 ^ n ∧ (A * 2 ^ n + d) / b = A / b * 2 ^ n + (A % b * 2 ^ n + d) / b ∧ (A * 2 ^ n + d) % b = (A % b * 2 ^ n + d) % b := by
  have h1 := Nat.mod_lt A hb
  have h2 : (A % b + 1) * 2 ^ n ≤ b * 2 ^ n := Nat.mul_le_mul_right _ h1
  rw [Nat.add_mul] at h2
  have h3 : A % b * 2 ^ n + d < b * 2 ^ n := by lia
  have h4 := Nat.div_add_mod A b
  have e : A * 2 ^ n + d = (A % b * 2 ^ n + d) + b * (A / b * 2 ^ n) := by
    conv => lhs; rw [← h4]
    grind
  refine ⟨h3, by rw [Nat.div_lt_iff_lt_mul hb, Nat.mul_comm _ b]; exact h3, ?_, ?_⟩
  · rw [e, Nat.add_mul_div_left _ _ hb, Nat.add_comm]
  · rw [e, Nat.add_mul_mod_self_left]
theorem ofD_snoc {n q : Nat} {qs : List Nat} : ofD n (qs ++ [q]).reverse = q + 2 ^ n * ofD n qs.reverse := by simp [ofD]
end Mine
end
noncomputable section
open PySem PySem.W PyProof.Rows PySem.Spec PySem.Calls
namespace Mine
set_option genInjectivity false
set_option genSizeOf false
theorem at_88 : ∀ P, nsIn (hd.heap_39 P) mainGlobals (Str.ofString "_int2digits") = some (some (.ref 88)) := fun P => by k_dflt k_is
theorem is_88 : FnIs 88 := fun P => ⟨_, _, _, _, by k_dflt k_is⟩
theorem at_95 : ∀ P, nsIn (hd.heap_39 P) mainGlobals (Str.ofString "_digits2int") = some (some (.ref 95)) := fun P => by k_dflt k_is
theorem is_95 : FnIs 95 := fun P => ⟨_, _, _, _, by k_dflt k_is⟩
theorem dig_gd {n k a j : Nat} (h : j < k) : ((dig n k a).map fun x : Nat => (x : Int)).getD j 0 = ((a / 2 ^ (n * j) % 2 ^ n : Nat) : Int) := by
  rw [List.getD_eq_getElem?_getD, List.getElem?_map, dig_get k a j h]
  rfl
theorem ints_rev : ∀ {l : List Int} {us : List Value}, IntsL l us → IntsL l.reverse us.reverse
  | [], _, h => by cases h; exact rfl
  | _ :: _, _, ⟨t, ur, e, h⟩ => by
    subst e
    rw [List.reverse_cons, List.reverse_cons]
    exact ints_app (ints_rev h) (ints_one ⟨t, rfl⟩)
/-- where the division stands after i digits -/
noncomputable def DJ (a b n k : Nat) (lq : Addr) (i : Nat) (σ : Sg) : Prop := ∃ (qs : List Nat) (vs : List Value), qs.length = i ∧ IntsL ((qs).map fun x : Nat => (x : Int)) vs ∧ (∀ x ∈ qs, x < 2 ^ n) ∧ ofD n qs.reverse = topA n k a i / b ∧ σ = [((Str.ofString "r"), .i (topA n k a i % b : Nat)), ((Str.ofString "q_digits"), .m lq vs), ((Str.ofString "n"), .i n), ((Str.ofString "b"), .i b)]
theorem dj_zero {a b n k : Nat} {lq : Addr} {σ : Sg} (h : a < 2 ^ (n * k)) (e : σ = [((Str.ofString "r"), .i 0), ((Str.ofString "q_digits"), .m lq []), ((Str.ofString "n"), .i n), ((Str.ofString "b"), .i b)]) : DJ a b n k lq 0 σ :=
  ⟨[], [], rfl, rfl, (fun _ h => (List.not_mem_nil h).elim), by rw [topA_zero h, Nat.zero_div]; rfl, by rw [topA_zero h, Nat.zero_mod]; exact e⟩
theorem dj_len {i : Nat} {qs : List Nat} {vs : List Value} (h : qs.length = i) (hi : IntsL ((qs).map fun x : Nat => (x : Int)) vs) : vs.length = i := hi.length.trans ((List.length_map ..).trans h)
theorem dmp_spec' (a b n k : Nat) (ha : 0 < a) (hb : 0 < b) (hnb : Builtin.Int.intBits (b : Int) = n) (hn : n ≤ 128000) (hk : (Builtin.Int.intBits (a : Int) + n - 1) / n = k) (hk64 : k ≤ 64) : FnB 102 14 (i2c a b) (.t (i2c (a / b : Nat) (a % b : Nat))) := by
  intro ν0 us hu
  refine IsL.e2 hu fun u1 u2 i1 i2 => ?_
  unfold MCk
  k_fill
  k_dflt refine' mc_tri (lv := 13) [((Str.ofString "a"), u1), ((Str.ofString "b"), u2)] [((Str.ofString "a"), (.i a)), ((Str.ofString "b"), (.i b))] (fun P => ?ho) (fun P => ?hcd) (fun w s X => ?hb) ?hnd ?hkd ?hc0 ?h1 ?h2 ?h3 (fun ν hν => ?hs) (fun K ν s9 G hν lt hfz hcl hq => ?body)
  case ho => k_dflt k_is
  case hcd => k_dflt k_is
  case hb => exact BindsTo.of_eq rfl
  case hnd => exact (by decide : (["a", "b"].map Str.ofString).Nodup)
  case hkd => rfl
  case hc0 => exact List.nodup_nil
  case h1 => rfl
  case h2 => rfl
  case h3 => rfl
  case hs => exact ⟨rfl, .inl rfl, Is.mono hν.1 i1, rfl, .inl rfl, Is.mono hν.1 i2, trivial⟩
  obtain ⟨hn1, hb1, hb2⟩ := bits_b hb hnb
  obtain ⟨hk0, hak⟩ := dig_fit ha hn1 hk
  have ht := hν.2
  clear hν
  refine tri_asg G .nil rfl trivial (tri_val (congrArg (fun t : Nat => SV.i (t : Int)) hnb) ?_)
  refine tri_asgX G (ex_callB G .nil ht at_88 is_88 (by decide) rfl trivial fun ν us hu => dig_spec' a n k ha hn1 hn hk hk64 hu) fun ν1 g1 => ?_
  refine tri_asg G .nil rfl trivial ?_
  refine tri_list0 G fun lq lt => ?_
  have t1 := g1.tabs ht
  refine tri_mono (σ' := [((Str.ofString "r"), .i 0), ((Str.ofString "q_digits"), .m lq []), ((Str.ofString "n"), .i n), ((Str.ofString "b"), .i b), ((Str.ofString "a_digits"), .li ((dig n k a).map fun x : Nat => (x : Int)))]) (ν' := ν1) (z' := false) ?_ (fun h => nomatch h) (fun _ h => h) (sub_of (AllSub.get (.of rfl)))
  refine tri_forJ (n := k) (fun i σ' ν' => ν' = ν1 ∧ DJ a b n k lq i σ') G (src_rev G.env (ev_of G .nil) G (by rfl) (by trivial) (by show some (_, _) = some (k, _); rw [List.length_map, dig_len])) (fun ν2 h => ⟨_, ⟨h, dj_zero hak rfl⟩, AllSub.of rfl⟩) (fun X kl G i σ' ν' hi hj hl => ?_) fun σ' ν' hj => ?_
  · obtain ⟨rfl, qs, vs, h1, h2, h3, h4, rfl⟩ := hj
    have hj : k - 1 - i < k := Nat.lt_of_le_of_lt (Nat.sub_le _ _) (Nat.sub_lt (Nat.lt_of_le_of_lt (Nat.zero_le _) hi) Nat.one_pos)
    have hd := Nat.mod_lt (a / 2 ^ (n * (k - 1 - i))) (Nat.two_pow_pos n)
    obtain ⟨s1, s2, s3, s4⟩ := long_step (A := topA n k a i) hb hd
    have hts := topA_succ (n := n) (a := a) hi
    have hrl : topA n k a i % b < 2 ^ n := Nat.lt_trans (Nat.mod_lt _ hb) hb2
    rw [dig_gd hj]
    generalize a / 2 ^ (n * (k - 1 - i)) % 2 ^ n = d at *
    generalize topA n k a i = A at *
    have C := div21 _ b n hn1 (Nat.le_trans hn (by decide)) hb1 hb2 s1
    refine tri_unpX G (ex_call G .nil at_21 is_21 (by decide) rfl ⟨Int.natCast_nonneg n, bits_n hrl (Nat.le_trans (Nat.add_le_add hn hn) (by decide)), trivial⟩ (show Fn 74 13 (.p (.i (((A % b : Nat) : Int) * 2 ^ (n : Int).toNat + (d : Int))) (i2c b n)) _ from (by rw [lsh_n]; exact C)) gives_new) rfl fun ν2 hν2 => ?_
    refine tri_append (x := (Str.ofString "q_digits")) G .nil rfl rfl trivial (dj_len h1 h2 ▸ Nat.le_trans (Nat.le_of_lt hi) (Nat.le_trans hk64 (by decide))) fun u hu => ?_
    refine tri_fend [((Str.ofString "r"), .i ((A % b * 2 ^ n + d) % b : Nat)), ((Str.ofString "q_digits"), .m lq (vs ++ [u])), ((Str.ofString "n"), .i n), ((Str.ofString "b"), .i b)] ν' ?_ hl hν2 ?_
    · exact ⟨rfl, qs ++ [(A % b * 2 ^ n + d) / b], vs ++ [u], by rw [List.length_append, h1]; rfl, by rw [List.map_append]; exact ints_app h2 (ints_one hu), fun x hx => (List.mem_append.mp hx).elim (h3 x) fun hx => List.mem_singleton.mp hx ▸ s2, by rw [ofD_snoc, h4, hts, s3, Nat.mul_comm (2 ^ n), Nat.add_comm], by rw [hts, s4]⟩
    · exact subF_of (AllSub.of rfl) rfl
  · obtain ⟨rfl, qs, vs, h1, h2, h3, h4, rfl⟩ := hj
    rw [topA_last] at h4
    rw [topA_last]
    refine tri_reverse (x := (Str.ofString "q_digits")) G rfl (dj_len h1 h2 ▸ Nat.le_trans hk64 (by decide)) ?_
    refine tri_freeze (x := (Str.ofString "q_digits")) (.li ((qs.reverse).map fun x : Nat => (x : Int))) rfl (fun ν' u _ ⟨m, e, h⟩ => ⟨lq, vs.reverse, m, e, h, by rw [List.map_reverse]; exact ints_rev h2⟩) fun m => ?_
    refine tri_asgX G (ex_callB G .nil t1.cons at_95 is_95 (by decide) rfl trivial fun ν us hu => dig2_spec' qs.reverse n (by rw [List.length_reverse, h1]; exact hk64) hn (fun x hx => h3 x (List.mem_reverse.mp hx)) hu) fun ν3 g3 => ?_
    refine tri_retB G .nil ht (.trans ht (g1.cons (g1.up ht lt)) g3) rfl trivial (by rw [h4])
theorem mck_mono {f : Addr} {lv lv' : Nat} {vs : List Value} {kw : List (Str × Value)} {P : Lg → Prop} {R : Lg → Lg → Value → Prop} (C : MCk f lv vs kw P R) (h : lv ≤ lv') : MCk f lv' vs kw P R :=
  fun w p loose mean mg mb news dp un gd cn cs a ccd cl outer A₀ base h₀ L m s Q E B F X N T hck hP hdp hun ret => mck_use C B F X N T hck hP (Nat.lt_of_le_of_lt (Nat.add_le_add_left (Nat.mul_le_mul_left 10 h) _) hdp) (Nat.lt_of_le_of_lt (Nat.add_le_add_left (Nat.mul_le_mul_left 100 h) _) hun) ret
theorem kbound {A D n : Nat} (hn1 : 1 ≤ n) (h : A < 2 ^ (60 * n)) : (Builtin.Int.intBits (A : Int) + n - 1) / n ≤ 64 := by
  have := bits_le h
  have h2 : Builtin.Int.intBits (A : Int) + n - 1 ≤ 61 * n := by lia
  exact Nat.le_trans (Nat.div_le_div_right h2) (by rw [Nat.mul_div_cancel _ (by lia)]; decide)
theorem at_102 : ∀ P, nsIn (hd.heap_39 P) mainGlobals (Str.ofString "_divmod_pos") = some (some (.ref 102)) := fun P => by k_dflt k_is
theorem is_102 : FnIs 102 := fun P => ⟨_, _, _, _, by k_dflt k_is⟩
theorem at_109 : ∀ P, nsIn (hd.heap_39 P) mainGlobals (Str.ofString "int_divmod") = some (some (.ref 109)) := fun P => by k_dflt k_is
theorem is_109 : FnIs 109 := fun P => ⟨_, _, _, _, by k_dflt k_is⟩
theorem id_of (x y q r : Int) (lv : Nat) (h0 : y ≠ 0) (h1 : y < 0 → ∃ r', r = -r' ∧ FnB 109 lv (i2c (-x) (-y)) (.t (i2c q r'))) (h2 : 0 < y → x < 0 → ∃ q' r', q = Builtin.bitNot q' ∧ r = y + Builtin.bitNot r' ∧ FnB 109 lv (i2c (Builtin.bitNot x) y) (.t (i2c q' r'))) (h3 : 0 < y → 0 ≤ x → FnB 102 lv (i2c x y) (.t (i2c q r))) : FnB 109 (lv + 1) (i2c x y) (.t (i2c q r)) := by
  intro ν0 us hu
  refine IsL.e2 hu fun u1 u2 i1 i2 => ?_
  unfold MCk
  k_fill
  k_dflt refine' mc_tri (lv := lv) [((Str.ofString "a"), u1), ((Str.ofString "b"), u2)] [((Str.ofString "a"), (.i x)), ((Str.ofString "b"), (.i y))] (fun P => ?ho) (fun P => ?hcd) (fun w s X => ?hb) ?hnd ?hkd ?hc0 ?h1 ?h2 ?h3 (fun ν hν => ?hs) (fun K ν s9 G hν lt hfz hcl hq => ?body)
  case ho => k_dflt k_is
  case hcd => k_dflt k_is
  case hb => exact BindsTo.of_eq rfl
  case hnd => exact (by decide : (["a", "b"].map Str.ofString).Nodup)
  case hkd => rfl
  case hc0 => exact List.nodup_nil
  case h1 => rfl
  case h2 => rfl
  case h3 => rfl
  case hs => exact ⟨rfl, .inl rfl, Is.mono hν.1 i1, rfl, .inl rfl, Is.mono hν.1 i2, trivial⟩
  have ht := hν.2
  clear hν
  refine tri_if G .nil rfl trivial (fun h => absurd (eq_of_beq h) h0) fun _ => tri_if G .nil rfl trivial (fun h => ?_) fun hy => tri_if G .nil rfl trivial (fun h => ?_) fun hx => ?_
  · obtain ⟨r', rfl, C⟩ := h1 (of_decide_eq_true h)
    refine tri_unpX G (ex_callB G .nil ht at_109 is_109 (Nat.le_refl _) rfl trivial C) rfl fun ν1 g1 => ?_
    exact tri_retB G .nil ht g1 rfl trivial rfl
  · have hy := Int.lt_iff_le_and_ne.mpr ⟨Int.not_lt.mp (of_decide_eq_false hy), Ne.symm h0⟩
    obtain ⟨q', r', rfl, rfl, C⟩ := h2 hy (of_decide_eq_true h)
    refine tri_unpX G (ex_callB G .nil ht at_109 is_109 (Nat.le_refl _) rfl trivial C) rfl fun ν1 g1 => ?_
    exact tri_retB G .nil ht g1 rfl trivial rfl
  · have hy := Int.lt_iff_le_and_ne.mpr ⟨Int.not_lt.mp (of_decide_eq_false hy), Ne.symm h0⟩
    exact tri_retCallB G .nil ht at_102 is_102 (Nat.le_refl _) rfl trivial (h3 hy (Int.not_lt.mp (of_decide_eq_false hx)))
theorem dmp_of {A D n : Nat} (ha : 0 < A) (hD : 0 < D) (hnb : Builtin.Int.intBits (D : Int) = n) (hn : n ≤ 128000) (hAb : A < 2 ^ (60 * n)) : FnB 109 15 (i2c A D) (.t (i2c (A / D : Nat) (A % D : Nat))) :=
  have hn1 := (bits_b hD hnb).1
  id_of _ _ _ _ 14 (Int.natCast_ne_zero.mpr (Nat.ne_of_gt hD)) (fun h => absurd h (Int.not_lt.mpr (Int.natCast_nonneg _))) (fun _ h => absurd h (Int.not_lt.mpr (Int.natCast_nonneg _))) fun _ _ => dmp_spec' A D n _ ha hD hnb hn rfl (kbound (D := D) hn1 hAb)
theorem mod_pred {A D : Nat} (hr : 0 < A % D) : (A - 1) / D = A / D ∧ (A - 1) % D = A % D - 1 := by
  by_cases hD0 : D = 0
  · subst hD0; simp
  have h := Nat.div_add_mod A D
  have hD : 0 < D := Nat.pos_of_ne_zero hD0
  have hm := Nat.mod_lt A hD
  have e : A - 1 = (A % D - 1) + D * (A / D) := by lia
  rw [e, Nat.add_mul_div_left _ _ hD, Nat.add_mul_mod_self_left, Nat.div_eq_of_lt (by lia), Nat.mod_eq_of_lt (by lia)]
  lia
theorem neg_facts {A D : Nat} (hA : 0 < A) (hD : 0 < D) (hr : 0 < A % D) : Builtin.bitNot (-(A : Int)) = ((A - 1 : Nat) : Int) ∧ Builtin.bitNot ((A / D : Nat) : Int) = -((A / D : Nat) : Int) - 1 ∧ (D : Int) + Builtin.bitNot ((A % D - 1 : Nat) : Int) = (D : Int) - ((A % D : Nat) : Int) := by
  unfold Builtin.bitNot
  lia
/-- by a divisor above 0 -/
theorem id_side {A D n : Nat} {side : Int} (hA : 1 < A) (hD : 0 < D) (hnb : Builtin.Int.intBits (D : Int) = n) (hn : n ≤ 128000) (hAb : A < 2 ^ (60 * n)) (hr : 0 < A % D) (hs : side = 1 ∨ side = -1) : FnB 109 16 (i2c (side * A) D) (.t (i2c (if side = 1 then ((A / D : Nat) : Int) else -((A / D : Nat) : Int) - 1) (if side = 1 then ((A % D : Nat) : Int) else (D : Int) - ((A % D : Nat) : Int)))) := by
  rcases hs with rfl | rfl
  · rw [Int.one_mul]
    exact fun ν us hu => mck_mono (dmp_of (Nat.lt_of_succ_lt hA) hD hnb hn hAb ν us hu) (by decide)
  · obtain ⟨n1, n2, n3⟩ := neg_facts (Nat.lt_of_succ_lt hA) hD hr
    obtain ⟨e1, e2⟩ := mod_pred hr
    have C := dmp_of (Nat.sub_pos_of_lt hA) hD hnb hn (Nat.lt_of_le_of_lt (Nat.sub_le _ _) hAb)
    rw [e1, e2] at C
    rw [Int.neg_mul, Int.one_mul]
    exact id_of _ _ _ _ 15 (Int.natCast_ne_zero.mpr (Nat.ne_of_gt hD)) (fun h => absurd h (Int.not_lt.mpr (Int.natCast_nonneg _))) (fun _ _ => ⟨_, _, n2.symm, n3.symm, n1 ▸ C⟩) fun _ h => absurd h (Int.not_le.mpr (Int.neg_neg_of_pos (Int.natCast_pos.mpr (Nat.lt_of_succ_lt hA))))
theorem id_all' {A D n : Nat} {side turn : Int} (hA : 1 < A) (hD : 0 < D) (hnb : Builtin.Int.intBits (D : Int) = n) (hn : n ≤ 128000) (hAb : A < 2 ^ (60 * n)) (hr : 0 < A % D) (hs : side = 1 ∨ side = -1) (ht : turn = 1 ∨ turn = -1) : FnB 109 17 (i2c (side * A) (turn * D)) (.t (i2c (if side = turn then ((A / D : Nat) : Int) else -((A / D : Nat) : Int) - 1) (turn * (if side = turn then ((A % D : Nat) : Int) else (D : Int) - ((A % D : Nat) : Int))))) := by
  rcases ht with rfl | rfl
  · rw [Int.one_mul, Int.one_mul]
    exact fun ν us hu => mck_mono (id_side hA hD hnb hn hAb hr hs ν us hu) (by decide)
  · have C := id_side (side := -side) hA hD hnb hn hAb hr (hs.elim (fun h => .inr (h ▸ rfl)) fun h => .inl (h ▸ rfl))
    have e : ∀ x y : Int, (if -side = 1 then x else y) = if side = -1 then x else y := fun x y => by rcases hs with rfl | rfl <;> rfl
    rw [Int.neg_mul, e, e] at C
    rw [Int.neg_mul (1 : Int), Int.neg_mul (1 : Int), Int.one_mul, Int.one_mul]
    exact id_of _ _ _ _ 16 (Int.neg_ne_zero.mpr (Int.natCast_ne_zero.mpr (Nat.ne_of_gt hD))) (fun _ => ⟨_, rfl, (Int.neg_neg (D : Int)).symm ▸ C⟩) (fun h => absurd h (Int.not_lt.mpr (Int.neg_nonpos_of_nonneg (Int.natCast_nonneg _)))) fun h => absurd h (Int.not_lt.mpr (Int.neg_nonpos_of_nonneg (Int.natCast_nonneg _)))
end Mine
end
noncomputable section
open PySem
namespace Mine
noncomputable def aN (B h : Nat) : Nat → Nat
  | 0 => B ^ h
  | i + 1 => aN B h i * (B ^ (2 * (1 + i)) - 1)
noncomputable def bN (B : Nat) : Nat → Nat
  | 0 => 1
  | i + 1 => bN B i * (B ^ (2 * (1 + i) - 1) - 1)
theorem aN_lt (wd h : Nat) : ∀ i, aN (2 ^ wd) h i ≤ 2 ^ (wd * (h + i * (i + 1)))
  | 0 => by simp [aN, ← Nat.pow_mul]
  | i + 1 => by
    have ih := aN_lt wd h i
    have h2 : (2 ^ wd) ^ (2 * (1 + i)) - 1 ≤ 2 ^ (wd * (2 * (1 + i))) := by rw [← Nat.pow_mul]; exact Nat.sub_le _ _
    calc aN (2 ^ wd) h i * ((2 ^ wd) ^ (2 * (1 + i)) - 1) ≤ 2 ^ (wd * (h + i * (i + 1))) * 2 ^ (wd * (2 * (1 + i))) := Nat.mul_le_mul ih h2
      _ = 2 ^ (wd * (h + (i + 1) * (i + 1 + 1))) := by rw [← Nat.pow_add, ← Nat.mul_add]; congr 2; grind
theorem bN_lt (wd : Nat) : ∀ i, bN (2 ^ wd) i ≤ 2 ^ (wd * (i * i))
  | 0 => by simp [bN]
  | i + 1 => by
    have ih := bN_lt wd i
    have h2 : (2 ^ wd) ^ (2 * (1 + i) - 1) - 1 ≤ 2 ^ (wd * (2 * (1 + i) - 1)) := by rw [← Nat.pow_mul]; exact Nat.sub_le _ _
    calc bN (2 ^ wd) i * ((2 ^ wd) ^ (2 * (1 + i) - 1) - 1) ≤ 2 ^ (wd * (i * i)) * 2 ^ (wd * (2 * (1 + i) - 1)) := Nat.mul_le_mul ih h2
      _ = 2 ^ (wd * ((i + 1) * (i + 1))) := by
        rw [← Nat.pow_add, ← Nat.mul_add]; congr 2
        rw [show 2 * (1 + i) - 1 = 2 * i + 1 by lia]; grind
theorem bN_pos {wd : Nat} (hw : 1 ≤ wd) : ∀ i, 0 < bN (2 ^ wd) i
  | 0 => by simp [bN]
  | i + 1 => by
    have h1 : 2 ^ 1 ≤ (2 ^ wd) ^ (2 * (1 + i) - 1) := by
      rw [← Nat.pow_mul]
      exact Nat.pow_le_pow_right (by decide) (Nat.mul_pos hw (by lia))
    exact Nat.mul_pos (bN_pos hw i) (by lia)
theorem big20 {wd h i : Nat} (hwh : wd * h ≤ 3000) (hh : h ≤ 18) (hi : i ≤ h) : ∃ E, E ≤ 1000000 ∧ aN (2 ^ wd) h i < 2 ^ E ∧ bN (2 ^ wd) i < 2 ^ E ∧ (∀ e, e ≤ 2 * h → (2 ^ wd) ^ e < 2 ^ E ∧ (wd + 1) * e ≤ 2 ^ 27) := by
  have h1 : i * (i + 1) ≤ h * 19 := Nat.mul_le_mul hi (by lia)
  have h2 : i * i ≤ h * 18 := Nat.mul_le_mul hi (by lia)
  refine ⟨wd * (h * 20) + 1, by rw [← Nat.mul_assoc]; lia, Nat.lt_of_le_of_lt (aN_lt wd h i) (Nat.pow_lt_pow_right (by decide) ?_), Nat.lt_of_le_of_lt (bN_lt wd i) (Nat.pow_lt_pow_right (by decide) ?_), fun e he => ⟨?_, ?_⟩⟩
  · exact Nat.lt_succ_of_le (Nat.mul_le_mul_left _ (by lia))
  · exact Nat.lt_succ_of_le (Nat.mul_le_mul_left _ (by lia))
  · rw [← Nat.pow_mul]
    exact Nat.pow_lt_pow_right (by decide) (Nat.lt_succ_of_le (Nat.mul_le_mul_left _ (by lia)))
  · have : wd * e ≤ wd * (h * 2) := Nat.mul_le_mul_left _ (by lia)
    rw [Nat.add_mul]
    refine Nat.le_trans (Nat.add_le_add_right this _) (by rw [← Nat.mul_assoc]; lia)
end Mine
end
noncomputable section
open PySem
namespace Mine
/-- a polynomial by its coefficients, the low ones ahead -/
noncomputable def pe (x : Int) : List Int → Int
  | [] => 0
  | c :: r => c + x * pe x r
noncomputable def pAdd : List Int → List Int → List Int
  | [], b => b
  | a, [] => a
  | a :: r, b :: q => (a + b) :: pAdd r q
noncomputable def pScale (c : Int) (l : List Int) : List Int := l.map (c * ·)
noncomputable def pShift (m : Nat) (l : List Int) : List Int := List.replicate m 0 ++ l
theorem pe_add (x : Int) : ∀ a b : List Int, pe x (pAdd a b) = pe x a + pe x b
  | [], b => by simp [pAdd, pe]
  | a :: r, [] => by simp [pAdd, pe]
  | a :: r, b :: q => by simp only [pAdd, pe, pe_add x r q]; grind
theorem pe_scale (x c : Int) : ∀ a : List Int, pe x (pScale c a) = c * pe x a
  | [] => by simp [pScale, pe]
  | a :: r => by have := pe_scale x c r; simp only [pScale, List.map_cons, pe] at this ⊢; rw [this]; grind
theorem pe_shift (x : Int) (l : List Int) : ∀ m : Nat, pe x (pShift m l) = x ^ m * pe x l
  | 0 => by simp [pShift]
  | m + 1 => by
    have := pe_shift x l m
    simp only [pShift, List.replicate_succ, List.cons_append, pe] at this ⊢
    rw [this, Int.pow_succ]; grind
/-- times x ^ m - 1 -/
noncomputable def pM1 (m : Nat) (l : List Int) : List Int := pAdd (pShift m l) (pScale (-1) l)
theorem pe_M1 (x : Int) (m : Nat) (l : List Int) : pe x (pM1 m l) = pe x l * (x ^ m - 1) := by
  rw [pM1, pe_add, pe_shift, pe_scale]; grind
noncomputable def aP (h : Nat) : Nat → List Int
  | 0 => pShift h [1]
  | i + 1 => pM1 (2 * (1 + i)) (aP h i)
noncomputable def bP : Nat → List Int
  | 0 => [1]
  | i + 1 => pM1 (2 * (1 + i) - 1) (bP i)
theorem one_le_pow {B : Nat} (hB : 1 ≤ B) (e : Nat) : 1 ≤ B ^ e := Nat.pow_pos (n := e) hB
theorem aP_eq (B h : Nat) (hB : 1 ≤ B) : ∀ i, ((aN B h i : Nat) : Int) = pe (B : Int) (aP h i)
  | 0 => by rw [aN, aP, pe_shift]; simp [pe]
  | i + 1 => by
    have ih := aP_eq B h hB i
    have h1 := one_le_pow hB (2 * (1 + i))
    rw [aN, aP, pe_M1, ← ih]
    push_cast [Int.ofNat_sub h1]; rfl
theorem bP_eq (B : Nat) (hB : 1 ≤ B) : ∀ i, ((bN B i : Nat) : Int) = pe (B : Int) (bP i)
  | 0 => by simp [bN, bP, pe]
  | i + 1 => by
    have ih := bP_eq B hB i
    have h1 := one_le_pow hB (2 * (1 + i) - 1)
    rw [bN, bP, pe_M1, ← ih]
    push_cast [Int.ofNat_sub h1]; rfl
noncomputable def MKS : List Nat := [0, 1, 3, 6, 10, 15, 21, 28, 36]
noncomputable def wDs (top : Nat) : List Nat := (List.range (top + 1)).map fun j => if (top - j) ∈ MKS then 1 else 0
/-- times W: the sum of the shifts -/
noncomputable def wTimes (top : Nat) (l : List Int) : List Int := MKS.foldr (fun t r => if t ≤ top then pAdd (pShift (top - t) l) r else r) []
noncomputable def wP (top : Nat) : List Int := wTimes top [1]
theorem pe_wTimes (x : Int) (top : Nat) (l : List Int) : pe x (wTimes top l) = pe x (wP top) * pe x l := by
  unfold wP wTimes
  induction MKS with
  | nil => simp [pe]
  | cons t r ih =>
    simp only [List.foldr_cons]
    by_cases h : t ≤ top
    · rw [if_pos h, if_pos h, pe_add, pe_add, ih, pe_shift, pe_shift]; simp only [pe]; grind
    · rw [if_neg h, if_neg h, ih]
/-- Horner at 256, no part below nought -/
noncomputable def hor : List Int → Option Int
  | [] => some 0
  | c :: r => match hor r with
    | none => none
    | some v => if 0 ≤ c + 256 * v then some (c + 256 * v) else none
theorem hor_le {x : Int} (hx : 256 ≤ x) : ∀ {l : List Int} {v : Int}, hor l = some v → 0 ≤ v ∧ v ≤ pe x l
  | [], v, h => by simp [hor] at h; subst h; simp [pe]
  | c :: r, v, h => by
    simp only [hor] at h
    cases hr : hor r with
    | none => rw [hr] at h; cases h
    | some u =>
      rw [hr] at h
      obtain ⟨h0, h1⟩ := hor_le hx hr
      simp only at h
      by_cases hc : 0 ≤ c + 256 * u
      · rw [if_pos hc] at h
        cases h
        refine ⟨hc, ?_⟩
        simp only [pe]
        have h2 : 256 * u ≤ x * u := Int.mul_le_mul_of_nonneg_right hx h0
        have h3 : x * u ≤ x * pe x r := Int.mul_le_mul_of_nonneg_left h1 (by lia)
        lia
      · rw [if_neg hc] at h; cases h
noncomputable def isOk (l : List Int) : Bool := (hor l).isSome
theorem ok_le {x : Int} (hx : 256 ≤ x) {l : List Int} (h : isOk l = true) : 0 ≤ pe x l := by
  unfold isOk at h
  obtain ⟨v, e⟩ := Option.isSome_iff_exists.mp h
  obtain ⟨a, b⟩ := hor_le hx e
  lia
/-- 2 * (above - W * below) between 2 - below and below - 1 -/
noncomputable def gauss (h : Nat) : Bool :=
  let d := bP h
  let e := pAdd (aP h h) (pScale (-1) (wTimes (2 * h) d))
  isOk (pAdd (pAdd d (pScale 2 e)) [-2]) && isOk (pAdd (pAdd d (pScale (-2) e)) [-1])
set_option maxRecDepth 100000 in
theorem gauss_all : (List.range 18).all (fun i => gauss (i + 1)) = true := by decide +kernel
theorem wP_all : (List.range 18).all (fun i => wP (2 * (i + 1)) == (wDs (2 * (i + 1))).map Int.ofNat) = true := by decide +kernel
theorem pe_ofD (w : Nat) : ∀ ds : List Nat, pe ((2 ^ w : Nat) : Int) (ds.map Int.ofNat) = ((ofD w ds : Nat) : Int)
  | [] => by simp [pe, ofD]
  | d :: r => by
    have ih := pe_ofD w r
    simp only [List.map_cons, pe, ofD, ih]
    push_cast; rfl
theorem all_range {n : Nat} {f : Nat → Bool} (h : (List.range n).all f = true) {i : Nat} (hi : i < n) : f i = true := List.all_eq_true.mp h i (List.mem_range.mpr hi)
theorem gauss_eq {h w : Nat} (h1 : 1 ≤ h) (h2 : h ≤ 18) (hw : 8 ≤ w) :
    (aN (2 ^ w) h h + bN (2 ^ w) h / 2) / bN (2 ^ w) h = ofD w (wDs (2 * h)) ∧ 0 < (aN (2 ^ w) h h + bN (2 ^ w) h / 2) % bN (2 ^ w) h := by
  have hB : 256 ≤ 2 ^ w := Nat.pow_le_pow_right (n := 2) (by decide) hw
  have hB1 : 1 ≤ 2 ^ w := Nat.le_trans (by decide) hB
  have hx : (256 : Int) ≤ ((2 ^ w : Nat) : Int) := Int.ofNat_le.mpr hB
  have g := all_range gauss_all (i := h - 1) (by lia)
  have e := all_range wP_all (i := h - 1) (by lia)
  rw [Nat.sub_add_cancel h1] at g e
  have e := eq_of_beq e
  simp only [gauss, Bool.and_eq_true] at g
  have g1 := ok_le hx g.1
  have g2 := ok_le hx g.2
  rw [pe_add, pe_add, pe_scale, pe_add, pe_scale, pe_wTimes, ← aP_eq _ _ hB1, ← bP_eq _ hB1, e, pe_ofD] at g1 g2
  have hD := bN_pos (wd := w) (by lia) h
  generalize aN (2 ^ w) h h = A at *
  generalize bN (2 ^ w) h = D at *
  generalize ofD w (wDs (2 * h)) = W at *
  simp only [pe, Int.mul_zero, Int.add_zero] at g1 g2
  have e1 : ((W * D : Nat) : Int) = (W : Int) * (D : Int) := Int.natCast_mul W D
  rw [← e1] at g1 g2
  have q1 : W * D < A + D / 2 := by lia
  have q2 : A + D / 2 < W * D + D := by lia
  have hdiv : (A + D / 2) / D = W := by
    refine Nat.div_eq_of_lt_le (Nat.le_of_lt q1) ?_
    rw [Nat.succ_mul]; exact q2
  refine ⟨hdiv, ?_⟩
  have := Nat.div_add_mod (A + D / 2) D
  rw [hdiv, Nat.mul_comm] at this
  lia
/-- a bound below on below -/
theorem bN_ge {w : Nat} (hw : 1 ≤ w) : ∀ i, 2 ^ (w * (i * i)) ≤ bN (2 ^ w) i * 2 ^ i
  | 0 => by simp [bN]
  | i + 1 => by
    have ih := bN_ge hw i
    have h1 : 2 ^ (w * (2 * i + 1)) ≤ ((2 ^ w) ^ (2 * (1 + i) - 1) - 1) * 2 := by
      have : 2 ^ 1 ≤ 2 ^ (w * (2 * i + 1)) := Nat.pow_le_pow_right (by decide) (Nat.mul_pos hw (by lia))
      rw [← Nat.pow_mul, show 2 * (1 + i) - 1 = 2 * i + 1 by lia]
      lia
    have h2 := Nat.mul_le_mul ih h1
    rw [← Nat.pow_add, ← Nat.mul_add] at h2
    rw [bN, Nat.pow_succ, show (i + 1) * (i + 1) = i * i + (2 * i + 1) by grind]
    refine Nat.le_trans h2 (Nat.le_of_eq (by ac_rfl))
theorem aa_lt {h w n : Nat} (h1 : 1 ≤ h) (hw : 8 ≤ w) (hn : bN (2 ^ w) h < 2 ^ n) : aN (2 ^ w) h h + bN (2 ^ w) h / 2 < 2 ^ (60 * n) := by
  have g := bN_ge (w := w) (by lia) h
  have h3 : 2 ^ (w * (h * h)) < 2 ^ (n + h) := by
    rw [Nat.pow_add]
    exact Nat.lt_of_le_of_lt g (Nat.mul_lt_mul_of_pos_right hn (Nat.two_pow_pos h))
  have h4 : w * (h * h) < n + h := (Nat.pow_lt_pow_iff_right (by decide : 1 < 2)).mp h3
  have hh : h ≤ h * h := Nat.le_mul_of_pos_left h h1
  have h5 : 8 * (h * h) ≤ w * (h * h) := Nat.mul_le_mul_right _ hw
  have h6 : w * (h + h * (h + 1)) + 1 ≤ 60 * n := by
    have : w * (h + h * (h + 1)) ≤ w * (3 * (h * h)) := Nat.mul_le_mul_left _ (by rw [Nat.mul_add, Nat.mul_one]; lia)
    rw [Nat.mul_left_comm] at this
    lia
  have a1 := aN_lt w h h
  have a2 : bN (2 ^ w) h / 2 < 2 ^ (w * (h + h * (h + 1))) := by
    have b1 := bN_lt w h
    have b2 : 2 ^ (w * (h * h)) ≤ 2 ^ (w * (h + h * (h + 1))) := Nat.pow_le_pow_right (by decide) (Nat.mul_le_mul_left _ (by rw [Nat.mul_add]; lia))
    have b3 := bN_pos (wd := w) (by lia) h
    lia
  have a3 : 2 ^ (w * (h + h * (h + 1)) + 1) ≤ 2 ^ (60 * n) := Nat.pow_le_pow_right (by decide) h6
  rw [Nat.pow_succ] at a3
  lia
theorem bn_bits {h w n : Nat} (h2 : h ≤ 18) (hwh : w * h ≤ 3000) (hw : 1 ≤ w) (hnb : Builtin.Int.intBits ((bN (2 ^ w) h : Nat) : Int) = n) : n ≤ 128000 := by
  obtain ⟨a, b, c⟩ := bits_b (bN_pos hw h) hnb
  have d := bN_lt w h
  have e : 2 ^ (n - 1) ≤ 2 ^ (w * (h * h)) := Nat.le_trans b d
  have f := (Nat.pow_le_pow_iff_right (by decide : 1 < 2)).mp e
  have : w * (h * h) ≤ 3000 * 18 := by rw [← Nat.mul_assoc]; exact Nat.mul_le_mul hwh h2
  lia
theorem aa_one {h w : Nat} (hw : 1 ≤ w) (hr : 0 < (aN (2 ^ w) h h + bN (2 ^ w) h / 2) / bN (2 ^ w) h) (hm : 0 < (aN (2 ^ w) h h + bN (2 ^ w) h / 2) % bN (2 ^ w) h) : 1 < aN (2 ^ w) h h + bN (2 ^ w) h / 2 := by
  have := Nat.div_add_mod (aN (2 ^ w) h h + bN (2 ^ w) h / 2) (bN (2 ^ w) h)
  have b := bN_pos hw h
  have : 1 ≤ bN (2 ^ w) h * ((aN (2 ^ w) h h + bN (2 ^ w) h / 2) / bN (2 ^ w) h) := Nat.mul_pos b hr
  lia
end Mine
end
noncomputable section
open PySem
namespace Mine
noncomputable def cP (top : Nat) : List Int := wTimes top (wTimes top (wP top))
noncomputable def cDs (top : Nat) : List Nat := (cP top).map Int.toNat
/-- the digits from the top that are kept -/
noncomputable def eDs (top : Nat) : List Nat := (cDs top).drop (2 * top)
noncomputable def cubeOk (top : Nat) : Bool := cP top == (cDs top).map Int.ofNat && (cDs top).all (fun c => decide (c < 256)) && (cDs top).length == 3 * top + 1 && (eDs top).getLast? == some 1
theorem cube_all : (List.range 18).all (fun i => cubeOk (2 * (i + 1))) = true := by decide +kernel
theorem ofD_drop {w : Nat} {ds : List Nat} {k : Nat} (h : ∀ x ∈ ds, x < 2 ^ w) (hk : k ≤ ds.length) : ofD w ds / 2 ^ (w * k) = ofD w (ds.drop k) := by
  have e := ofD_append w (ds.take k) (ds.drop k)
  rw [List.take_append_drop, List.length_take, Nat.min_eq_left hk] at e
  have l := ofD_lt w (ds.take k) fun x hx => h x (List.mem_of_mem_take hx)
  rw [List.length_take, Nat.min_eq_left hk] at l
  rw [e, Nat.add_mul_div_left _ _ (Nat.two_pow_pos _), Nat.div_eq_of_lt l, Nat.zero_add]
theorem dig_ofD {w : Nat} : ∀ {ds : List Nat}, (∀ x ∈ ds, x < 2 ^ w) → dig w ds.length (ofD w ds) = ds
  | [], _ => rfl
  | d :: r, h => by
    have hd := h d (.head _)
    simp only [List.length_cons, dig, ofD]
    rw [Nat.add_mul_mod_self_left, Nat.mod_eq_of_lt hd, Nat.add_mul_div_left _ _ (Nat.two_pow_pos _), Nat.div_eq_of_lt hd, Nat.zero_add, dig_ofD fun x hx => h x (.tail _ hx)]
theorem ofD_last {w : Nat} {ds : List Nat} (h : ds.getLast? = some 1) : 2 ^ (w * (ds.length - 1)) ≤ ofD w ds := by
  obtain ⟨r, rfl⟩ := List.getLast?_eq_some_iff.mp h
  rw [ofD_append]; simp [ofD]
theorem bits_len {w k a : Nat} (hw : 1 ≤ w) (h1 : 2 ^ (w * k) ≤ a) (h2 : a < 2 ^ (w * (k + 1))) : (Builtin.Int.intBits (a : Int) + w - 1) / w = k + 1 := by
  have ha : 0 < a := Nat.lt_of_lt_of_le (Nat.two_pow_pos _) h1
  obtain ⟨n, hn⟩ : ∃ n, Builtin.Int.intBits (a : Int) = n := ⟨_, rfl⟩
  obtain ⟨b1, b2, b3⟩ := bits_b ha hn
  rw [hn]
  have c1 : w * k < n := (Nat.pow_lt_pow_iff_right (by decide : 1 < 2)).mp (Nat.lt_of_le_of_lt h1 b3)
  have c2 : n - 1 < w * (k + 1) := (Nat.pow_lt_pow_iff_right (by decide : 1 < 2)).mp (Nat.lt_of_le_of_lt b2 h2)
  have d1 : (k + 1) * w = w * k + w := by rw [Nat.add_mul, Nat.one_mul, Nat.mul_comm]
  have d2 : (k + 1 + 1) * w = w * k + w + w := by rw [Nat.add_mul, d1, Nat.one_mul]
  have d3 : w * (k + 1) = w * k + w := by rw [Nat.mul_add, Nat.mul_one]
  rw [d3] at c2
  exact Nat.div_eq_of_lt_le (by lia) (by lia)
theorem cube_eq {h w : Nat} (h1 : 1 ≤ h) (h2 : h ≤ 18) (hw : 8 ≤ w) :
    (ofD w (wDs (2 * h))) ^ 3 / 2 ^ (2 * (2 * h) * w) = ofD w (eDs (2 * h)) ∧ (eDs (2 * h)).length = 2 * h + 1 ∧ (Builtin.Int.intBits ((ofD w (eDs (2 * h)) : Nat) : Int) + w - 1) / w = 2 * h + 1 ∧ 0 < ofD w (eDs (2 * h)) ∧ dig w (2 * h + 1) (ofD w (eDs (2 * h))) = eDs (2 * h) := by
  have hB : 256 ≤ 2 ^ w := Nat.pow_le_pow_right (n := 2) (by decide) hw
  have e := all_range wP_all (i := h - 1) (by lia)
  have g := all_range cube_all (i := h - 1) (by lia)
  rw [Nat.sub_add_cancel h1] at g e
  have e := eq_of_beq e
  simp only [cubeOk, Bool.and_eq_true] at g
  obtain ⟨⟨⟨g1, g2⟩, g3⟩, g4⟩ := g
  have g1 := eq_of_beq g1
  have g3 := eq_of_beq g3
  have g4 := eq_of_beq g4
  have g2 : ∀ x ∈ cDs (2 * h), x < 2 ^ w := fun x hx => Nat.lt_of_lt_of_le (of_decide_eq_true (List.all_eq_true.mp g2 x hx)) hB
  have hc : (ofD w (wDs (2 * h))) ^ 3 = ofD w (cDs (2 * h)) := by
    refine Int.ofNat.inj ?_
    show ((ofD w (wDs (2 * h)) ^ 3 : Nat) : Int) = ((ofD w (cDs (2 * h)) : Nat) : Int)
    rw [← pe_ofD, ← g1, cP, pe_wTimes, pe_wTimes, e, pe_ofD, Int.natCast_pow]
    generalize ((ofD w (wDs (2 * h)) : Nat) : Int) = W
    grind
  have hl : (eDs (2 * h)).length = 2 * h + 1 := by unfold eDs; rw [List.length_drop, g3]; lia
  have ge : ∀ x ∈ eDs (2 * h), x < 2 ^ w := fun x hx => g2 x (List.mem_of_mem_drop hx)
  have l1 := ofD_last (w := w) g4
  have l2 := ofD_lt w _ ge
  rw [hl] at l1 l2
  refine ⟨by rw [hc, Nat.mul_comm _ w, ofD_drop g2 (by lia)]; rfl, hl, bits_len (by lia) l1 l2, Nat.lt_of_lt_of_le (Nat.two_pow_pos _) l1, ?_⟩
  have := dig_ofD ge
  rwa [hl] at this
end Mine
end
noncomputable section
open PySem
namespace Mine
/-- what int_divmod gives for side * A and turn * D, as numbers with a name -/
theorem div_facts {AA DD : Nat} {side turn : Int} (hm0 : 0 < AA % DD) (hD : 0 < DD) (hs : side = 1 ∨ side = -1) (ht : turn = 1 ∨ turn = -1) :
    ∃ X R : Int, X = (if side = turn then ((AA / DD : Nat) : Int) else -((AA / DD : Nat) : Int) - 1) ∧ R = (turn * (if side = turn then ((AA % DD : Nat) : Int) else (DD : Int) - ((AA % DD : Nat) : Int))) ∧
      X * turn * DD + R = side * (AA : Int) ∧ 0 < turn * R ∧ turn * R < DD ∧ (if side = turn then X else -1 - X) = ((AA / DD : Nat) : Int) ∧ X.natAbs ≤ AA + 1 := by
  have h1 : ((DD * (AA / DD) + AA % DD : Nat) : Int) = (AA : Int) := congrArg Nat.cast (Nat.div_add_mod AA DD)
  have h2 := Nat.mod_lt AA hD
  have h3 : AA / DD ≤ AA := Nat.div_le_self _ _
  refine ⟨_, _, rfl, rfl, ?_⟩
  generalize AA / DD = q at *
  generalize AA % DD = r at *
  rw [Int.natCast_add, Int.natCast_mul] at h1
  rcases hs with rfl | rfl <;> rcases ht with rfl | rfl
  · rw [if_pos rfl, if_pos rfl, if_pos rfl]; refine ⟨?_, ?_, ?_, rfl, ?_⟩
    · rw [← h1]; grind
    · lia
    · lia
    · lia
  · rw [if_neg (by decide), if_neg (by decide), if_neg (by decide)]; refine ⟨?_, ?_, ?_, ?_, ?_⟩
    · rw [← h1]; grind
    · lia
    · lia
    · lia
    · lia
  · rw [if_neg (by decide), if_neg (by decide), if_neg (by decide)]; refine ⟨?_, ?_, ?_, ?_, ?_⟩
    · rw [← h1]; grind
    · lia
    · lia
    · lia
    · lia
  · rw [if_pos rfl, if_pos rfl, if_pos rfl]; refine ⟨?_, ?_, ?_, rfl, ?_⟩
    · rw [← h1]; grind
    · lia
    · lia
    · lia
end Mine
end
noncomputable section
open PySem PySem.W PyProof.Rows PySem.Spec PySem.Calls
namespace Mine
/-- a def called by the law itself, that may catch -/
noncomputable abbrev MCz (f : Addr) (lv : Nat) (vs : List Value) (kw : List (Str × Value)) (P : List (Addr × Obj) → Prop) (R : List (Addr × Obj) → List (Addr × Obj) → Value → Prop) : Prop :=
  ∀ (w : World) (p : Program) (loose : List Str) (mean : ExcName → Option Value) (mg mb : Str → Option Value) (news : List (Addr × Obj)) (dp un : Nat) (gd : Option (List Code)) (cn : Str) (cs : Scope) (a : Addr) (ccd : Value) (cl : List (Str × Addr)) (A₀ : Around) (h₀ : Heap) (L : Addr) (m : Str → Option Value) (s : Shared) (Q E : Value → Shared → Prop),
    Below A₀ h₀ [] h₀ → Fr h₀ L s.heap m → (hd.heap_39 w.params).In h₀ → News h₀ L s.heap news → Top p loose mean mg mb h₀ → cs.kind = .function →
    P news → dp + 10 * lv < recursionLimit → un + 100 * lv < cLine →
    (∀ v news' h' tk', R news news' v → Fr h₀ L h' m → News h₀ L h' news' → Q v { s with heap := h', toks := tk' }) →
      wpAny (model PySem.Challenge.rw_uk0013_01.row.prog w) (ktrTop dp un gd cn cs L a ccd cl []) (call (.ref f) vs kw) Q E s
noncomputable def DoneS (fs : List Addr) (g : Heap) (L' : Addr) (R : List (Addr × Obj) → Value → Prop) (s : Shared) (v : Value) (s' : Shared) : Prop :=
  ∃ g' h' tk' m' news', s' = { s with heap := h', toks := tk' } ∧ KtsTurn fs g g' ∧ Fr g' L' h' m' ∧ News g' L' h' news' ∧ R news' v
theorem DoneS.of {fs : List Addr} {g g' : Heap} {L' : Addr} {R : List (Addr × Obj) → Value → Prop} {s : Shared} {v : Value} {h' : Heap} {tk' : Nat} {m' : Str → Option Value} {news' big : List (Addr × Obj)} (T : KtsTurn fs g g') (F : Fr g' L' h' m') (N : News g' L' h' big) (hs : ∀ p ∈ news', p ∈ big) (r : R news' v) :
    DoneS fs g L' R s v { s with heap := h', toks := tk' } := ⟨g', h', tk', m', news', rfl, T, F, fun p hp => N p (hs p hp), r⟩
section
variable {f : Addr} {lv : Nat} {vs : List Value} {kw : List (Str × Value)} {P : List (Addr × Obj) → Prop} {R : List (Addr × Obj) → List (Addr × Obj) → Value → Prop} {name qual : Str} {params : Arguments} {body : List Stmt} {scope : Scope} {dV kV doc pm cdv ct oc : Value} {an od : Option Addr} {osl : Array (Option Value)}
theorem mc_defZ (binds : List (Str × Value))
    (ho : ∀ P : Params, (hd.heap_39 P).lookup f = some ⟨oc, od, .func (fnOf name qual params body scope dV kV doc pm an cdv ct), osl⟩) (hcd : ∀ P : Params, codeIn (hd.heap_39 P) cdv qual = true)
    (hbind : ∀ (w : World) (s : Shared), (hd.heap_39 w.params).In s.heap → BindsTo s (fnOf name qual params body scope dV kV doc pm an cdv ct) ⟨vs, kw⟩ binds)
    (hnd : (binds.map (·.1)).Nodup) (hloc : ∀ y ∈ binds, scope.names.lookup y.1 = some .local)
    (hco : scope.isCoroutine = false) (hgen : scope.isGenerator = false) (hk : scope.kind = .function) (hcell : ∀ x ∈ scope.names, x.2 ≠ .cell) (hlv : 1 ≤ lv)
    (h : ∀ (w : World) (p : Program) (loose : List Str) (mean : ExcName → Option Value) (mg mb : Str → Option Value) (news : List (Addr × Obj)) (dp un : Nat) (gd : Option (List Code)) (outer : List Env) (A₀ : Around) (base g : Heap) (L' : Addr) (s : Shared),
      Below A₀ base outer g → (hd.heap_39 w.params).In g → Top p loose mean mg mb g → P news → dp + 10 * lv < recursionLimit + 1 → un + 100 * lv < cLine + 3 →
      Fr g L' s.heap (ofL binds) → News g L' s.heap news → (∀ p ∈ news, p.1 < L') → (hd.heap_39 w.params).In base → Top p loose mean mg mb base → KtsDicts (outer.filterMap (·.frame)) g → 1 ≤ dp → 3 ≤ un →
      wpAny (model PySem.Challenge.rw_uk0013_01.row.prog w) (ktrTop dp un gd qual scope L' f cdv [] outer) (execs body (envOf qual scope L' f cdv)) (fun fl s' => DoneS (outer.filterMap (·.frame)) g L' (R news) s (match fl with | .ret v => v | _ => .none) s') (fun _ _ => False) s) :
    MCz f lv vs kw P R := by
  intro w p loose mean mg mb news dp un gd cn cs a ccd cl A₀ h₀ L m s Q E B F X N T hck hP hdp hun ret
  refine wpAny_call ?_
  refine codeAny_call_def (fd := fnOf name qual params body scope dV kV doc pm an cdv ct) (body := body) (binds := binds) (by show dp < recursionLimit; lia) ((X.keeps F.keep) _ _ (ho _)) rfl (T.nolimit.keeps F.keep) (codeRec_of (X.keeps F.keep) (hcd _)) rfl (hbind w s (X.keeps F.keep)) hcell hloc (fun h₁ hns hk₁ => ?_) hco hgen hk
  obtain ⟨FG, BG, st, _⟩ := groundX (A := ktrTop dp un gd cn cs L a ccd cl []) (env := envX cn cs L a ccd cl) (R := fun _ _ => True) B F N rfl rfl hck
  obtain ⟨oL, es, ep, hL, hLd, hLk, hLf⟩ := F.ns
  have nL : L ∉ news.map (·.1) := fun q => by
    obtain ⟨p, hp, e⟩ := List.mem_map.mp q
    exact (N p hp).2.1 e
  have hLg := hideAll_get (news.map (·.1)) hL nL
  have F' : Fr (hideAll s.heap (news.map (·.1))) s.heap.objs.size h₁ (fun y => binds.reverse.lookup y) := ⟨hns, fun b o e => hk₁ b o (of_hideAll _ e), Nat.le_of_eq (hideAll_size _ _)⟩
  rw [ofL_rev binds hnd] at F'
  refine wpAny_mono (h w p loose mean mg mb news (dp + 1) (un + 3) gd [envX cn cs L a ccd cl] _ h₀ _ s.heap.objs.size { s with heap := h₁, toks := s.toks + binds.length } BG (X.keeps st) (T.keeps st) hP (by lia) (by lia) F'
    (fun p hp => ⟨hk₁ _ _ (N p hp).1, Nat.ne_of_lt (Heap.lt_size (N p hp).1), hideAll_none _ (List.mem_map_of_mem hp)⟩) (fun p hp => Heap.lt_size (N p hp).1) X T (fun b hb => ?_) (by lia) (by lia)) (fun fl s' hl => ?_) fun _ _ z => z.elim
  · simp only [List.filterMap_cons, List.filterMap_nil, List.mem_singleton] at hb
    subst hb
    exact ⟨oL, es, ep, hLg, hLd⟩
  · obtain ⟨g', h', tk', m', news', rfl, T', F₂, N₂, r⟩ := hl
    have nL₀ : h₀.get? L = none := kts_self F
    obtain ⟨sl, hs⟩ := T'.up hLg
    refine ret _ news' h' tk' r ⟨⟨_, es, ep, F₂.keep _ _ hs, hLd, hLk, hLf⟩, fun b o e => F₂.keep b o (T'.other b o (st b o e) (fun q => ?_)), F.above⟩ fun p hp => ⟨(N₂ p hp).1, fun q => ?_, ?_⟩
    · simp only [List.filterMap_cons, List.filterMap_nil, List.mem_singleton] at q
      rw [q, nL₀] at e
      cases e
    · have := (N₂ p hp).2.2; rw [q, hs] at this; cases this
    · cases q : h₀.get? p.1 with
      | none => rfl
      | some o =>
        obtain ⟨sl', hs'⟩ := T'.up (st _ _ q)
        have := (N₂ p hp).2.2
        rw [hs'] at this
        cases this
end
end Mine
end
noncomputable section
open PySem PySem.W PyProof.Rows PySem.Spec PySem.Calls
namespace Mine
section
variable {prog : Program} {w : World} {A : Around} {E : Value → Shared → Prop} {s : Shared} {env : Env}
/-- raise of the class ZeroDivisionError itself, its made tuple told -/
theorem raise_Z {x : Str} {np pos : Pos} {Q : Flow → Shared → Prop} (hh : A.handled = none)
    (hx : wpAny (model prog w) A (eval (.Name x np) env) (fun v s₁ => v = .type "ZeroDivisionError" ∧ s₁ = s) E s)
    (h : ∀ h' e, Heap.MadeExc s.heap h' e "ZeroDivisionError" [] → E (.ref e) { s with heap := h' }) :
    wpAny (model prog w) A (exec (.Raise (some (.Name x np)) none pos) env) Q E s := by
  have hself : isSubtype (.type "ZeroDivisionError") (.type "ZeroDivisionError") = pure true := by rw [isSubtype_type]; kernel_rfl
  have hb := excClass_ZeroDivisionError.base
  show wpAny (model prog w) A (do standAt pos; raiseStmt env (some (do let v ← eval (.Name x np) env; standAt pos; pure v)) none) Q E s
  refine wpAny_bind (wpAny_standAt ?_)
  unfold raiseStmt
  dsimp only
  refine wpAny_bind (wpAny_bind (wpAny_mono hx (fun v s₁ h₁ => wpAny_bind (wpAny_standAt (wpAny_pure ?_))) fun _ _ e => e))
  obtain ⟨rfl, rfl⟩ := h₁
  refine wpAny_bind (wpAny_pure ?_)
  dsimp only
  refine wpAny_bind (wpAny_holding ?_)
  unfold excFromValue isExcClass
  refine wpAny_bind (wpAny_bind (wpAny_pure ?_))
  rw [if_pos rfl, hb]
  refine wpAny_pure ?_
  rw [if_pos rfl]
  obtain ⟨hp, gg, dd, tk, os⟩ := s₁
  refine wpAny_bind (wpAny_call_exc PySem.F.excCall_ZeroDivisionError fun h' e hn => ?_)
  obtain ⟨t, he, -⟩ := hn.there
  have hT : ({ heap := h', gens := gg, drawn := dd, toks := tk, os := os } : Shared).TypeIs (.ref e) "ZeroDivisionError" := ⟨_, he, rfl⟩
  refine wpAny_bind (wpAny_isInstance hT hb ?_)
  simp only [Bool.not_true, Bool.false_eq_true, if_false]
  refine wpAny_pure ?_
  refine wpAny_bind (m := isType (.type "ZeroDivisionError")) (wpAny_pure ?_)
  rw [if_pos rfl]
  refine wpAny_bind (wpAny_holding ?_)
  unfold raisedFor
  simp only [Bool.false_eq_true, if_false]
  refine wpAny_bind (wpAny_typeOf hT ?_)
  refine wpAny_bind (call_issubclass (issubclass_self excClass_ZeroDivisionError hself) ?_)
  dsimp only [wants]
  refine wpAny_bind (wpAny_truthy_bool ?_)
  rw [if_pos rfl]
  refine wpAny_pure ?_
  unfold setFlight raiseNew
  refine wpAny_bind (wpAny_bind (wpAny_field (i := 1) (x := Value.none) he rfl rfl ?_))
  rw [if_neg (by decide)]
  refine wpAny_pure (wpAny_bind (wpAny_handled ?_))
  rw [hh]
  exact wpAny_bind (wpAny_pure (wpAny_throw (h h' e hn)))
end
end Mine
end
noncomputable section
open PySem PySem.W PyProof.Rows PySem.Spec PySem.Calls
namespace Mine
set_option genInjectivity false
set_option genSizeOf false
/-- what a def that may catch is told -/
inductive GoodZ (K : PC) (sc : Scope) (lv : Nat) (fs : List Addr) : Prop
  | mk (p : Program) (loose : List Str) (mean : ExcName → Option Value) (mg mb : Str → Option Value) (dp un : Nat) (gd : Option (List Code)) (outer : List Env) (A₀ : Around) (base : Heap) : K.A = ktrTop dp un gd K.cn sc K.L K.a K.ccd K.cl outer → Below A₀ base outer K.g → (hd.heap_39 K.w.params).In K.g → Top p loose mean mg mb K.g → dp + 10 * lv < recursionLimit → un + 100 * lv < cLine → (hd.heap_39 K.w.params).In base → Top p loose mean mg mb base → KtsDicts (outer.filterMap (·.frame)) K.g → 1 ≤ dp → 3 ≤ un → fs = outer.filterMap (·.frame) → GoodZ K sc lv fs
noncomputable def retZ (K : PC) (fs : List Addr) (s0 : Shared) (Rc : Lg → Value → Prop) (fl : Flow) (s' : Shared) : Prop := DoneS fs K.g K.L Rc s0 (match fl with | .ret v => v | _ => .none) s'
local macro_rules | `(tactic| walk_at "exec Raise some none") => `(tactic| (k_here; (with_reducible rename Fr _ _ _ _ => kF); k_dflt (refine' raise_Z ?hh ?hx ?_; (case hh => rfl); (case hx => (refine' name_B kF ?k1 ?k2 ?k3 ?k4 ?k5 ?_; (case k1 => k_asm); (case k2 => k_asm); (case k3 => k_is); (case k4 => boot_by_name); (case k5 => decide); exact ⟨rfl, rfl⟩))); intro h' e' hm'))
local macro_rules | `(tactic| walk_at "eval Name") => `(tactic| (k_here; (with_reducible rename Fr _ _ _ _ => kF); k_dflt (refine' nameX_L kF ?k1 ?_ ?k2 ?k3 ?k4; (case k1 => assumption); (case k2 => rfl); (case k3 => rfl); (case k4 => rfl))))
theorem mc_triZ {f : Addr} {lv : Nat} {vs : List Value} {kw : List (Str × Value)} {P : Lg → Prop} {R : Lg → Lg → Value → Prop} {name qual : Str} {params : Arguments} {body : List Stmt} {scope : Scope} {dV kV doc pm cdv ct oc : Value} {an od : Option Addr} {osl : Array (Option Value)} (binds : List (Str × Value)) (σ : Sg)
    (ho : ∀ P : Params, (hd.heap_39 P).lookup f = some ⟨oc, od, .func (fnOf name qual params body scope dV kV doc pm an cdv ct), osl⟩) (hcd : ∀ P : Params, codeIn (hd.heap_39 P) cdv qual = true)
    (hbind : ∀ (w : World) (s : Shared), (hd.heap_39 w.params).In s.heap → BindsTo s (fnOf name qual params body scope dV kV doc pm an cdv ct) ⟨vs, kw⟩ binds)
    (hnd : (binds.map (·.1)).Nodup) (hloc : ∀ y ∈ binds, scope.names.lookup y.1 = some .local)
    (hco : scope.isCoroutine = false) (hgen : scope.isGenerator = false) (hk : scope.kind = .function) (hcell : ∀ x ∈ scope.names, x.2 ≠ .cell)
    (hσ : ∀ ν, P ν → IsB scope ν binds σ)
    (h : ∀ (K : PC) (ν : Lg) (s : Shared) (fs : List Addr), PGood K scope lv → GoodZ K scope lv fs → P ν → K.cl = [] ∧ K.ow = [] ∧ K.fz = [] ∧ K.fc = [] → Tri K scope s false σ ν body (retZ K fs s (R ν))) : MCz f (lv + 1) vs kw P R := by
  refine mc_defZ binds ho hcd hbind hnd hloc hco hgen hk hcell (Nat.le_add_left 1 lv) ?_
  intro w p loose mean mg mb news dp un gd outer A₀ base g L' s B X T hP hdp hun F N lt XB TB KD h1 h3
  refine h ⟨w, ktrTop dp un gd qual scope L' f cdv [] outer, qual, L', f, cdv, [], [], g, [], []⟩ news s (outer.filterMap (·.frame)) ⟨hk, .nil, fun _ h => h, .nil, fun _ _ h => h, p, loose, mean, mg, mb, dp, un, gd, outer, A₀, base, rfl, B, X, T, room1 hdp, room2 hun⟩ ⟨p, loose, mean, mg, mb, dp, un, gd, outer, A₀, base, rfl, B, X, T, room1 hdp, room2 hun, XB, TB, KD, h1, h3, rfl⟩ hP ⟨rfl, rfl, rfl, rfl⟩ s ⟨_, fun _ => none, ([], []), rfl, F, fun p hp => N p ?_, .nil, .nil, (fun p hp q => (List.not_mem_nil q).elim), ?_, nofun⟩
  · exact (List.mem_append.mp hp).elim id fun hp => (List.not_mem_nil hp).elim
  · refine isB_at (m := ofL binds) (fun n u hb hl => ?_) (fun n u hb hl => ?_) (fun _ h => h) (hσ news hP)
    · exact ofL_mem hnd hb
    · cases (hloc _ hb).symm.trans (isK_of hl).1
theorem pw_ok {a k n : Nat} (ha : a < 2 ^ k) (hk : k * n ≤ 2 ^ 27) : (0 : Int) ≤ (n : Int) ∧ (Builtin.Int.intBits (a : Int) : Int) * (n : Int) ≤ 2 ^ 27 :=
  ⟨Int.natCast_nonneg n, Int.natCast_mul _ n ▸ (Int.ofNat_le.mpr (Nat.le_trans (Nat.mul_le_mul_right n (bits_le ha)) hk))⟩
theorem pw_i (a n : Nat) : (a : Int) ^ (n : Int).toNat = ((a ^ n : Nat) : Int) := (Int.natCast_pow a n).symm
theorem half_i {n h : Nat} (hh : h = n / 2 + 1) : (n : Int).fdiv 2 + 1 = (h : Int) := by
  subst hh
  exact congrArg (· + 1) (dm_n n 2).1
theorem rng18 : ∀ h : Nat, h < 19 → Builtin.Range.small 1 ((h : Int) + 1) 1 = true ∧ Builtin.Range.rangeSize 1 ((h : Int) + 1) 1 = ((h : Nat) : Int) := by decide
theorem turn_ok {B A e E w : Nat} {x : Int} (hx : x = (e : Int)) (hB : B < 2 ^ (w + 1)) (hk : B ^ e < 2 ^ E ∧ (w + 1) * e ≤ 2 ^ 27) (h0 : 0 < B ^ e) (hA : A < 2 ^ E) (hE : E ≤ 1000000) : (0 ≤ x ∧ (Builtin.Int.intBits (B : Int) : Int) * x ≤ 2 ^ 27) ∧ IntMulOk (A : Int) ((B : Int) ^ x.toNat - 1) ∧ (A : Int) * ((B : Int) ^ x.toNat - 1) = ((A * (B ^ e - 1) : Nat) : Int) := by
  subst hx
  have e1 : (B : Int) ^ (e : Int).toNat - 1 = ((B ^ e - 1 : Nat) : Int) := by rw [pw_i, Int.natCast_sub h0]; rfl
  rw [e1]
  exact ⟨pw_ok hB hk.2, mulOk_of_bits (bits_le hA) (bits_le (Nat.lt_of_le_of_lt (Nat.sub_le _ _) hk.1)) (Nat.le_trans (Nat.add_le_add hE hE) (by decide)), (Int.natCast_mul _ _).symm⟩
theorem one_bits {x : Int} (h : x = 1 ∨ x = -1) : x.natAbs < 2 ^ 64 := by rcases h with rfl | rfl <;> decide
theorem exps (i : Nat) : 2 * (1 + (i : Int)) = ((2 * (1 + i) : Nat) : Int) ∧ 2 * (1 + (i : Int)) - 1 = ((2 * (1 + i) - 1 : Nat) : Int) := by lia
theorem exp_le {h i : Nat} (hi : i < h) : 2 * (1 + i) ≤ 2 * h := by lia
/-- what stands in a frame of a def that may catch -/
theorem GoodZ.el {K : PC} {sc : Scope} {lv : Nat} {fs : List Addr} {P : Prop} (G : GoodZ K sc lv fs) (k : ∀ (p : Program) (loose : List Str) (mean : ExcName → Option Value) (mg mb : Str → Option Value) (dp un : Nat) (gd : Option (List Code)) (outer : List Env) (A₀ : Around) (base : Heap), K.A = ktrTop dp un gd K.cn sc K.L K.a K.ccd K.cl outer → Below A₀ base outer K.g → (hd.heap_39 K.w.params).In K.g → Top p loose mean mg mb K.g → dp + 10 * lv < recursionLimit → un + 100 * lv < cLine → (hd.heap_39 K.w.params).In base → Top p loose mean mg mb base → KtsDicts (outer.filterMap (·.frame)) K.g → 1 ≤ dp → 3 ≤ un → fs = outer.filterMap (·.frame) → P) : P := by
  obtain ⟨p, loose, mean, mg, mb, dp, un, gd, outer, A₀, base, a, b, c, d, e, f, g, h, i, j, l, m⟩ := G
  exact k p loose mean mg mb dp un gd outer A₀ base a b c d e f g h i j l m
noncomputable def divT : Arguments × List Stmt × Scope := (PySem.Challenge.rw_uk0013_01.row.prog.theDef (Str.ofString "_law_divided")).getD (⟨[], [], none, [], [], none, []⟩, [], { kind := .function, names := [], isGenerator := false, isCoroutine := false })
noncomputable abbrev divSc : Scope := { kind := .function, names := [((Str.ofString "n"), .local), ((Str.ofString "width"), .local), ((Str.ofString "side"), .local), ((Str.ofString "turn"), .local), ((Str.ofString "half"), .local), ((Str.ofString "base"), .local), ((Str.ofString "above"), .local), ((Str.ofString "below"), .local), ((Str.ofString "k"), .local), ((Str.ofString "quotient"), .local), ((Str.ofString "rest"), .local), ((Str.ofString "range"), .globalImplicit), ((Str.ofString "int_divmod"), .globalImplicit), ((Str.ofString "ZeroDivisionError"), .globalImplicit)], isGenerator := false, isCoroutine := false }
/-- try: .. except ZeroDivisionError: .. -/
theorem divided_tail {w : World} {p : Program} {loose : List Str} {mean : ExcName → Option Value} {mg mb : Str → Option Value} {dp un : Nat} {gd : Option (List Code)} {outer : List Env} {A₀ : Around} {base g : Heap} {L a : Addr} {ccd : Value} {cn : Str} {m : Str → Option Value} {s : Shared} {ν1 : Lg} {X V side turn : Int} {t1 t2 t3 t4 : Tok} {Φ : Value → Shared → Prop}
    (B : Below A₀ base outer g) (hX : (hd.heap_39 w.params).In g) (T : Top p loose mean mg mb g) (hdp : dp + 10 * 18 < recursionLimit) (hun : un + 100 * 18 < cLine) (XB : (hd.heap_39 w.params).In base) (TB : Top p loose mean mg mb base) (hKD : KtsDicts (outer.filterMap (·.frame)) g) (hdp1 : 1 ≤ dp) (hun3 : 3 ≤ un)
    (hF : Fr g L s.heap m) (hN : News g L s.heap ν1) (l1 : m (Str.ofString "above") = some (.int V t1)) (l2 : m (Str.ofString "quotient") = some (.int X t2)) (l3 : m (Str.ofString "side") = some (.int side t3)) (l4 : m (Str.ofString "turn") = some (.int turn t4))
    (fin : ∀ (g' h' : Heap) tk m' big Z t, KtsTurn (outer.filterMap (·.frame)) g g' → Fr g' L h' m' → News g' L h' big → (∀ p ∈ ν1, p ∈ big) → Z = (if side = turn then X else -1 - X) → Φ (.int Z t) { s with heap := h', toks := tk }) :
    wpAny (PM w) (ktrTop dp un gd cn divSc L a ccd [] outer) (execs (divT.2.1.drop 6) (envOf cn divSc L a ccd)) (fun fl s' => Φ (match fl with | .ret v => v | _ => .none) s') (fun _ _ => False) s := by
  have hk : PySem.Challenge.rw_uk0013_01 = PySem.Challenge.rw_uk0013_01 := rfl
  revert hk
  k_fill
  intro _
  show wpAny _ _ (execs [_] _) _ _ _
  k_steps
  refine wpAny_call ?_
  refine' code_def ?k1 ?k2 ?k3 ?k4 ?k5 ?kA ?kF ?kK ?k6 ?k7 ?k8 ?k9 ?kB ?_ ?c2 ?c3 ?c4 ?c5
  case kA => exact rfl
  case kF => exact rfl
  case kK => exact rfl
  case k1 => k_asm
  case k2 => k_asm
  case k3 => k_asm
  case k4 => k_asm
  case k5 => k_asm
  case k6 => k_is
  case k7 => k_is
  case k8 => ktr_room
  case k9 => exact BindsTo.of_eq rfl
  case c5 => decide
  case kB => exact locs rfl
  case c2 => exact rfl
  case c3 => exact rfl
  case c4 => exact rfl
  intro g' L' h' FG' F' N' B' X' T'
  try dsimp only
  try k_lift B'
  try k_fold
  have T0 : KtsTurn (outer.filterMap (·.frame)) g g := KtsTurn.refl
  k_steps
  rename RaisedS _ _ _ _ _ _ _ _ _ => hRS
  rename Heap.UpToSlots _ _ => hUS
  obtain ⟨dp', rfl⟩ : ∃ d, dp = d + 1 := ⟨dp - 1, by lia⟩
  obtain ⟨un', rfl⟩ : ∃ u, un = u + 3 := ⟨un - 3, by lia⟩
  refine caught_S0 (A₀ := { handled := none, depth := dp', frames := some outer, guards := gd, units := un' }) (T' := "ZeroDivisionError") hRS FG' ⟨rfl, B.stays, B.frames⟩ hUS XB TB (by assumption) T0 (by k_is) PyProof.Rows.Boot.«ZeroDivisionError» (by decide) PySem.F.isExc_ZeroDivisionError PySem.F.notTuple_ZeroDivisionError (by kts_sub) ?_
  intro h6 g6 n6 T6 F6 N6 G6 N7 K6 X6 P6 D6
  clear hRS hUS FG' N' B' X' T'
  k_steps
  · rename side = turn => hst
    exact fin g6 h6 _ m ν1 _ _ T6 (by assumption) N7 (fun _ h => h) (if_pos hst).symm
  · rename side ≠ turn => hst
    exact fin g6 h6 _ m ν1 _ _ T6 (by assumption) N7 (fun _ h => h) (if_neg hst).symm
theorem divided_spec' (n wd h : Nat) (side turn : Int) (hh : h = n / 2 + 1) (hn : n ≤ 35) (hw : 8 ≤ wd) (hwh : wd * h ≤ 3000) (hr : 0 < (aN (2 ^ wd) h h + bN (2 ^ wd) h / 2) % bN (2 ^ wd) h) (hqq : 0 < (aN (2 ^ wd) h h + bN (2 ^ wd) h / 2) / bN (2 ^ wd) h) (hs : side = 1 ∨ side = -1) (ht : turn = 1 ∨ turn = -1) : ∀ ν0 us, IsL ν0 (.p (.i n) (.p (.i wd) (i2c side turn))) us → MCz 180 19 us [] (fun n => (∀ p ∈ ν0, p ∈ n) ∧ Tabs n) (GrB (.i ((aN (2 ^ wd) h h + bN (2 ^ wd) h / 2) / bN (2 ^ wd) h : Nat))) := by
  intro ν0 us hu
  refine IsL.e4 hu fun u1 u2 u3 u4 i1 i2 i3 i4 => ?_
  unfold MCz
  k_fill
  k_dflt refine' mc_triZ (lv := 18) [((Str.ofString "n"), u1), ((Str.ofString "width"), u2), ((Str.ofString "side"), u3), ((Str.ofString "turn"), u4)] [((Str.ofString "n"), (.i n)), ((Str.ofString "width"), (.i wd)), ((Str.ofString "side"), (.i side)), ((Str.ofString "turn"), (.i turn))] (fun P => ?ho) (fun P => ?hcd) (fun w s X => ?hb) ?hnd ?hkd ?h1 ?h2 ?h3 ?hc0 (fun ν hν => ?hs) (fun K ν s9 fs G GZ hν hq => ?body)
  case ho => k_dflt k_is
  case hcd => k_dflt k_is
  case hb => exact BindsTo.of_eq rfl
  case hnd => exact (by decide : (["n", "width", "side", "turn"].map Str.ofString).Nodup)
  case hkd => exact locs rfl
  case hc0 => decide
  case h1 => rfl
  case h2 => rfl
  case h3 => rfl
  case hs => exact ⟨rfl, .inl rfl, Is.mono hν.1 i1, rfl, .inl rfl, Is.mono hν.1 i2, rfl, .inl rfl, Is.mono hν.1 i3, rfl, .inl rfl, Is.mono hν.1 i4, trivial⟩
  have htb := hν.2
  clear hν
  have hh18 : h ≤ 18 := by lia
  have hwd : wd ≤ 3000 := Nat.le_trans (Nat.le_mul_of_pos_right wd (hh ▸ Nat.succ_pos _)) hwh
  have hbase : 2 ^ wd < 2 ^ (wd + 1) := Nat.pow_lt_pow_right (by decide) (Nat.lt_succ_self wd)
  refine tri_swap2 G .nil rfl ⟨by decide, by decide, (pw_ok (a := 2) (k := 2) (n := wd) (by decide) (Nat.le_trans (Nat.mul_le_mul_left 2 hwd) (by decide))).1, (pw_ok (a := 2) (k := 2) (n := wd) (by decide) (Nat.le_trans (Nat.mul_le_mul_left 2 hwd) (by decide))).2, trivial⟩ (tri_val2 (congrArg SV.i (half_i hh)) (congrArg SV.i (pw_i 2 wd)) ?_)
  obtain ⟨E0, -, -, -, hpw⟩ := big20 (i := 0) hwh hh18 (Nat.zero_le _)
  refine tri_swap2 G .nil rfl ⟨(pw_ok hbase (hpw h (by lia)).2).1, (pw_ok hbase (hpw h (by lia)).2).2, trivial⟩ (tri_val2 (congrArg SV.i (pw_i (2 ^ wd) h)) rfl ?_)
  refine tri_forN (n := h) (fun i => [((Str.ofString "base"), .i (2 ^ wd : Nat)), ((Str.ofString "above"), .i (aN (2 ^ wd) h i : Nat)), ((Str.ofString "below"), .i (bN (2 ^ wd) i : Nat)), ((Str.ofString "side"), .i side), ((Str.ofString "turn"), .i turn)]) G (src_range G.env (ev_of G .nil) G (by rfl) (by trivial) (by rfl) (by exact (rng18 h (Nat.lt_succ_of_le hh18)).1) (by exact (rng18 h (Nat.lt_succ_of_le hh18)).2) (val := fun i => 1 + i) (fun i => congrArg _ (Int.mul_one _))) (AllSub.of rfl) (fun ν1 hν X kl G hl i hi => ?_) fun ν2 hν => ?_
  · subst hν
    obtain ⟨E, hE, ka, kb, kp⟩ := big20 (i := i) hwh hh18 (Nat.le_of_lt hi)
    obtain ⟨x1, x2⟩ := exps i
    obtain ⟨⟨a1, a2⟩, a3, a4⟩ := turn_ok x1 hbase (kp _ (exp_le hi)) (Nat.pow_pos (Nat.two_pow_pos wd)) ka hE
    obtain ⟨⟨b1, b2⟩, b3, b4⟩ := turn_ok x2 hbase (kp _ (Nat.le_trans (Nat.sub_le _ _) (exp_le hi))) (Nat.pow_pos (Nat.two_pow_pos wd)) kb hE
    refine tri_asg G .nil rfl ⟨mul_l (by decide), a1, a2, a3, trivial⟩ (tri_val (congrArg SV.i a4) ?_)
    refine tri_asg G .nil rfl ⟨mul_l (by decide), b1, b2, b3, trivial⟩ (tri_val (congrArg SV.i b4) ?_)
    exact tri_fends hl (AllSub.of rfl)
  · subst hν
    have hA1 := aa_one (Nat.le_trans (by decide) hw) hqq hr
    have hD' := bN_pos (wd := wd) (Nat.le_trans (by decide) hw) h
    have hnn := fun n => bn_bits (n := n) hh18 hwh (Nat.le_trans (by decide) hw)
    have hAl : ∀ n, Builtin.Int.intBits ((bN (2 ^ wd) h : Nat) : Int) = n → aN (2 ^ wd) h h + bN (2 ^ wd) h / 2 < 2 ^ (60 * n) := fun n e => aa_lt (hh ▸ Nat.succ_pos _) hw (bits_b hD' e).2.2
    refine tri_asg G .nil rfl ⟨by decide, by decide, mul_l (one_bits hs), trivial⟩ (tri_val (congrArg (fun t => SV.i (side * t)) (congrArg (_ + ·) (dm_n _ 2).1)) ?_)
    rw [← Int.natCast_add]
    generalize aN (2 ^ wd) h h + bN (2 ^ wd) h / 2 = AA at *
    generalize bN (2 ^ wd) h = DD at *
    obtain ⟨X, R, hX1, hR1, f1, f2, f3, f4, f5⟩ := div_facts (side := side) (turn := turn) hr hD' hs ht
    have C := id_all' hA1 hD' rfl (hnn _ rfl) (hAl _ rfl) hr hs ht
    rw [← hX1, ← hR1] at C
    refine tri_unpX G (ex_callB G .nil htb at_109 is_109 (by decide) rfl ⟨mul_l (one_bits ht), trivial⟩ C) rfl fun ν1 g1 => ?_
    have hXb : Builtin.Int.intBits X ≤ 60 * Builtin.Int.intBits (DD : Int) + 1 := intBits_le_iff.mpr (by rw [Nat.pow_succ]; exact Nat.lt_of_le_of_lt f5 (by have := hAl _ rfl; lia))
    have hm := mulOk_of_bits (bits_mul hXb (intBits_le (one_bits ht))) (Nat.le_refl (Builtin.Int.intBits (DD : Int))) (by have := hnn _ rfl; lia)
    have e1 : (X * turn * (DD : Int) + R != side * (AA : Int)) = false := by rw [f1, bne_self_eq_false]
    have e2 : decide (turn * R ≤ 0) = false := decide_eq_false (Int.not_le.mpr f2)
    have e3 : decide ((DD : Int) ≤ turn * R) = false := decide_eq_false (Int.not_le.mpr f3)
    refine tri_if G .nil rfl ⟨.of_right (intBits_le (one_bits ht)), hm, fun _ => ⟨mul_l (one_bits ht), fun _ => ⟨mul_l (one_bits ht), trivial⟩, trivial⟩, trivial⟩ (fun h => ?_) fun _ => tri_next ?_
    · rw [e1, e2, e3] at h
      cases h
    · intro s hs
      refine PAt.el hs fun m cm κ Y => ?_
      obtain ⟨_, l1, t1, rfl⟩ := Y.locl (x := (Str.ofString "above")) rfl rfl rfl
      obtain ⟨_, l2, t2, rfl⟩ := Y.locl (x := (Str.ofString "quotient")) rfl rfl rfl
      obtain ⟨_, l3, t3, rfl⟩ := Y.locl (x := (Str.ofString "side")) rfl rfl rfl
      obtain ⟨_, l4, t4, rfl⟩ := Y.locl (x := (Str.ofString "turn")) rfl rfl rfl
      refine GZ.el fun p loose mean mg mb dp un gd outer A₀ base eA B hX T hdp hun XB TB hKD hdp1 hun3 hfs => ?_
      unfold PC.env
      rw [eA, hq.1]
      refine divided_tail (Φ := DoneS fs K.g K.L (GrB (.i (AA / DD : Nat)) ν2) s9) B hX T hdp hun XB TB hKD hdp1 hun3 Y.F (fun p hp => Y.N p (List.mem_append_left _ hp)) l1 l2 l3 l4 fun g' h' tk m' big Z t T F N hb hz => ?_
      rw [Y.e, hfs]
      exact .of T F N hb ⟨g1, [], (fun _ h => (List.not_mem_nil h).elim), t, by rw [hz, f4]⟩
end Mine
end
noncomputable section
open PySem PySem.W PyProof.Rows PySem.Spec PySem.Calls
namespace Mine
set_option genInjectivity false
set_option genSizeOf false
open PyProof.Rows.LCg (NsObj ns_obj lst lst_snoc)
/-! list comprehensions -/
noncomputable def chainOf : List SV → SV
  | [] => .nl
  | x :: r => .p x (chainOf r)
/-- what is known of a name in a comprehension -/
noncomputable def KnC (K : PC) (sc : Scope) (σ : Sg) (rs : Scope) (cl : List (Str × Addr)) (mC : Str → Option Value) (ν : Lg) (x : Str) (sv : SV) : Prop :=
  (isLoc rs x = true ∧ ∃ u, mC x = some u ∧ Is ν sv u) ∨ (isCel rs x = true ∧ isCel sc x = true ∧ σ.lookup x = some sv ∧ ∃ c, K.ow.lookup x = some c ∧ cl.lookup x = some c) ∨ (isGlo rs x = true ∧ ∃ u, (∀ P, nsIn (hd.heap_39 P) mainGlobals x = some (some u)) ∧ Is ν sv u)
noncomputable def CAt (K : PC) (sc : Scope) (ν : Lg) (s0 : Shared) (σ : Sg) (X : Lg) (rs : Scope) (cl : List (Str × Addr)) (C : Addr) (z : Bool) (σc : Sg) (s : Shared) : Prop := ∃ oC mC, NsObj oC mC ∧ (∀ x sv, σc.lookup x = some sv → KnC K sc σ rs cl mC ν x sv) ∧ PAt (K.frs ((C, oC) :: X)) sc ν s0 σ z s
/-- a target, and what is known when it is set -/
noncomputable def TgtOK (ok : Str → Bool) (target : Expr) (own : Bool) (it : SV) (σ0 σt : Sg) : Prop := (own = false ∧ ∃ y py, target = .Name y py ∧ ok y = true ∧ σt = (y, it) :: σ0) ∨ ∃ es k tp c, target = .Tuple es k tp ∧ it = .t c ∧ NamesIn ok es c σ0 = some σt
/-- what was made up to a turn -/
noncomputable def outsUp (b : Nat → Bool) (out : Nat → SV) : Nat → List SV
  | 0 => []
  | n + 1 => outsUp b out n ++ if b n = true then [out n] else []
/-- where a comprehension stands -/
inductive CI (K : PC) (sc : Scope) (s0 : Shared) (σ : Sg) (ν0 : Lg) (St : Nat → Lg → Prop) (b : Nat → Bool) (out : Nat → SV) (C D : Addr) (n k : Nat) (s' : Shared) : Prop
  | mk (i : Nat) (X : Lg) (ys : List Value) (oC : Obj) (mC m cm : Str → Option Value) (κ : Lg × Lg) (ν : Lg) : i ≤ n → k + i = n + 1 → St i X → NsObj oC mC → (∀ p ∈ ν0, p ∈ ν) → IsL ν (chainOf (outsUp b out i)) ys → PAtD ((K.wz ((C, oC) :: (D, lst ys) :: K.fz)).frs X) sc ν s0 σ false s' m cm κ → CI K sc s0 σ ν0 St b out C D n k s'
section
variable {K : PC} {sc : Scope} {lv : Nat} {ν ν' : Lg} {s0 : Shared} {σ σ' σ0 σc : Sg} {z z' : Bool} {s : Shared} {Φ : Ora} {R : Flow → Shared → Prop} {rest body : List Stmt} {E Q : Value → Shared → Prop} {x sv : SV} {us : List Value} {m cm mC : Str → Option Value} {κ : Lg × Lg} {X X' q q' : Lg} {h' : Heap} {oC : Obj} {C : Addr}
variable {env : Env} {target iter elt : Expr} {ifs : List Expr} {own : Bool} {n : Nat} {item : Nat → SV} {kl : Lg} {scope : Scope} {cl : List (Str × Addr)} {S : Lg → Prop}
theorem chain_snoc {a : SV} {u : Value} (ha : Is ν a u) : ∀ {l : List SV} {us : List Value}, IsL ν (chainOf l) us → IsL ν (chainOf (l ++ [a])) (us ++ [u])
  | [], us, h => by cases h; exact ⟨u, [], rfl, ha, rfl⟩
  | x :: r, us, h => by obtain ⟨v, vr, e, h1, h2⟩ := h; subst e; exact ⟨v, vr ++ [u], rfl, h1, chain_snoc ha (l := r) h2⟩
theorem chain_li : ∀ {l : List Int} {us : List Value}, IsL ν (chainOf (l.map SV.i)) us → IntsL l us
  | [], _, h => h
  | _ :: r, _, h => by obtain ⟨v, vr, e, ⟨t, h1⟩, h2⟩ := h; subst h1; exact ⟨t, vr, e, chain_li (l := r) h2⟩
theorem PAtD.perm (h : PAtD (K.wz q) sc ν s0 σ z s m cm κ) (p : q.Perm q') : PAtD (K.wz q') sc ν s0 σ z s m cm κ :=
  have pa : ((K.wz q).ha κ).Perm ((K.wz q').ha κ) := ((p.map _).append_left _).append_left _
  ⟨h.e, h.F, fun a ha => h.N a ((((p.append_left _).append_left _).append_left _).mem_iff.mpr ha), h.Y, pa.nodup_iff.mp h.M, fun a ha hq => h.O a ha (pa.mem_iff.mpr hq), fun x sv hx => (h.a x sv hx).mono' rfl rfl fun _ h => h, h.b⟩
/-- what was hidden is seen -/
theorem PAtD.shown {p : Addr × Obj} (h : PAtD (K.frs [p]) sc ν s0 σ z s m cm κ) : PAtD K sc (p :: ν) s0 σ z s m cm κ :=
  have nd := List.nodup_cons.mp h.nodupX
  ⟨h.e, h.F, fun a ha => (List.mem_cons.mp ha).elim (fun e => e ▸ h.atX (.head _)) fun ha => h.N a ((List.mem_append.mp ha).elim (List.mem_append_left _) fun ha => List.mem_append_right _ (hl_frs.mem_iff.mpr (.tail _ ha))), h.Y, nd.2, fun a ha hq => (List.mem_cons.mp ha).elim (fun e => nd.1 (e ▸ hq)) fun ha => h.O a ha (ha_frs.mem_iff.mpr (.tail _ hq)), fun x sv hx => (h.a x sv hx).mono' rfl rfl fun _ => Is.mono fun _ => .tail _, h.b⟩
theorem EnvOK.comp (H : EnvOK env) (hk : scope.kind = .function) : EnvOK (compEnvC scope cl C env) := ⟨H.g, H.b, hk⟩
theorem PAtD.sameBut {c : Addr} {o o' : Obj} (h : PAtD (K.frs ((c, o) :: X)) sc ν s0 σ z s m cm κ) (tk : Nat) (hs : Heap.SameBut c s.heap h') (e : h'.get? c = some o') : PAtD (K.frs ((c, o') :: X)) sc ν s0 σ false { s with heap := h', toks := tk } m cm κ :=
  h.swap tk (fun b ob hb eb => (hs.2 b fun e => hb (e ▸ .head _)).trans eb) rfl fun p hp => by
    refine mem_c hp ?_ fun hp => ?_
    · exact e
    · exact (hs.2 _ fun e => (List.nodup_cons.mp (List.nodup_append.mp h.nodupX).1).1 (e ▸ List.mem_map_of_mem (f := (·.1)) hp)).trans (h.atX (.tail _ hp)).1
theorem stores_c (hk : scope.kind = .function) : Stores K (compEnvC scope cl C env) ν (isLoc (relabel scope env)) (CAt K sc ν s0 σ X (relabel scope env) cl C) where
  weak := fun ⟨oC, mC, h1, h2, h3⟩ => ⟨oC, mC, h1, h2, h3.weak⟩
  grow := fun ⟨oC, mC, h1, h2, h3⟩ hk => ⟨oC, mC, h1, h2, h3.grow hk⟩
  set := by
    rintro x sv u z σc s Q E hx ⟨oC, mC, h1, h2, m, cm, κ, D⟩ hu h
    refine wpAny_storeName_local (isK_of hx).1 (h1.ns (D.atX (.head _)).1) (fun h' hn hs => ?_) (by show (scope.kind == _ || (scope.kind == _ && _)) = false; rw [hk]; rfl)
    obtain ⟨oC', e', h1'⟩ := ns_obj hn
    refine h _ ⟨oC', _, h1', fun y sw hy => lk_set (P := KnC K sc σ (relabel scope env) cl _ ν y) hy (fun q => .inl ⟨q ▸ hx, u, if_pos q, hu⟩) fun q hy => ?_, m, cm, κ, { D.sameBut (s.toks + 1) hs e' with b := fun _ => Nat.succ_ne_zero _ }⟩
    exact (h2 y sw hy).imp (fun ⟨a, u, b, c⟩ => ⟨a, u, (if_neg q).trans b, c⟩) fun h => h
/-- callees in a comprehension -/
noncomputable def OraC (K : PC) (sc : Scope) (env : Env) (scope : Scope) (cl : List (Str × Addr)) (Φ : Ora) : Prop := ∀ f φ, Φ.lookup f = some φ → ∀ C ν At σc, View K sc ν At → CalE K.w K.A (compEnvC scope cl C env) ν At f (φ σc)
theorem OraC.nil : OraC K sc env scope cl [] := fun _ _ h => nomatch h
theorem OraC.cons {f : Str} {φ : SV → R2} (h : ∀ C ν At, View K sc ν At → CalE K.w K.A (compEnvC scope cl C env) ν At f φ) (O : OraC K sc env scope cl Φ) : OraC K sc env scope cl ((f, fun _ => φ) :: Φ) := fun g ψ hg => lk_set (P := fun ψ => ∀ C ν At σc, View K sc ν At → CalE K.w K.A (compEnvC scope cl C env) ν At g (ψ σc)) hg (fun e => e ▸ fun C ν At _ V => h C ν At V) fun _ hg => O g ψ hg
theorem PGood.okz (G : PGood (K.frs X) sc lv) : K.okz (X ++ K.fz) := ⟨G.nd, G.fcz⟩
theorem ev_c (H : EnvOK env) (hk : scope.kind = .function) (G : PGood (K.frs ((C, oC) :: X)) sc lv) (h1 : NsObj oC mC) (h2 : ∀ x sv, σc.lookup x = some sv → KnC K sc σ (relabel scope env) cl mC ν x sv) (O : OraC K sc env scope cl Φ) : EV K.w K.A (compEnvC scope cl C env) ν (PAt (K.frs ((C, oC) :: X)) sc ν s0 σ) σc Φ where
  han := G.han
  weak := PAt.weak
  tick := PAt.tick
  tok := fun tk h => h.tok tk false nofun
  nz := fun ⟨_, _, _, h⟩ => h.b rfl
  new h hp := PAt.new h hp
  loc hl hM hs h := by
    refine PAt.el hs fun m cm κ D => ?_
    rcases h2 _ _ hl with ⟨hx, u, hm, hu⟩ | ⟨hx, hc, hs, c, hw, hcl⟩ | ⟨hx, u, hm, hu⟩
    · exact wpAny_Name (wpAny_loadName_local hk (isK_of hx).1 (h1.ns (D.atX (.head _)).1) hm (h u hu)) (isK_of hx).2
    · obtain ⟨o, u, hh, hd, hu, -⟩ := D.cell hc hs hM hw
      exact wpAny_Name (wpAny_loadName_cell hk (isK_of hx).1 hcl ⟨o, (D.N _ (List.mem_append_right _ hh)).1, hd⟩ (h u hu)) (isK_of hx).2
    · exact name_glob (H.comp hk) G hx hm ⟨m, cm, κ, D⟩ (h u hu)
  cal h := O _ _ h C ν _ _ (view_at G.okz)
/-- an element of a comprehension -/
noncomputable def EltOK (K : PC) (sc : Scope) (lv : Nat) (env : Env) (scope : Scope) (cl : List (Str × Addr)) (ν : Lg) (s0 : Shared) (σ : Sg) (elt : Expr) (σc : Sg) (sv : SV) : Prop := ∀ C oC mC X s (E Q : Value → Shared → Prop), PGood (K.frs ((C, oC) :: X)) sc lv → NsObj oC mC → (∀ x sv, σc.lookup x = some sv → KnC K sc σ (relabel scope env) cl mC ν x sv) → PAt (K.frs ((C, oC) :: X)) sc ν s0 σ false s →
  (∀ u ν' s', (∀ p ∈ ν, p ∈ ν') → PAt (K.frs ((C, oC) :: X)) sc ν' s0 σ false s' → Is ν' sv u → Q u s') → wpAny (PM K.w) K.A (eval elt (compEnvC scope cl C env)) Q E s
theorem elt_ev (H : EnvOK env) (hk : scope.kind = .function) (O : OraC K sc env scope cl Φ) {c : List Prop} (he : ev Φ σc false elt = some (sv, z', c)) (hc : All c) : EltOK K sc lv env scope cl ν s0 σ elt σc sv := fun _ _ _ _ _ _ _ G h1 h2 hs h => ev_ok (ev_c H hk G h1 h2 O) he hc hs fun u s' hs' hu => h u _ s' (fun _ h => h) hs'.weak hu
noncomputable abbrev allIfs (ifs : List Expr) (ce : Env) : Sem Bool := forIn ifs true fun c r => if r = true then do let ok ← isTrue c ce (eval c ce); pure (ForInStep.yield ok) else pure (ForInStep.yield r)
/-- the tests of a comprehension -/
noncomputable def IfsOK (K : PC) (sc : Scope) (lv : Nat) (env : Env) (scope : Scope) (cl : List (Str × Addr)) (ν : Lg) (s0 : Shared) (σ : Sg) (ifs : List Expr) (σc : Sg) (b : Bool) : Prop := ∀ C oC mC X s (E : Value → Shared → Prop) (Q : Bool → Shared → Prop), PGood (K.frs ((C, oC) :: X)) sc lv → NsObj oC mC → (∀ x sv, σc.lookup x = some sv → KnC K sc σ (relabel scope env) cl mC ν x sv) → PAt (K.frs ((C, oC) :: X)) sc ν s0 σ false s →
  (∀ s', PAt (K.frs ((C, oC) :: X)) sc ν s0 σ false s' → Q b s') → wpAny (PM K.w) K.A (allIfs ifs (compEnvC scope cl C env)) Q E s
theorem ifs_nil : IfsOK K sc lv env scope cl ν s0 σ [] σc true := fun _ _ _ _ _ _ _ _ _ _ hs h => wpAny_pure (h _ hs)
theorem ifs_one (H : EnvOK env) (hk : scope.kind = .function) (O : OraC K sc env scope cl Φ) {e : Expr} {b : Bool} {c : List Prop} (he : ts Φ σc false e = some (b, z', c)) (hc : All c) : IfsOK K sc lv env scope cl ν s0 σ [e] σc b := fun _ _ _ _ _ _ _ G h1 h2 hs h => by
  unfold allIfs
  rw [List.forIn_cons]
  refine wpAny_bind (wpAny_bind (ts_ok (ev_c H hk G h1 h2 O) he hc hs fun s' hs' => wpAny_pure ?_))
  exact wpAny_pure (h _ hs'.weak)
theorem cloopU {prog : Program} {w : World} {A : Around} {elt target iter : Expr} {ifs : List Expr} {scope : Scope} {pos : Pos} {it acc : Value} {cenv : Env} {R : Result → Shared → Prop} (I : Nat → Shared → Prop)
    (turn : ∀ n s, I n s → wpAny (model prog w) A (pyNext it) (fun r s₁ => match r with
      | none => R (.ok .next) s₁
      | some v => wpAny (model prog w) A (letOwnedTupleGo target it v) (fun _ s₁' => wpAny (model prog w) A (assign target cenv v) (fun _ s₂ =>
          wpAny (model prog w) A (forIn ifs true fun c r => if r = true then do let ok ← isTrue c cenv (eval c cenv); pure (ForInStep.yield ok) else pure (ForInStep.yield r)) (fun ok s₃ =>
            if ok = true then wpAny (model prog w) A (eval elt cenv) (fun x s₄ =>
              wpAny (model prog w) A (call (.builtin "list.append") [acc, x]) (fun _ s₅ => ∃ m, m < n ∧ I m s₅) (fun _ _ => False) s₄) (fun _ _ => False) s₃
            else ∃ m, m < n ∧ I m s₃) (fun _ _ => False) s₂) (fun _ _ => False) s₁') (fun _ _ => False) s₁) (fun _ _ => False) s)
    (n : Nat) (h : I n s) : codeAny (model prog w) A (.compLoop (.ListComp elt [⟨target, iter, ifs, 0⟩] scope pos) 0 it acc cenv) R s := by
  have nx : ∀ (a : Value) (b : Shared), False → notedBy (model prog w) A cenv (fun e s' => R (.error e) s') a b := fun _ _ z => z.elim
  refine codeAny_loop rfl I (fun n s hI => ?_) n h
  show wpAny _ A ((compTurn (.ListComp elt [⟨target, iter, ifs, 0⟩] scope pos) 0 it acc cenv).onRaise (fun x => do noteFrame x cenv; theTreesLotGoes x)) _ _ s
  refine wpAny_noted ?_
  rw [compTurn_list]
  refine wpAny_bind (wpAny_standAt (wpAny_bind (wpAny_mono (turn n s hI) (fun r s₁ h₁ => ?_) nx)))
  cases r with
  | none => exact wpAny_pure h₁
  | some v =>
    refine wpAny_bind (wpAny_mono h₁ (fun _ s₁' h₁' => wpAny_bind (wpAny_mono h₁' (fun _ s₂ h₂ => wpAny_bind (wpAny_mono h₂ (fun ok s₃ h₃ => ?_) nx)) nx)) nx)
    cases ok with
    | false => exact wpAny_pure ⟨rfl, h₃⟩
    | true => exact wpAny_bind (wpAny_bind (wpAny_mono h₃ (fun x s₄ h₄ => wpAny_bind (wpAny_mono h₄ (fun _ s₅ h₅ => wpAny_pure (wpAny_pure ⟨rfl, h₅⟩)) nx)) nx))
theorem tgt_ok {At : Bool → Sg → Shared → Prop} {v : Value} {it : SV} {Q : Unit → Shared → Prop} {ok : Str → Bool} (St : Stores K env ν ok At) (hA : K.A.handled = none) (hn : ∀ p ∈ ν, s.heap.get? p.1 = some p.2) (T : TgtOK ok target own it σ0 σ') (hs : At z σ0 s) (hv : ItemAt own ν s it v) (h : ∀ s', At false σ' s' → Q () s') : wpAny (PM K.w) K.A (assign target env v) Q E s := by
  rcases T with ⟨rfl, y, py, rfl, hy, rfl⟩ | ⟨es, k, tp, c, rfl, rfl, hN⟩
  · exact assign_Name (St.set hy hs hv fun s' h' => h s' (St.weak h'))
  · cases own with
    | false => obtain ⟨q, us, rfl, hm, hu⟩ := hv; exact unpack_at St hA hN hs ⟨_, hn _ hm, rfl, 0, rfl⟩ hu h
    | true => obtain ⟨c', q, us, e, rfl, hq, hu⟩ := hv; cases e; exact unpack_at St hA hN hs hq hu h
theorem outs_le (b : Nat → Bool) (out : Nat → SV) : ∀ n, (outsUp b out n).length ≤ n
  | 0 => Nat.le_refl 0
  | n + 1 => by
    show (outsUp b out n ++ _).length ≤ n + 1
    rw [List.length_append]
    refine Nat.add_le_add (outs_le b out n) ?_
    cases b n
    · exact Nat.zero_le _
    · exact Nat.le_refl _
theorem chain_len : ∀ {l : List SV} {us : List Value}, IsL ν (chainOf l) us → us.length = l.length
  | [], _, h => by cases h; rfl
  | _ :: r, _, h => by obtain ⟨v, vr, e, _, h2⟩ := h; subst e; exact congrArg (· + 1) (chain_len (l := r) h2)
theorem size_1000 {n : Nat} (h : n ≤ 1000) : n ≤ sizeLine := Nat.le_trans h (by decide)
theorem perm2 {a b : Addr × Obj} {X F : Lg} : (X ++ a :: b :: F).Perm (a :: b :: X ++ F) := List.perm_middle.trans (List.perm_middle.cons a)
/-- a ledger with more than one told of -/
noncomputable def Sup (S : Lg → Prop) (ν' : Lg) : Prop := ∃ ν1, S ν1 ∧ ∀ p ∈ ν1, p ∈ ν'
theorem comp_core {RR : Value → Addr → Result → Shared → Prop} {pos : Pos} {b : Nat → Bool} {out : Nat → SV} {σt : Nat → Sg} (H : EnvOK env) (G : PGood K sc lv) (src : Src K sc env s0 z σ ν iter target own n item S) (hz : n ≤ 1000) (hk : scope.kind = .function) (hcell : ∀ y ∈ scope.names, y.2 ≠ .cell) (h0 : ∀ x sv, σ0.lookup x = some sv → ∀ mC ν, KnC K sc σ (relabel scope env) cl mC ν x sv) (ht : ∀ i, i < n → TgtOK (isLoc (relabel scope env)) target own (item i) σ0 (σt i))
    (hif : ∀ ν1, Sup S ν1 → ∀ i, i < n → IfsOK K sc lv env scope cl ν1 s0 σ ifs (σt i) (b i)) (hel : ∀ ν1, Sup S ν1 → ∀ i, i < n → b i = true → EltOK K sc lv env scope cl ν1 s0 σ elt (σt i) (out i))
    (done : ∀ D C oC mC ys ν1 ν2 s', S ν1 → (∀ p ∈ ν1, p ∈ ν2) → (∀ p ∈ ν1, @LT.lt Nat _ p.1 D) → IsL ν2 (chainOf (outsUp b out n)) ys → NsObj oC mC → PAt (K.frs [(C, oC)]) sc ((D, lst ys) :: ν2) s0 σ false s' → RR (.ref D) C (.ok .next) s') (hs : PAt K sc ν s0 σ z s) :
    wpAny (PM K.w) K.A (eval iter env) (fun xv s1 => wpAny (PM K.w) K.A (pyIter xv) (fun it s2 => wpAny (PM K.w) K.A (newList []) (fun acc s₃ => wpAny (PM K.w) K.A (newFunctionEnv scope env.globals cl [] env.qual none .none (some env)) (fun ce s₄ =>
      codeAny (PM K.w) K.A (.compStart (.ListComp elt [⟨target, iter, ifs, 0⟩] scope pos) 0 it acc { ce with scope := relabel scope env }) (RR acc ce.locals) s₄) E s₃) E s2) E s1) E s := by
  refine src s _ _ hs fun I X St s' ν1 kl m cm κ hS hkl _ W st D => ?_
  refine wpAny_newObj_type (wpAny_newFunctionEnv hcell (fun _ h => (List.not_mem_nil h).elim) (fun h₁ hns₁ hsb₁ => ?_) hk) (Nat.zero_le _)
  have lt : ∀ p ∈ ν1, @LT.lt Nat _ p.1 s'.heap.objs.size := fun p hp => Heap.lt_size (D.N p (List.mem_append_left _ hp)).1
  have P := (D.pushX (lst [])).pushX { cls := .type (if (some env).isSome then "dict" else "frame"), data := .dict #[] }
  dsimp only at P hns₁ hsb₁ ⊢
  generalize (s'.heap.push _).objs.size = C at *
  generalize s'.heap.objs.size = Da at *
  obtain ⟨oC, eC, hC⟩ := ns_obj hns₁
  have P := P.sameBut (s'.toks + ([] : List (Str × Value)).length) hsb₁ eC
  have P : PAtD ((K.wz ((C, oC) :: (Da, lst []) :: K.fz)).frs X) sc ν1 s0 σ false _ m cm κ := P.perm (q := (C, oC) :: (Da, lst []) :: (X ++ K.fz)) perm2.symm
  have main : codeAny (PM K.w) K.A (.compLoop (.ListComp elt [⟨target, iter, ifs, 0⟩] scope pos) 0 (.ref I) (.ref Da) (compEnvC scope cl C env)) (RR (.ref Da) C) { s' with heap := h₁, toks := s'.toks + ([] : List (Str × Value)).length } := by
    refine cloopU (CI K sc s0 σ ν1 St b out C Da n) ?_ (n + 1) ⟨0, X, [], oC, _, m, cm, κ, ν1, Nat.zero_le _, rfl, st, hC, fun _ h => h, rfl, P⟩
    rintro k s2 ⟨i, X', ys, oC', mC', m', cm', κ', ν2, hi, hkk, st', hC', hsub, hys, D'⟩
    have hkl := fun p hp => hsub p (hkl p hp)
    have hS2 : Sup S ν2 := ⟨ν1, hS, hsub⟩
    by_cases hlt : i < n
    · refine W.step hlt st' hkl D' fun v s3 go => go fun s4 X2 _ st2 hv D2 => ?_
      have D3 : PAtD (K.frs ((C, oC') :: (Da, lst ys) :: X2)) sc ν2 s0 σ false s4 m' cm' κ' := D2.perm perm2
      have hlen := Nat.le_trans (Nat.le_of_eq (chain_len hys)) (outs_le b out i)
      refine tgt_ok (stores_c (X := (Da, lst ys) :: X2) hk) G.han (fun p hp => (D3.N p (List.mem_append_left _ hp)).1) (ht i hlt) ⟨oC', mC', hC', fun x sv hx => h0 x sv hx _ _, _, _, _, D3⟩ hv ?_
      rintro s5 ⟨oC5, mC5, hC5, k5, m5, cm5, κ5, D5⟩
      have G5 := G.frs D5
      refine wpAny_mono (hif ν2 hS2 i hlt C oC5 mC5 _ s5 _ (fun ok s => ok = b i ∧ PAt (K.frs ((C, oC5) :: (Da, lst ys) :: X2)) sc ν2 s0 σ false s) G5 hC5 k5 ⟨_, _, _, D5⟩ fun s h => ⟨rfl, h⟩) (fun ok s6 h6 => ?_) fun _ _ h => h
      obtain ⟨rfl, h6⟩ := h6
      cases hb : b i with
      | false =>
        obtain ⟨m6, cm6, κ6, D6⟩ := h6
        exact ⟨n - i, steps1 hkk hlt, i + 1, X2, ys, oC5, mC5, m6, cm6, κ6, ν2, hlt, steps2 hlt, st2, hC5, hsub, by show IsL ν2 (chainOf (outsUp b out i ++ if b i = true then [out i] else [])) ys; rw [hb]; exact (List.append_nil (outsUp b out i)).symm ▸ hys, D6.perm perm2.symm⟩
      | true =>
        refine hel ν2 hS2 i hlt hb C oC5 mC5 _ s6 _ _ G5 hC5 k5 h6 fun u ν3 s7 hsub3 h7 hu => ?_
        obtain ⟨m6, cm6, κ6, D6⟩ := h7
        have pm : ∀ o : Obj, ((C, oC5) :: (Da, o) :: X2 ++ K.fz).Perm ((Da, o) :: (C, oC5) :: X2 ++ K.fz) := fun o => .swap _ _ _
        have D7 : PAtD (K.frs ((Da, lst ys) :: (C, oC5) :: X2)) sc ν3 s0 σ false s7 m6 cm6 κ6 := D6.perm (pm _)
        refine append_at (hsz := by rw [List.size_toArray]; exact size_1000 (Nat.le_trans hlen (Nat.le_trans hi hz))) (D7.atX (.head _)).1 fun h₆ hs₆ e₆ => ?_
        have D8 : PAtD (K.frs ((C, oC5) :: (Da, lst (ys ++ [u])) :: X2)) sc ν3 s0 σ false { s7 with heap := h₆, toks := s7.toks } m6 cm6 κ6 := (D7.sameBut s7.toks hs₆ (e₆.trans (congrArg some (lst_snoc ys u)))).perm (pm _).symm
        exact ⟨n - i, steps1 hkk hlt, i + 1, X2, ys ++ [u], oC5, mC5, m6, cm6, κ6, ν3, hlt, steps2 hlt, st2, hC5, fun p hp => hsub3 p (hsub p hp), by show IsL ν3 (chainOf (outsUp b out i ++ if b i = true then [out i] else [])) _; rw [hb]; exact chain_snoc hu (IsL.mono hsub3 hys), D8.perm perm2.symm⟩
    · obtain rfl : i = n := Nat.le_antisymm hi (Nat.not_lt.mp hlt)
      refine W.done st' hkl D' fun s3 D3 => ?_
      have D4 : PAtD ((K.frs [(C, oC')]).frs [(Da, lst ys)]) sc ν2 s0 σ false s3 m' cm' κ' := D3.perm (.swap _ _ _)
      exact done Da C oC' mC' ys ν1 ν2 s3 hS hsub lt hys hC' ⟨_, _, _, D4.shown⟩
  exact codeAny_compStart_list main (W.self st hkl P main)
/-- what a comprehension leaves: its list -/
noncomputable def SC (S : Lg → Prop) (ν' : Lg) : Prop := ∃ p ν1, Sup S ν1 ∧ ν' = p :: ν1
theorem PAt.letC (hC : NsObj oC mC) (hs : PAt (K.frs [(C, oC)]) sc ν s0 σ z s) : ∃ m, s.heap.Ns C m ∧ ∀ h', Heap.SameBut C s.heap h' → PAt K sc ν s0 σ false { s with heap := h' } := by
  refine PAt.el hs fun m cm κ D => ?_
  exact ⟨mC, hC.ns (D.atX (.head _)).1, fun h' hs => ⟨m, cm, κ, D.drop s.toks fun b o hb e => (hs.2 b fun q => hb (q ▸ .head _)).trans e⟩⟩
theorem comp_exX {pos : Pos} {b : Nat → Bool} {out : Nat → SV} {σt : Nat → Sg} (H : EnvOK env) (G : PGood K sc lv) (src : Src K sc env s0 z σ ν iter target own n item S) (hz : n ≤ 1000) (h0 : ∀ x sv, σ0.lookup x = some sv → ∀ mC ν, KnC K sc σ (relabel scope env) cl mC ν x sv) (ht : ∀ i, i < n → TgtOK (isLoc (relabel scope env)) target own (item i) σ0 (σt i))
    (hif : ∀ ν1, Sup S ν1 → ∀ i, i < n → IfsOK K sc lv env scope cl ν1 s0 σ ifs (σt i) (b i)) (hel : ∀ ν1, Sup S ν1 → ∀ i, i < n → b i = true → EltOK K sc lv env scope cl ν1 s0 σ elt (σt i) (out i)) (hclos : closureFor scope env = pure cl) (hs : PAt K sc ν s0 σ z s) (h : ∀ D ys ν1 ν2 s', S ν1 → (∀ p ∈ ν1, p ∈ ν2) → (∀ p ∈ ν1, @LT.lt Nat _ p.1 D) → IsL ν2 (chainOf (outsUp b out n)) ys → PAt K sc ((D, lst ys) :: ν2) s0 σ false s' → Q (.ref D) s')
    (hk : scope.kind = .function := by rfl) (hcell : ∀ y ∈ scope.names, y.2 ≠ .cell := by decide) (hnames : ∀ y ∈ scope.names, y.2 = .local → scope.names.lookup y.1 = some .local := by decide) (hf : ∀ x, foldedSetIterable iter env x = pure x := by intro _; rfl) :
    wpAny (PM K.w) K.A (eval (.ListComp elt [⟨target, iter, ifs, 0⟩] scope pos) env) Q E s := by
  rw [eval_ListComp]
  refine wpAny_comprehension_free (use := none) rfl hf hclos hk hnames (comp_core H G src hz hk hcell h0 ht hif hel (fun D C oC mC ys ν1 ν2 s' hS hsub lt hu hC hs' => ?_) hs)
  obtain ⟨m, hn, go⟩ := hs'.letC hC
  exact ⟨m, hn, fun h' hh => h D ys ν1 ν2 _ hS hsub lt hu (go h' hh)⟩
theorem comp_ex {pos : Pos} {b : Nat → Bool} {out : Nat → SV} {σt : Nat → Sg} (H : EnvOK env) (G : PGood K sc lv) (src : Src K sc env s0 z σ ν iter target own n item S) (hz : n ≤ 1000) (h0 : ∀ x sv, σ0.lookup x = some sv → ∀ mC ν, KnC K sc σ (relabel scope env) cl mC ν x sv) (ht : ∀ i, i < n → TgtOK (isLoc (relabel scope env)) target own (item i) σ0 (σt i))
    (hif : ∀ ν1, Sup S ν1 → ∀ i, i < n → IfsOK K sc lv env scope cl ν1 s0 σ ifs (σt i) (b i)) (hel : ∀ ν1, Sup S ν1 → ∀ i, i < n → b i = true → EltOK K sc lv env scope cl ν1 s0 σ elt (σt i) (out i)) (hR : ∀ ν' u, Is ν' (.l (chainOf (outsUp b out n))) u → Is ν' sv u)
    (hclos : closureFor scope env = pure cl) (hk : scope.kind = .function := by rfl) (hcell : ∀ y ∈ scope.names, y.2 ≠ .cell := by decide) (hnames : ∀ y ∈ scope.names, y.2 = .local → scope.names.lookup y.1 = some .local := by decide) (hf : ∀ x, foldedSetIterable iter env x = pure x := by intro _; rfl) :
    ExE K sc env s0 z σ ν (.ListComp elt [⟨target, iter, ifs, 0⟩] scope pos) sv (SC S) := fun s E Q hs h =>
  comp_exX H G src hz h0 ht hif hel hclos hs (fun D ys ν1 ν2 s' hS hsub lt hu hs' => h _ _ _ hs' ⟨_, ν2, ⟨ν1, hS, hsub⟩, rfl⟩ (hR _ _ ⟨D, ys, _, rfl, .head _, hu.mono fun _ => .tail _⟩)) hk hcell hnames hf
theorem tri_asgComp {y : Str} {py pos spos : Pos} {b : Nat → Bool} {out : Nat → SV} {σt : Nat → Sg} (G : PGood K sc lv) (src : Src K sc (K.env sc) s0 z σ ν iter target own n item S) (hz : n ≤ 1000) (h0 : ∀ x sv, σ0.lookup x = some sv → ∀ mC ν, KnC K sc σ (relabel scope (K.env sc)) cl mC ν x sv) (ht : ∀ i, i < n → TgtOK (isLoc (relabel scope (K.env sc))) target own (item i) σ0 (σt i))
    (hif : ∀ ν1, Sup S ν1 → ∀ i, i < n → IfsOK K sc lv (K.env sc) scope cl ν1 s0 σ ifs (σt i) (b i)) (hel : ∀ ν1, Sup S ν1 → ∀ i, i < n → b i = true → EltOK K sc lv (K.env sc) scope cl ν1 s0 σ elt (σt i) (out i)) (hR : ∀ ν' u, Is ν' (.l (chainOf (outsUp b out n))) u → Is ν' sv u) (h : ∀ ν', SC S ν' → Tri K sc s0 false ((y, sv) :: σ) ν' rest R)
    (hclos : closureFor scope (K.env sc) = pure cl) (hy : isLoc sc y = true := by rfl) (hsw : swapsWith (.ListComp elt [⟨target, iter, ifs, 0⟩] scope pos) (some (.Name y py)) spos.line (K.env sc) = pure true := by rfl) (hk : scope.kind = .function := by rfl) (hcell : ∀ y ∈ scope.names, y.2 ≠ .cell := by decide) (hnames : ∀ y ∈ scope.names, y.2 = .local → scope.names.lookup y.1 = some .local := by decide) (hf : ∀ x, foldedSetIterable iter (K.env sc) x = pure x := by intro _; rfl) :
    Tri K sc s0 z σ ν (.Assign [.Name y py] (.ListComp elt [⟨target, iter, ifs, 0⟩] scope pos) spos :: rest) R := fun s hs => by
  refine wpAny_execs_cons ?_
  rw [exec_Assign_Name_used _ _ _ _ hsw]
  refine wpAny_bind (wpAny_standAt (wpAny_bind ?_))
  show wpAny _ K.A (do let _ ← comprehension (.ListComp elt [⟨target, iter, ifs, 0⟩] scope pos) scope (K.env sc) _ (newList []) false (eval iter (K.env sc)) (some (assign (.Name y py) (K.env sc)))) _ _ s
  refine wpAny_bind (wpAny_mono (wpAny_comprehension_free (use := some (assign (.Name y py) (K.env sc))) (Q := fun _ s' => sq K sc rest R .next s') rfl hf hclos hk hnames
    (comp_core G.env G src hz hk hcell h0 ht hif hel (fun D C oC mC ys ν1 ν2 s' hS hsub _ hu hC hs' => ?_) hs)) (fun _ s' hq => wpAny_pure (wpAny_pure hq)) fun _ _ e => e)
  have G' : PGood (K.frs [(C, oC)]) sc lv := by
    obtain ⟨_, _, _, D'⟩ := hs'
    exact G.frs D'
  refine assign_Name (st_loc (sv := sv) G' hy hs' (hR _ _ ⟨D, ys, _, rfl, .head _, hu.mono fun _ => .tail _⟩) fun s2 hs2 => ?_)
  obtain ⟨m, hn, go⟩ := hs2.letC hC
  exact ⟨m, hn, fun h' hh => h _ ⟨_, ν2, ⟨ν1, hS, hsub⟩, rfl⟩ _ (go h' hh)⟩
end
end Mine
end
noncomputable section
open PySem PySem.W PyProof.Rows PySem.Spec PySem.Calls
namespace Mine
set_option genInjectivity false
set_option genSizeOf false
section
variable {K : PC} {sc : Scope} {lv : Nat} {ν ν' : Lg} {s0 : Shared} {σ σ' σ0 σc : Sg} {z z' : Bool} {s : Shared} {Φ : Ora} {R : Flow → Shared → Prop} {rest body : List Stmt} {E Q : Value → Shared → Prop} {x sv : SV}
theorem TgtOK.name {ok : Str → Bool} {y : Str} {py : Pos} {it it' : SV} (hy : ok y = true) (e : it = it') : TgtOK ok (.Name y py) false it σ0 ((y, it') :: σ0) := .inl ⟨rfl, y, py, rfl, hy, e ▸ rfl⟩
/-- cells that a comprehension reads -/
noncomputable def CellsIn (K : PC) (sc : Scope) (σ : Sg) (rs : Scope) (cl : List (Str × Addr)) : Sg → Prop
  | [] => True
  | p :: r => (isCel rs p.1 = true ∧ isCel sc p.1 = true ∧ σ.lookup p.1 = some p.2 ∧ ∃ c, K.ow.lookup p.1 = some c ∧ cl.lookup p.1 = some c) ∧ CellsIn K sc σ rs cl r
theorem cells_in {rs : Scope} {cl : List (Str × Addr)} : ∀ {σ0 : Sg}, CellsIn K sc σ rs cl σ0 → ∀ x sv, σ0.lookup x = some sv → ∀ mC ν, KnC K sc σ rs cl mC ν x sv
  | (y, v) :: r, h, x, sv, hx => fun mC ν => lk_set (P := fun sv => KnC K sc σ rs cl mC ν x sv) hx (fun e => e ▸ .inr (.inl h.1)) fun _ hx => cells_in h.2 x sv hx mC ν
theorem gives_newX : Gives (New sv) ν fun n v => ∃ q o, n = (q, o) :: ν ∧ Is [(q, o)] sv v ∧ ∀ p ∈ ν, @LT.lt Nat _ p.1 q := fun H n' v _ _ ⟨q, o, e, h1, h2⟩ => ⟨(q, o) :: ν, fun _ hp => e ▸ hp, fun _ _ => Is.mono fun _ => .tail _, fun p hp => (List.mem_cons.mp hp).elim (fun e => .inr (e ▸ h2)) fun hp => .inl ⟨p, hp, rfl⟩, q, o, rfl, h1, fun p hp => h2 p (List.mem_append_left _ hp)⟩
/-- what a call makes comes back -/
theorem tri_retNew {f : Str} {fa : Addr} {lv' : Nat} {es : List Expr} {p pos p2 : Pos} {c : List Prop} {n : Lg} (G : PGood K sc lv) (O : OraOK K sc ν Φ) (ha : ∀ P, nsIn (hd.heap_39 P) mainGlobals f = some (some (.ref fa))) (hfn : FnIs fa) (hlv : lv' ≤ lv) (he : evl Φ σ z es = some (x, z', c)) (hc : All c) (C : Fn fa lv' x (New sv)) (hn : ∀ p ∈ n, p ∈ ν := by exact fun _ h => h) (hR : ∀ u s, Done K.g K.L (New sv n) s0 u s → R (.ret u) s := by exact fun _ _ h => h) (hf : isGlo sc f = true := by rfl) (hok : okArgs es = true := by rfl) :
    Tri K sc s0 z σ ν (.Return (some (.Call (.Name f p) es [] pos)) p2 :: rest) R := fun s hs => by
  refine wpAny_execs_cons (wpAny_Return_some (call_ref G.env (view_at ⟨G.nd, G.fcz⟩) G hf ha hfn hok hs (fun hq => el_ok (ev_of G O) ((Bool.and_eq_true _ _).mp hok).2 he hc hs fun us s1 hs1 hu => hq us _ s1 hs1 hu) fun us z s hs hu => call_vs G hlv (C ν us hu) (fun _ _ => List.mem_append_left _) gives_newX hs fun u ν' s' hs' hT => ?_))
  obtain ⟨q, o, rfl, h1, h2⟩ := hT
  exact hR u s' (done_ok (ν' := (q, o) :: n) hs' (fun p hp => (List.mem_cons.mp hp).elim (fun e => e ▸ .head _) fun hp => .tail _ (hn p hp)) ⟨q, o, rfl, h1, fun p hp => h2 p (hn p hp)⟩)
/-- what is known of one thing told anew -/
theorem is_eq {a b : SV} (e : a = b) : ∀ ν' u, Is ν' a u → Is ν' b u := fun _ _ h => e ▸ h
/-- a list made by a comprehension comes back -/
theorem tri_retComp {target iter elt : Expr} {ifs : List Expr} {own : Bool} {n : Nat} {item : Nat → SV} {scope : Scope} {cl : List (Str × Addr)} {S : Lg → Prop} {pos p2 : Pos} {b : Nat → Bool} {out : Nat → SV} {σt : Nat → Sg} {ν0 : Lg} (G : PGood K sc lv) (src : Src K sc (K.env sc) s0 z σ ν iter target own n item S) (hz : n ≤ 1000) (h0 : ∀ x sv, σ0.lookup x = some sv → ∀ mC ν, KnC K sc σ (relabel scope (K.env sc)) cl mC ν x sv) (ht : ∀ i, i < n → TgtOK (isLoc (relabel scope (K.env sc))) target own (item i) σ0 (σt i))
    (hif : ∀ ν1, Sup S ν1 → ∀ i, i < n → IfsOK K sc lv (K.env sc) scope cl ν1 s0 σ ifs (σt i) (b i)) (hel : ∀ ν1, Sup S ν1 → ∀ i, i < n → b i = true → EltOK K sc lv (K.env sc) scope cl ν1 s0 σ elt (σt i) (out i)) (hR : ∀ ν' us k D, IsL ν' (chainOf (outsUp b out n)) us → Is [(D, listO us k)] sv (.ref D)) (hn : ∀ ν1, S ν1 → ∀ p ∈ ν0, p ∈ ν1)
    (hclos : closureFor scope (K.env sc) = pure cl) (hD : ∀ u s, Done K.g K.L (New sv ν0) s0 u s → R (.ret u) s := by exact fun _ _ h => h) (hk : scope.kind = .function := by rfl) (hcell : ∀ y ∈ scope.names, y.2 ≠ .cell := by decide) (hnames : ∀ y ∈ scope.names, y.2 = .local → scope.names.lookup y.1 = some .local := by decide) (hf : ∀ x, foldedSetIterable iter (K.env sc) x = pure x := by intro _; rfl) :
    Tri K sc s0 z σ ν (.Return (some (.ListComp elt [⟨target, iter, ifs, 0⟩] scope pos)) p2 :: rest) R := fun s hs =>
  wpAny_execs_cons (wpAny_Return_some (comp_exX G.env G src hz h0 ht hif hel hclos hs (fun D ys ν1 ν2 s' hS hsub lt hu hs' => hD _ s' (done_ok (ν' := (D, _) :: ν0) hs' (fun p hp => (List.mem_cons.mp hp).elim (fun e => e ▸ .head _) fun hp => .tail _ (hsub p (hn ν1 hS p hp))) ⟨D, _, rfl, hR ν2 ys _ D hu, fun p hp => lt p (hn ν1 hS p hp)⟩)) hk hcell hnames hf))
end
end Mine
end
noncomputable section
open PySem PySem.W PyProof.Rows PySem.Spec PySem.Calls
namespace Mine
set_option genInjectivity false
set_option genSizeOf false
/-! lists made, strings joined, targets that are cells -/
/-- things may be new -/
noncomputable def Ext (ν ν' : Lg) : Prop := ∀ p ∈ ν, p ∈ ν'
/-- one chain after another -/
noncomputable def catS : SV → SV → SV
  | .p a r, y => .p a (catS r y)
  | _, y => y
/-- a chain of strings -/
noncomputable def strC : List Str → SV
  | [] => .nl
  | a :: r => .p (.s a) (strC r)
section
variable {K : PC} {sc : Scope} {lv : Nat} {ν ν' ν1 ν2 : Lg} {s0 : Shared} {σ σ' : Sg} {z z' : Bool} {s : Shared} {Φ : Ora} {R : Flow → Shared → Prop} {rest body : List Stmt} {E Q : Value → Shared → Prop} {x y a b sv : SV} {us : List Value} {S S' : Lg → Prop} {p pos p2 : Pos} {e e1 e2 : Expr} {es : List Expr} {c : List Prop}
theorem Ext.refl : Ext ν ν := fun _ h => h
theorem Ext.sub (h : Ext ν ν') : ∀ p ∈ ν, p ∈ ν' := h
theorem Ext.trans (h : Ext ν ν1) (h' : Ext ν1 ν2) : Ext ν ν2 := fun p hp => h' p (h p hp)
theorem Ext.one {q : Addr} {o : Obj} : Ext ν ((q, o) :: ν) := fun _ => .tail _
theorem Ext.up {q : Addr} (h : Ext ν ν') (hq : ∀ r ∈ ν', @LT.lt Nat _ r.1 q) : ∀ r ∈ ν, @LT.lt Nat _ r.1 q := fun r hr => hq r (h r hr)
theorem SC.ext (hS : ∀ ν1, S ν1 → Ext ν ν1) (h : SC S ν') : Ext ν ν' := by
  obtain ⟨p, ν3, ⟨ν4, e4, h4⟩, rfl⟩ := h
  exact fun p hp => .tail _ (h4 p (hS _ e4 p hp))
theorem ex_to (X : Ex K sc s0 z σ ν e sv S) (h : ∀ ν', S ν' → S' ν') : Ex K sc s0 z σ ν e sv S' := fun s E Q hs hq => X s E Q hs fun u ν' s' hs' hS hu => hq u ν' s' hs' (h ν' hS) hu
theorem ex_pure (G : PGood K sc lv) (O : OraOK K sc ν Φ) (he : ev Φ σ z e = some (sv, z', c)) (hc : All c) : Ex K sc s0 z σ ν e sv (Ext ν) := ex_to (ex_ev G O he hc) fun _ h => h ▸ .refl
/-- expressions one by one, that may leave things behind -/
noncomputable def ExL (K : PC) (sc : Scope) (s0 : Shared) (z : Bool) (σ : Sg) (ν : Lg) (es : List Expr) (x : SV) : Prop := ∀ (p : Pos) (s : Shared) (E : Value → Shared → Prop) (Q : List Value → Shared → Prop), PAt K sc ν s0 σ z s → (∀ us ν' s', PAt K sc ν' s0 σ false s' → Ext ν ν' → IsL ν' x us → Q us s') → wpAny (PM K.w) K.A (spliced (backTo p (starEach es (K.env sc)))) Q E s
theorem exl_nil : ExL K sc s0 z σ ν [] .nl := fun p s E Q hs h => spliced_none (h _ _ _ hs.weak .refl rfl)
theorem exl_cons (X : Ex K sc s0 z σ ν e a (Ext ν)) (XL : ∀ ν1, Ext ν ν1 → ExL K sc s0 false σ ν1 es x) (hn : noStar (e :: es) = true := by rfl) : ExL K sc s0 z σ ν (e :: es) (.p a x) := fun p s E Q hs h =>
  spliced_more (X s _ _ hs fun u ν1 s1 hs1 S1 i1 => XL ν1 S1 p s1 _ _ hs1 fun us ν2 s2 hs2 S2 i2 => h _ ν2 s2 hs2 (S1.trans S2) ⟨u, us, rfl, i1.mono S2.sub, i2⟩) (star_cons hn).1
theorem exl_ev (G : PGood K sc lv) (O : OraOK K sc ν Φ) (he : evl Φ σ z es = some (x, z', c)) (hc : All c) (hn : noStar es = true := by rfl) : ExL K sc s0 z σ ν es x := fun p s E Q hs h => el_ok (ev_of G O) hn he hc hs fun us s' hs' hu => h us ν s' hs'.weak .refl hu
theorem ex_list (X : ExL K sc s0 z σ ν es x) (hz : len x ≤ 1000) : Ex K sc s0 z σ ν (.List es p) (.l x) (Ext ν) := fun s E Q hs h =>
  List_ (X _ _ _ _ hs fun us ν1 s1 hs1 S1 hu => wpAny_newObj_type (h _ _ _ (hs1.push (listO us 0)) (S1.trans .one) ⟨_, us, 0, rfl, .head _, hu.mono fun _ => .tail _⟩) (by show us.toArray.size ≤ sizeLine; rw [List.size_toArray, hu.length]; exact Nat.le_trans hz (Nat.le_of_ble_eq_true rfl)))
theorem ex_tup {k : Nat} (X : ExL K sc s0 z σ ν es x) (hz : len x ≤ 1000) : Ex K sc s0 z σ ν (.Tuple es k p) (.t x) (Ext ν) := fun s E Q hs h =>
  Tuple_ (X _ _ _ _ hs fun us ν1 s1 hs1 S1 hu => wpAny_newTuple (h _ _ _ (hs1.push (tupO us)).weak (S1.trans .one) ⟨_, us, rfl, .head _, hu.mono fun _ => .tail _⟩) (by rw [hu.length]; exact Nat.le_trans hz (Nat.le_of_ble_eq_true rfl)))
theorem cat_is : ∀ {x : SV} {us : List Value}, IsL ν x us → ∀ {y : SV} {vs : List Value}, IsL ν y vs → IsL ν (catS x y) (us ++ vs) := by
  intro x
  induction x with
  | p a r _ ih => exact fun {us} ⟨u, ur, e, h1, h2⟩ {y vs} hv => e ▸ ⟨u, ur ++ vs, rfl, h1, ih h2 hv⟩
  | nl => exact fun {us} e {y vs} hv => by cases (show us = [] from e); exact hv
  | _ => exact fun {us} h => by first | cases (show us = [] from h) | exact h.elim
/-- a list and a list -/
theorem ex_addL (X1 : Ex K sc s0 z σ ν e1 (.l x) (Ext ν)) (X2 : ∀ ν1, Ext ν ν1 → Ex K sc s0 false σ ν1 e2 (.l y) (Ext ν1)) (hz : len x + len y ≤ 1000) : Ex K sc s0 z σ ν (.BinOp e1 .Add e2 p) (.l (catS x y)) (Ext ν) := fun s E Q hs h =>
  wpAny_BinOp (X1 _ _ _ hs fun u1 ν1 s1 hs1 S1 i1 => X2 ν1 S1 _ _ _ hs1 fun u2 ν2 s2 hs2 S2 i2 => by
    obtain ⟨q1, us1, n1, rfl, m1, c1⟩ := i1.mono S2.sub
    obtain ⟨q2, us2, n2, rfl, m2, c2⟩ := i2
    refine PAt.el hs2 fun m cm κ D => ?_
    refine kmk_add_lit D.F D.N ⟨_, (D.N _ (List.mem_append_left _ m1)).1, rfl, n1, rfl⟩ ⟨_, (D.N _ (List.mem_append_left _ m2)).1, rfl, n2, rfl⟩ rfl (fun q h' F' N' lt => ?_) (by rw [List.toList_toArray, List.toList_toArray, IsL.length c1, IsL.length c2]; exact Nat.le_trans hz (Nat.le_of_ble_eq_true rfl))
    have lt' : ∀ p ∈ ν2, @LT.lt Nat _ p.1 q := fun p hp => lt p (List.mem_append_left _ hp)
    refine h _ ((q, listO (us1 ++ us2) 0) :: ν2) _ ⟨m, cm, κ, D.heap s2.toks F' N' (fun p hp => ?_) fun sv u => Is.mono fun _ => .tail _⟩ ((S1.trans S2).trans .one) ⟨q, _, 0, rfl, .head _, (cat_is c1 c2).mono fun _ => .tail _⟩
    refine mem_c hp ?_ fun hp => ?_
    · exact fun hq => by
        obtain ⟨o, ho⟩ := D.hidden hq
        exact Nat.lt_irrefl _ (lt _ (List.mem_append_right _ ho))
    · exact D.O p hp)
theorem str_are : ∀ {ys : List Str} {us : List Value}, IsL ν (strC ys) us → StrsAre us ys
  | [], _, h => by cases (show _ = [] from h); exact .nil
  | _ :: _, _, ⟨_, _, e, ⟨t, h1⟩, h2⟩ => by subst e h1; exact .cons _ t (str_are h2)
/-- sep.join(..) -/
theorem ex_join {sep : Str} {k : Nat} {cp ap : Pos} {ys : List Str} (X : ∀ z, Ex K sc s0 z σ ν e (.l (strC ys)) (Ext ν)) (hz : (ys.map (·.length)).sum + ys.length * sep.length ≤ 16777216) (hst : noStar [e] = true := by rfl) (hline : (ap.endLine == pos.line) = true := by rfl) : Ex K sc s0 z σ ν (.Call (.Attribute (.Constant (.str sep) k cp) (Str.ofString "join") ap) [e] [] pos) (.s (Txt.join sep ys)) (Ext ν) := fun s E Q hs h => by
  refine Call_method1 rfl (star_cons hst).1 hline (wpAny_Constant_str ⟨"str", "str.join", F.plainAttrs_str, F.slot_str_join, F.type_str_join, typeIs_str _ _ _, (fun _ e => nomatch e), Calls.callWith_builtin rfl (Calls.evalArgs_plain (Calls.spliced_cons (wpAny_mono (X true _ _ _ hs.tick fun u ν1 s1 hs1 S1 hu => ?_) (fun _ _ h₁ => Calls.spliced_nil h₁) fun _ _ e => e)))⟩)
  obtain ⟨q, us, n, rfl, hm, hu⟩ := hu
  exact join_list ⟨_, hs1.new hm, rfl, n, rfl⟩ (str_are hu) hz fun t' tk => h _ _ _ (hs1.tok tk false nofun) S1 ⟨t', rfl⟩
/-- what a comparison tells -/
noncomputable def CmpK (K : PC) (sc : Scope) (s0 : Shared) (σ : Sg) (op : CmpOp) (a b : SV) (t : Bool) : Prop := ∀ ν s u1 u2 (E Q : Value → Shared → Prop), PAt K sc ν s0 σ false s → Is ν a u1 → Is ν b u2 → (∀ s', PAt K sc ν s0 σ false s' → Q (.bool t) s') → wpAny (PM K.w) K.A (compareOp op u1 u2) Q E s
theorem cmp_pure {op : CmpOp} {t : Bool} (G : PGood K sc lv) (hb : cmpS op a b = some t) : CmpK K sc s0 σ op a b t := fun ν s u1 u2 E Q hs i1 i2 h => (cmp_ok (ev_of G .nil) hs op i1 i2).get hb (h s hs)
/-- if l op r, both may leave things behind -/
theorem tri_ifE {l r : Expr} {op : CmpOp} {cp : Pos} {bd oe : List Stmt} {t : Bool} {SL : Lg → Prop} {SR : Lg → Lg → Prop} (XL : Ex K sc s0 z σ ν l a SL) (XR : ∀ ν1, SL ν1 → Ex K sc s0 false σ ν1 r b (SR ν1)) (hp : ∀ ν1 ν2 u, SL ν1 → SR ν1 ν2 → Is ν1 a u → Is ν2 a u) (C : CmpK K sc s0 σ op a b t)
    (h1 : t = true → ∀ ν1 ν2, SL ν1 → SR ν1 ν2 → Tri K sc s0 false σ ν2 bd (sq K sc rest R)) (h2 : t = false → ∀ ν1 ν2, SL ν1 → SR ν1 ν2 → Tri K sc s0 false σ ν2 oe (sq K sc rest R)) (hm : behindInMarks op r = false := by rfl) : Tri K sc s0 z σ ν (.If (.Compare l [op] [r] cp) bd oe p2 :: rest) R := fun s hs =>
  wpAny_execs_cons (wpAny_If (wpAny_isTrue_Compare1 (XL s _ _ hs fun u1 ν1 s1 hs1 S1 i1 => XR ν1 S1 s1 _ _ hs1 fun u2 ν2 s2 hs2 S2 i2 => C ν2 s2 u1 u2 _ _ hs2 (hp ν1 ν2 u1 S1 S2 i1) i2 fun s3 hs3 => wpAny_truthy_bool (by
    cases t with
    | true => exact h1 rfl ν1 ν2 S1 S2 _ hs3
    | false => exact h2 rfl ν1 ν2 S1 S2 _ hs3)) hm))
theorem ex_binE {op : Operator} {d : List Prop} (G : PGood K sc lv) (O : OraOK K sc ν Φ) (X : Ex K sc s0 z σ ν e1 a (· = ν)) (he : ev Φ σ false e2 = some (b, z', c)) (hc : All c) (hb : bin z' op a b = some (sv, d)) (hd : All d) : Ex K sc s0 z σ ν (.BinOp e1 op e2 p) sv (· = ν) := fun s E Q hs h =>
  wpAny_BinOp (X s _ _ hs fun u1 ν1 s1 hs1 e i1 => by
    cases e
    exact ev_ok (ev_of G O) he hc hs1 fun u2 s2 hs2 i2 => (bin_ok (ev_of G O) hs2 op i1 i2).get hb hd fun u s3 hs3 hu => h u ν s3 hs3.weak rfl hu)
/-- x[-1] of a list that changes -/
theorem ex_lastM {q : Addr} {vs : List Value} {w : Str} {k : Int} {j : Nat} {np cp up : Pos} (G : PGood K sc lv) (hl : σ.lookup w = some (.m q vs)) (hv : ∃ t, vs.getLast? = some (.int k t)) : Ex K sc s0 z σ ν (.Subscript (.Name w np) (.UnaryOp .USub (.Constant (.int 1) j cp) up) p) (.i k) (· = ν) := fun s E Q hs h =>
  Subscript_ (name_m G hs hl (ev_ok (ev_of G .nil) (show ev [] σ z (.UnaryOp .USub (.Constant (.int 1) j cp) up) = some (.i (-1), true, []) from rfl) trivial hs fun u s1 hs1 hu => by
    refine Is.ie hu fun t => ?_
    obtain ⟨n, hq⟩ := hs1.mIs hl
    obtain ⟨t2, hv⟩ := hv
    obtain ⟨r, rfl⟩ := List.getLast?_eq_some_iff.mp hv
    have hL : s1.heap.IsList q (r ++ [Value.int k t2]).toArray := ⟨_, hq, rfl, n, rfl⟩
    refine tail_any hL.typeIs slot_list_getitem.lookup (wpAny_getItem_list_neg hL (by decide) ?_ (by decide) ?_ (h _ ν s1 hs1.weak rfl ⟨t2, rfl⟩)) (by with_unfolding_all rfl)
    · rw [List.size_toArray, List.length_append]
      exact Int.neg_le_neg (Int.ofNat_le.mpr (Nat.le_add_left 1 r.length))
    · have : ((-1 : Int) + ((r ++ [Value.int k t2]).toArray.size : Nat)).toNat = r.length := by rw [List.size_toArray, List.length_append, List.length_singleton]; lia
      rw [this, List.getElem?_toArray]
      exact List.getElem?_concat_length))
variable {target iter : Expr} {own' : Bool} {n : Nat} {item : Nat → SV} {X kl : Lg}
/-- a for whose target may be cells, names one by one -/
theorem tri_forO {fpos : Pos} (J : Nat → Sg → Lg → Prop) (G : PGood K sc lv) (H : Own K sc) (src : Src K sc (K.env sc) s0 z σ ν iter target own' n item S) (j0 : ∀ ν1, S ν1 → ∃ σ₂, J 0 σ₂ ν1 ∧ AllSub σ σ₂)
    (turn : ∀ X kl, (∀ p ∈ kl, seqO p = true) → PGood (K.frs X) sc lv → ∀ i σ' ν', i < n → J i σ' ν' → (∀ p ∈ kl, p ∈ ν') → ∃ σt, TgtOK (own sc) target own' (item i) σ' σt ∧ Tri (K.frs X) sc s0 false σt ν' body (FE K sc X kl s0 (J (i + 1)) rest R))
    (fin : ∀ σ' ν', J n σ' ν' → Tri K sc s0 false σ' ν' rest R) (hs : ∀ x, foldedSetIterable iter (K.env sc) x = pure x := by intro _; rfl) : Tri K sc s0 z σ ν (.For target iter body [] fpos :: rest) R := by
  have use : ∀ {i σ' ν'}, (J i σ' ν' ∨ i = 0 ∧ ∃ σ₂, J 0 σ₂ ν' ∧ AllSub σ' σ₂) → ∃ σ₂, J i σ₂ ν' ∧ ∀ {K : PC} {s}, PAt K sc ν' s0 σ' false s → PAt K sc ν' s0 σ₂ false s := fun h => by
    rcases h with h | ⟨rfl, σ₂, h1, h2⟩
    · exact ⟨_, h, fun h => h⟩
    · exact ⟨σ₂, h1, fun h => h.sub h2⟩
  refine tri_for (fun i σ' ν' => J i σ' ν' ∨ i = 0 ∧ ∃ σ₂, J 0 σ₂ ν' ∧ AllSub σ' σ₂) G src (fun ν1 h => .inr ⟨rfl, j0 ν1 h⟩) (fun X kl i _ σ' ν' s1 hq G' hi hj hk hs hv => ?_) (fun σ' ν' hj s hs => ?_) hs
  · obtain ⟨σ₂, h1, h2⟩ := use hj
    obtain ⟨σt, T, hb⟩ := turn X kl hq G' i σ₂ ν' hi h1 hk
    refine tgt_ok (K := K.frs X) (stores_own (K := K.frs X) (s0 := s0) G' H) G'.han (fun p hp => hs.new hp) T (h2 hs) hv fun s2 hs2 => wpAny_mono (hb s2 hs2) (fun f s3 h3 => ?_) fun _ _ h => h
    cases f with
    | ret v => exact h3
    | brk => exact h3
    | cont => exact h3.imp fun _ h => h.imp fun _ h => ⟨.inl h.1, h.2⟩
    | next => exact h3.imp fun _ h => h.imp fun _ h => ⟨.inl h.1, h.2⟩
  · obtain ⟨σ₂, h1, h2⟩ := use hj
    exact fin σ₂ ν' h1 s (h2 hs)
/-- a name or a cell set -/
theorem tri_asgO {w : Str} {p1 : Pos} (G : PGood K sc lv) (H : Own K sc) (X : Ex K sc s0 z σ ν e sv S) (h : ∀ ν', S ν' → Tri K sc s0 false ((w, sv) :: σ) ν' rest R) (hx : own sc w = true := by rfl) (hsw : swapsWith e (some (.Name w p1)) p2.line (K.env sc) = pure false := by rfl) : Tri K sc s0 z σ ν (.Assign [.Name w p1] e p2 :: rest) R := fun s hs =>
  wpAny_execs_cons (wpAny_Assign_Name (X s _ _ hs fun u ν' s' hs' hS hu => (stores_own (s0 := s0) G H).set hx hs' hu fun s2 hs2 => h ν' hS s2 hs2) hsw)
theorem ex_binX {op : Operator} {d : List Prop} (G : PGood K sc lv) (X : Ex K sc s0 z σ ν e1 a (· = ν)) (X2 : Ex K sc s0 false σ ν e2 b (· = ν)) (hb : bin false op a b = some (sv, d)) (hd : All d) : Ex K sc s0 z σ ν (.BinOp e1 op e2 p) sv (· = ν) := fun s E Q hs h =>
  wpAny_BinOp (X s _ _ hs fun u1 ν1 s1 hs1 e i1 => by
    cases e
    exact X2 s1 _ _ hs1 fun u2 ν2 s2 hs2 e i2 => by
      cases e
      exact (bin_ok (ev_of G .nil) hs2 op i1 i2).get hb hd fun u s3 hs3 hu => h u ν s3 hs3.weak rfl hu)
/-- x[k] of a list, the place not a literal -/
theorem ex_atL {w : Str} {k : Expr} {j : Int} {jn : Nat} {np : Pos} {x : SV} (G : PGood K sc lv) (O : OraOK K sc ν Φ) (hl : σ.lookup w = some (.l x)) (he : ev Φ σ z k = some (.i j, z', c)) (hc : All c) (hj : j = (jn : Int)) (hlt : jn < 1000) (hv : ∀ us, IsL ν x us → ∃ u, us[jn]? = some u ∧ Is ν sv u) (hs : isSlice k = false := by rfl) : Ex K sc s0 z σ ν (.Subscript (.Name w np) k p) sv (· = ν) := fun s E Q h1 h =>
  Subscript_ ((ev_of G .nil).loc hl rfl h1 fun u hu => ev_ok (ev_of G O) he hc h1 fun u2 s2 hs2 hu2 => by
    obtain ⟨t, rfl⟩ := hu2
    obtain ⟨q, us, n, rfl, hm, hu⟩ := hu
    obtain ⟨u, hu1, hu2⟩ := hv us hu
    subst hj
    exact item_litK ⟨_, hs2.new hm, rfl, n, rfl⟩ (Int.natCast_nonneg jn) (Int.lt_trans (Int.ofNat_lt.mpr hlt) (by decide)) hu1 (h u ν s2 hs2.weak rfl hu2) (plain_slice hs))
theorem strC_cat : ∀ (a b : List Str), catS (strC a) (strC b) = strC (a ++ b)
  | [], _ => rfl
  | x :: r, b => congrArg (SV.p (.s x)) (strC_cat r b)
theorem strC_len : ∀ (a : List Str), len (strC a) = a.length
  | [] => rfl
  | x :: r => congrArg Nat.succ (strC_len r)
theorem ex_addS {a b : List Str} (X1 : Ex K sc s0 z σ ν e1 (.l (strC a)) (Ext ν)) (X2 : ∀ ν1, Ext ν ν1 → Ex K sc s0 false σ ν1 e2 (.l (strC b)) (Ext ν1)) (hz : a.length + b.length ≤ 1000) : Ex K sc s0 z σ ν (.BinOp e1 .Add e2 p) (.l (strC (a ++ b))) (Ext ν) :=
  strC_cat a b ▸ ex_addL X1 X2 (by rw [strC_len, strC_len]; exact hz)
theorem strC_chain (f : Nat → Str) : ∀ n, chainOf (outsUp (fun _ => true) (fun r => .s (f r)) n) = strC ((List.range n).map f) := by
  have snoc : ∀ (l : List SV) (x : Str) (ys : List Str), chainOf l = strC ys → chainOf (l ++ [.s x]) = strC (ys ++ [x]) := by
    intro l
    induction l with
    | nil =>
      intro x ys h
      cases ys with
      | nil => rfl
      | cons a r => cases h
    | cons a l ih =>
      intro x ys h
      cases ys with
      | nil => cases h
      | cons b r =>
        injection h with h1 h2
        subst h1
        exact congrArg (SV.p (.s b)) (ih x r h2)
  intro n
  induction n with
  | zero => rfl
  | succ n ih =>
    rw [List.range_succ, List.map_append]
    exact snoc _ _ _ ih
theorem own_cells {n : Nat} (h : K.ow = cellsFrom n sc.names []) : Own K sc := fun x hx => h ▸ cellsFrom_some _ _ _ (.inl (isK_of hx).1)
/-- a def of the text that grows tables, its arguments may leave things behind -/
theorem ex_callBX (G : PGood K sc lv) (t : Tabs ν) {f : Str} {fa : Addr} {lv' : Nat} (ha : ∀ P, nsIn (hd.heap_39 P) mainGlobals f = some (some (.ref fa))) (hfn : FnIs fa) (hlv : lv' ≤ lv)
    (X : ExL K sc s0 z σ ν es x) (C : FnB fa lv' x sv) (hf : isGlo sc f = true := by rfl) (hok : okArgs es = true := by rfl) : Ex K sc s0 z σ ν (.Call (.Name f p) es [] pos) sv (fun ν' => ∃ ν1, Ext ν ν1 ∧ One ν1 ∧ Grw ν1 ν') := fun s E Q hs h => by
  refine wpAny_Call_NameR (name_glob G.env G hf ha hs ?_)
  obtain ⟨e, r, rfl, e1, e2⟩ := ok_args (env := K.env sc) hok
  refine callWith_F (hs.fnAt G hfn) (X pos s _ _ hs fun us ν1 s1 hs1 S1 hu => ⟨hs1.fnAt G hfn, ?_⟩) e1 (star_plain e2)
  have one : One ν1 := by
    refine PAt.el hs1 fun m cm κ D => ?_
    exact D.one
  exact call_vs G hlv (C ν1 us hu) (fun r => ⟨fun _ => List.mem_append_left _, (t.mono S1).app r⟩) (gives_grB (t.mono S1)) hs1 fun u ν' s' hs' hT => h u ν' s' hs' ⟨ν1, S1, one, hT.1⟩ hT.is
theorem tri_unpO {k : Nat} {tp : Pos} (G : PGood K sc lv) (H : Own K sc) (X : Ex K sc s0 z σ ν e (.t x) S) (hn : NamesIn (own sc) es x σ = some σ') (h : ∀ ν', S ν' → Tri K sc s0 false σ' ν' rest R)
    (hsw : swapsWithSole [.Tuple es k tp] e p.line (K.env sc) = pure false := by rfl) (hw : swappedStores [.Tuple es k tp] e (K.env sc) = pure none := by rfl) : Tri K sc s0 z σ ν (.Assign [.Tuple es k tp] e p :: rest) R := fun s hs => by
  refine wpAny_execs_cons (Assign_Tuple (X s _ _ hs fun u ν' s' hs' hS hu => ?_) hsw hw)
  refine Is.te hu fun q us hm hu => ?_
  exact unpack_at (stores_own (s0 := s0) G H) G.han hn hs' ⟨_, hs'.new hm, rfl, 0, rfl⟩ hu (h ν' hS)
end
end Mine
end
noncomputable section
open PySem PySem.W PyProof.Rows PySem.Spec PySem.Calls
namespace Mine
set_option genInjectivity false
set_option genSizeOf false
/-! what the law's own body needs -/
section
variable {K : PC} {sc : Scope} {lv : Nat} {ν ν' ν1 ν2 : Lg} {s0 : Shared} {σ σ' : Sg} {z z' : Bool} {s : Shared} {Φ : Ora} {R : Flow → Shared → Prop} {rest body : List Stmt} {E Q : Value → Shared → Prop} {x y a b sv : SV} {us : List Value} {S S' : Lg → Prop} {p pos p2 : Pos} {e e1 e2 : Expr} {es : List Expr} {c : List Prop} {env : Env} {n : Nat} {item : Nat → SV} {m cm : Str → Option Value} {κ : Lg × Lg}
theorem no_enum : ∀ P, nsIn (hd.heap_39 P) mainGlobals (Str.ofString "enumerate") = some none := fun _ => rfl
theorem bt_enum : bootBuiltins (Str.ofString "enumerate") = some (.type "enumerate") := by decide +kernel
/-- an enumerate's machine over a list -/
noncomputable def EnS (e it l : Addr) (items : Array Value) (i : Nat) (h : Heap) : Prop := (∃ old, IsEnum h e it i old) ∧ h.IsListIter it l i ∧ h.IsList l items
noncomputable def EnX (e it l : Addr) (items : Array Value) (i : Nat) (X : Lg) : Prop := ∃ oE oI, X = [(e, oE), (it, oI)] ∧ ∃ h, EnS e it l items i h ∧ h.get? e = some oE ∧ h.get? it = some oI
theorem EnS.at {e it l : Addr} {items : Array Value} {i : Nat} {h g : Heap} {oE oI : Obj} (st : EnS e it l items i h) (a : h.get? e = some oE) (b : h.get? it = some oI) (a' : g.get? e = some oE) (b' : g.get? it = some oI) (hl : g.IsList l items) : EnS e it l items i g := by
  obtain ⟨⟨old, h1⟩, ⟨o, h2, h3⟩, -⟩ := st
  refine ⟨⟨old, ?_⟩, ⟨oI, b', ?_⟩, hl⟩
  · have h1 : h.get? e = some _ := h1
    cases a.symm.trans h1
    exact a'
  · cases b.symm.trans h2
    exact h3
theorem EnS.of {e it l : Addr} {items : Array Value} {i : Nat} {h : Heap} (st : EnS e it l items i h) : ∃ oE oI, h.get? e = some oE ∧ h.get? it = some oI := by
  obtain ⟨⟨old, h1⟩, ⟨o, h2, h3⟩, -⟩ := st
  exact ⟨_, o, h1, h2⟩
theorem src_enum (H : EnvOK env) (hA : K.A.handled = none) (G : PGood K sc lv) {k : Nat} {tp : Pos} (X : ExE K sc env s0 z σ ν e sv S) (hl : lSrc sv = some (n, item)) (hf : isGlo env.scope (Str.ofString "enumerate") = true := by rfl) (hok : noStar [e] = true := by rfl) :
    Src K sc env s0 z σ ν (.Call (.Name (Str.ofString "enumerate") p) [e] [] pos) (.Tuple es k tp) true n (fun i => .t (.p (.i i) (.p (item i) .nl))) S := fun s E Q hs h => by
  refine wpAny_Call_NameR (name_built H G hf no_enum bt_enum (by decide) hs ?_)
  refine PyProof.Rows.callWith_type1 (spliced_more (X s _ _ hs fun u ν1 s1 hs1 S1 hu => spliced_none ?_) (star_cons (env := env) hok).1) (star_cons (env := env) hok).1 rfl
  obtain ⟨q, us, k', rfl, hm, hn, hi⟩ := (lSrc_is hu).get hl
  refine PAt.el hs1 fun m cm κ D => ?_
  have hq := (D.N _ (List.mem_append_left _ hm)).1
  have hn : us.length = n := hn
  have P1 := D.push (listO [] 0)
  have A1 := (P1.N _ (List.mem_append_left _ (.head _))).2
  have A2 := ((P1.push (listO [] 0)).N _ (List.mem_append_left _ (.head _))).2
  have o1 := D.new_off
  have o2 := P1.new_off
  rw [show (s1.heap.push (listO [] 0)).objs.size = s1.heap.objs.size + 1 from Heap.size_push ..] at A2 o2
  refine call_enumerate_1 hq fun h' hE hI hsz hk => wpAny_pyIter_enum hE ?_
  have lt : ∀ p ∈ ν1, @LT.lt Nat _ p.1 s1.heap.objs.size := fun p hp => Heap.lt_size (D.N p (List.mem_append_left _ hp)).1
  have hlt := lt _ hm
  clear P1
  generalize s1.heap.objs.size = it at *
  have W := WalksT.enumerate (prog := PySem.Challenge.rw_uk0013_01.row.prog) (w := K.w) hA (it + 1) it q (Nat.succ_ne_self it) (Nat.ne_of_lt (Nat.lt_succ_of_lt hlt)) (Nat.ne_of_lt hlt) us.toArray
  rw [show us.toArray.size = n from (List.size_toArray ..).trans hn] at W
  have st0 : EnS (it + 1) it q us.toArray 0 h' := ⟨⟨_, hE⟩, hI, ⟨_, hk _ _ hq, rfl, k', rfl⟩⟩
  obtain ⟨oE, oI, gE, gI⟩ := st0.of
  have lat : ∀ {qz : Lg} {X : Lg} {ν : Lg} {s0 : Shared} {σ : Sg} {s : Shared} {m cm : Str → Option Value} {κ : Lg × Lg} {i : Nat}, EnX (it + 1) it q us.toArray i X → (∀ p ∈ ν1.filter seqO, p ∈ ν) → PAtD ((K.wz qz).frs X) sc ν s0 σ false s m cm κ → EnS (it + 1) it q us.toArray i s.heap := by
    rintro qz X ν s0 σ s m cm κ i ⟨oE, oI, rfl, h, st, a, b⟩ hkl D
    exact st.at a b (D.atX (.head _)).1 (D.atX (.tail _ (.head _))).1 ⟨_, (D.N _ (List.mem_append_left _ (hkl _ (List.mem_filter.mpr ⟨hm, rfl⟩)))).1, rfl, k', rfl⟩
  have adr : ∀ {i : Nat} {X : Lg}, EnX (it + 1) it q us.toArray i X → X.map (·.1) = [it + 1, it] := by
    rintro i X ⟨oE, oI, rfl, -⟩
    rfl
  refine h (it + 1) [(it + 1, oE), (it, oI)] (EnX (it + 1) it q us.toArray) _ ν1 (ν1.filter seqO) m cm κ S1 (fun p hp => (List.mem_filter.mp hp).1) (fun p hp => (List.mem_filter.mp hp).2) ?_ ⟨oE, oI, rfl, h', st0, gE, gI⟩ ((D.grow hk).into (fun p hp => ?_) (fun p hp hx => ?_) ?_)
  · refine ⟨fun {qz i X ν s0 σ s m cm κ Q E} hlt2 st hkl D2 hQ => ?_, fun {qz X ν s0 σ s m cm κ Q E} st hkl D2 hQ => ?_, fun {qz i X ν s0 σ s m cm κ Q E} st hkl D2 hQ => W.self i _ _ _ (lat st hkl D2) hQ⟩
    · refine W.item i _ _ _ hlt2 (lat st hkl D2) fun T vals h1 tk hPt hTs hTt hMid kp => hQ _ _ fun hq2 => W.go _ _ _ i T _ _ _ hMid fun h3 st3 kp3 => ?_
      obtain ⟨oE', oI', gE', gI'⟩ := EnS.of st3
      obtain ⟨t, v, hv, rfl⟩ := hPt
      refine hq2 _ [(it + 1, oE'), (it, oI')] (adr st).symm ⟨oE', oI', rfl, h3, st3, gE', gI'⟩ ⟨_, T, [.int i t, v], rfl, rfl, ?_, ⟨_, _, rfl, ⟨t, rfl⟩, _, _, rfl, (is_seq _).1 _ (hi i v (by rwa [List.getElem?_toArray] at hv)) |>.mono hkl, rfl⟩⟩ (D2.swap tk (fun b o hb e => kp3 b o (adr st ▸ hb) (kp b o (adr st ▸ hb) e)) (adr st).symm fun p hp => ?_)
      · obtain ⟨o, a, b⟩ := hTt
        exact ⟨o, kp3 _ _ (W.apart _ _ _ hMid) a, b⟩
      · refine mem_c hp ?_ fun hp => ?_
        · exact gE'
        · cases List.mem_singleton.mp hp
          exact gI'
    · exact W.done _ _ _ (lat st hkl D2) fun h1 tk kp => hQ _ (D2.drop tk fun b o hb => kp b o (adr st ▸ hb))
  · refine mem_c hp ?_ fun hp => ?_
    · exact ⟨gE, A2⟩
    · cases List.mem_singleton.mp hp
      exact ⟨gI, A1⟩
  · rcases List.mem_cons.mp hx with e | hx
    · have q : p.1 = it + 1 := e
      have := lt p hp
      rw [q] at this
      exact absurd this (Nat.not_lt.mpr (Nat.le_succ it))
    · exact Nat.ne_of_lt (lt p hp) (List.mem_singleton.mp hx)
  · exact List.nodup_cons.mpr ⟨fun hx => (List.mem_cons.mp hx).elim (fun e => Nat.succ_ne_self it e) o2, List.nodup_cons.mpr ⟨o1, D.M⟩⟩
/-! slices -/
noncomputable def partS (Φ : Ora) (σ : Sg) (z : Bool) : Option Expr → Option (Option Int × Bool × List Prop)
  | none => some (none, z, [])
  | some e => bnd (ev Φ σ z e) fun x z1 p => (iOf x).bind fun i => some (some i, z1, p)
variable {At : Bool → Shared → Prop} {w : World} {A : Around} {σe : Sg} {lo hi st : Option Int} {e3 : Option Expr}
theorem part_ok (V : EV w A env ν At σe Φ) {e : Option Expr} (h : partS Φ σe z e = some (lo, z', c)) (hc : All c) (hs : At z s) (hq : ∀ v s', At z' s' → IsPart v lo → Q v s') : wpAny (PM w) A (evalPart e env) Q E s := by
  cases e with
  | none => cases h; exact wpAny_pure (hq _ _ hs .none)
  | some e =>
    cases h1 : ev Φ σe z e with
    | none => rw [show partS Φ σe z (some e) = bnd (ev Φ σe z e) _ from rfl, h1] at h; cases h
    | some r =>
    obtain ⟨x, z1, q⟩ := r
    rw [show partS Φ σe z (some e) = bnd (ev Φ σe z e) _ from rfl, h1] at h
    obtain ⟨i, h2, h⟩ := Option.bind_eq_some_iff.mp h
    cases h
    exact ev_ok V h1 hc hs fun u s' hs' hu => by
      obtain ⟨t, rfl⟩ := (iOf_is hu).get h2
      exact hq _ _ hs' (.int i t)
/-- a slice of a list told by a name -/
theorem exE_slice {z1 z2 z3 : Bool} {f g k : Option Expr} {c1 c2 c3 : List Prop} {np sp : Pos} {w : Str} (V : EV K.w K.A env ν (PAt K sc ν s0 σ) σe Φ) (hl : σe.lookup w = some sv) (hM : isM sv = false) (h1 : partS Φ σe z f = some (lo, z1, c1)) (hc1 : All c1) (h2 : partS Φ σe z1 g = some (hi, z2, c2)) (hc2 : All c2) (h3 : partS Φ σe z2 k = some (st, z3, c3)) (hc3 : All c3) (h0 : st ≠ some 0)
    (hv : ∀ u, Is ν sv u → ∃ q us n, u = .ref q ∧ (q, listO us n) ∈ ν ∧ us.length ≤ 1000 ∧ ∀ ν' D, (∀ p ∈ ν, p ∈ ν') → (D, listO (slicePick us.toArray lo hi st).toList 0) ∈ ν' → Is ν' x (.ref D)) (hss : ∀ l n : Addr, ∃ ops, subscripted (.Slice f g k sp) false (.ref l) (.ref n) = operate ops (getItem (.ref l) (.ref n))) :
    ExE K sc env s0 z σ ν (.Subscript (.Name w np) (.Slice f g k sp) p) x (Ext ν) := fun s E Q hs h =>
  Subscript_ (V.loc hl hM hs fun u hu => wpAny_Slice (part_ok V h1 hc1 hs fun v1 s1 hs1 p1 => part_ok V h2 hc2 hs1 fun v2 s2 hs2 p2 => part_ok V h3 hc3 hs2 fun v3 s3 hs3 p3 => by
    obtain ⟨q, us, n, rfl, hm, hz, hx⟩ := hv u hu
    refine PAt.el hs3 fun m cm κ D => ?_
    obtain ⟨ops, hs⟩ := hss q s3.heap.objs.size
    refine kmk_slice3_lit (zs := (slicePick us.toArray lo hi st).toList) D.F D.N ⟨_, (D.N _ (List.mem_append_left _ hm)).1, rfl, n, rfl⟩ p1 p2 p3 h0 rfl (fun q2 h' F' N' lt => ?_) hs (fun _ => rfl) (by rw [List.size_toArray]; exact Nat.le_trans hz (Nat.le_of_ble_eq_true rfl))
    have lt' : ∀ p ∈ ν, @LT.lt Nat _ p.1 q2 := fun p hp => lt p (List.mem_append_left _ hp)
    refine h _ ((q2, listO _ 0) :: ν) _ ⟨m, cm, κ, D.heap s3.toks F' N' (fun p hp => ?_) fun sv u => Is.mono fun _ => .tail _⟩ .one (hx _ _ (fun _ => .tail _) (.head _))
    refine mem_c hp ?_ fun hp => ?_
    · exact fun hq => by
        obtain ⟨o, ho⟩ := D.hidden hq
        exact Nat.lt_irrefl _ (lt _ (List.mem_append_right _ ho))
    · exact D.O p hp))
theorem ints_pick {ns : List Int} (hz : ns.length ≤ 1000) {u : Value} (h : Is ν (.li ns) u) : ∃ q us n, u = .ref q ∧ (q, listO us n) ∈ ν ∧ us.length ≤ 1000 ∧ ∀ ν' D, (∀ p ∈ ν, p ∈ ν') → (D, listO (slicePick us.toArray lo hi st).toList 0) ∈ ν' → Is ν' (.li (pickNums ns lo hi st)) (.ref D) := by
  obtain ⟨q, us, n, e, hm, hi⟩ := h
  exact ⟨q, us, n, e, hm, hi.length ▸ hz, fun ν' D _ hD => ⟨D, _, 0, rfl, hD, .of (hi.are.pick _ _ _)⟩⟩
/-! a builtin called on what is made -/
theorem exE_bi {f : Str} {fv : Value} {φ : SV → R2} (H : EnvOK env) (G : PGood K sc lv) (B : BiOK K sc fv φ) (hv : bootBuiltins f = some fv) (hvk : (∃ id, fv = .builtin id) ∨ ∃ T, fv = .type T) (ha : ∀ P, nsIn (hd.heap_39 P) mainGlobals f = some none) (hn : f ≠ "__name__") (X : ExE K sc env s0 z σ ν e a S) (hφ : φ (.p a .nl) = some (sv, c)) (hc : All c) (hf : isGlo env.scope f = true := by rfl) (hst : noStar [e] = true := by rfl) :
    ExE K sc env s0 z σ ν (.Call (.Name f p) [e] [] pos) sv S := fun s E Q hs h => by
  refine wpAny_Call_NameR (name_built H G hf ha hv hn hs ?_)
  have args : wpAny (PM K.w) K.A (spliced (backTo pos (starEach [e] env))) (fun us s1 => wpAny (PM K.w) K.A (call fv us) Q E s1) E s := spliced_more (X s _ _ hs fun u ν1 s1 hs1 S1 hu => spliced_none ((B K.fz ν1 s0 σ false s1 (.p a .nl) [u] _ _ ⟨u, [], rfl, hu, rfl⟩ hs1).get hφ hc fun u2 s2 hs2 hu2 => h u2 ν1 s2 hs2 S1 hu2)) (star_cons (env := env) hst).1
  rcases hvk with ⟨id, rfl⟩ | ⟨T, rfl⟩
  · exact callWith_builtin1 args (star_cons (env := env) hst).1 rfl
  · exact PyProof.Rows.callWith_type1 args (star_cons (env := env) hst).1 rfl
noncomputable def φsum : SV → R2 := one1 fun a => (liOf a).bind fun l => some (.i l.sum, [])
theorem bi_sum (G : PGood K sc lv) : BiOK K sc (.builtin "sum") φsum := by
  intro q ν s0 σ z s x us E Q hu hs
  refine one1_is hu fun a u e ha => .bind (liOf_is ha) fun l ⟨q', us, n, e2, hm, hi⟩ hc h => ?_
  subst e e2
  refine PAt.el hs fun m cm κ D => ?_
  exact LSm.sum_ints D.F D.N G.han ⟨_, (D.N _ (List.mem_append_left _ hm)).1, rfl, n, rfl⟩ hi.are fun h' tk t' F' N' => h _ _ ⟨m, cm, κ, D.heap tk F' N' D.O fun _ _ h => h⟩ ⟨t', rfl⟩
theorem no_sum : ∀ P, nsIn (hd.heap_39 P) mainGlobals (Str.ofString "sum") = some none := fun _ => rfl
theorem bt_sum : bootBuiltins (Str.ofString "sum") = some (.builtin "sum") := by decide +kernel
/-- an operator, what stands right may leave things behind -/
theorem exE_binR {op : Operator} {d : List Prop} {z1 : Bool} (G : PGood K sc lv) (V : EV K.w K.A env ν (PAt K sc ν s0 σ) σe Φ) (he : ev Φ σe z e1 = some (a, z1, c)) (hc : All c) (X : ExE K sc env s0 z1 σ ν e2 b S) (hp : ∀ ν1 u, S ν1 → Is ν a u → Is ν1 a u) (hb : bin false op a b = some (sv, d)) (hd : All d) : ExE K sc env s0 z σ ν (.BinOp e1 op e2 p) sv S := fun s E Q hs h =>
  wpAny_BinOp (ev_ok V he hc hs fun u1 s1 hs1 i1 => X s1 _ _ hs1 fun u2 ν2 s2 hs2 S2 i2 => (bin_ok (ev_of G .nil) hs2 op (hp ν2 u1 S2 i1) i2).get hb hd fun u s3 hs3 hu => h u ν2 s3 hs3.weak S2 hu)
theorem outs_map {out : Nat → SV} : ∀ n, outsUp (fun _ => true) out n = (List.range n).map out
  | 0 => rfl
  | n + 1 => by rw [List.range_succ, List.map_append, ← outs_map n]; rfl
theorem outs_li {f : Nat → Int} {n : Nat} {u : Value} (h : Is ν (.l (chainOf (outsUp (fun _ => true) (fun i => .i (f i)) n))) u) : Is ν (.li ((List.range n).map f)) u := by
  rw [outs_map, show (List.range n).map (fun i => SV.i (f i)) = ((List.range n).map f).map SV.i from (List.map_map ..).symm] at h
  obtain ⟨q, us, k, e, hm, hu⟩ := h
  exact ⟨q, us, k, e, hm, chain_li hu⟩
noncomputable def φchr : SV → R2 := one1 fun a => (iOf a).bind fun i => some (.s ⟨#[i.toNat]⟩, [0 ≤ i, i ≤ 65000])
theorem bi_chr (G : PGood K sc lv) : BiOK K sc (.builtin "chr") φchr := by
  intro q ν s0 σ z s x us E Q hu hs
  refine one1_is hu fun a u e ha => .bind (iOf_is ha) fun i ⟨t, e2⟩ hc h => ?_
  subst e e2
  exact chr_of_range hc.1 (Int.le_trans hc.2.1 (by decide)) (h _ _ hs.tick.weak ⟨_, rfl⟩)
theorem no_chr : ∀ P, nsIn (hd.heap_39 P) mainGlobals (Str.ofString "chr") = some none := fun _ => rfl
theorem bt_chr : bootBuiltins (Str.ofString "chr") = some (.builtin "chr") := by decide +kernel
end
end Mine
end
noncomputable section
open PySem PySem.W PyProof.Rows PySem.Spec PySem.Calls
namespace Mine
set_option genInjectivity false
set_option genSizeOf false
/-- the parts of a table of made code -/
noncomputable def tabPs : List (Int × Int × Addr) → List Value
  | [] => []
  | (ln, co, c) :: r => rawInt ln :: rawInt co :: .ref c :: tabPs r
theorem tabPs_ok : ∀ es : List (Int × Int × Addr), TriplesOk (tabPs es)
  | [] => trivial
  | (_, _, _) :: r => tabPs_ok r
theorem tabPs_snoc (es : List (Int × Int × Addr)) (ln co : Int) (c : Addr) : tabPs (es ++ [(ln, co, c)]) = tabPs es ++ [rawInt ln, rawInt co, .ref c] := by
  induction es with
  | nil => rfl
  | cons e r ih => obtain ⟨a, b, d⟩ := e; simp only [List.cons_append, tabPs, ih]
theorem tabPs_among {pos : Pos} : ∀ es : List (Int × Int × Addr), codeAmong pos (tabPs es) = none ∨ ∃ e ∈ es, codeAmong pos (tabPs es) = some (.ref e.2.2)
  | [] => .inl rfl
  | (ln, co, c) :: r => by
    show (if (ln == pos.line && co == pos.col) = true then some (Value.ref c) else codeAmong pos (tabPs r)) = none ∨ _
    by_cases q : (ln == pos.line && co == pos.col) = true
    · exact .inr ⟨_, .head _, by show (if _ then _ else _) = _; rw [if_pos q]⟩
    · rcases tabPs_among (pos := pos) r with h | ⟨e, he, h⟩
      · exact .inl (by rw [if_neg q]; exact h)
      · exact .inr ⟨e, .tail _ he, by show (if _ then _ else _) = _; rw [if_neg q]; exact h⟩
/-- a maker's table of inner code of one name: its codes stand behind -/
noncomputable def LTab (qual : Str) (ps : Array Value) (tl : List (Addr × Obj)) : Prop :=
  ∃ es : List (Int × Int × Addr), ps = (tabPs es).toArray ∧ ∀ e ∈ es, ∃ oc vs t, (e.2.2, oc) ∈ tl ∧ oc.data = .fields vs ∧ vs[1]? = some (.str qual t)
theorem LTab.nil {qual : Str} {tl : List (Addr × Obj)} : LTab qual #[] tl := ⟨[], rfl, fun _ h => nomatch h⟩
theorem LTab.mono {qual : Str} {ps : Array Value} {tl tl' : List (Addr × Obj)} (h : LTab qual ps tl) (hs : ∀ p ∈ tl, p ∈ tl') : LTab qual ps tl' := by
  obtain ⟨es, e, he⟩ := h
  exact ⟨es, e, fun x hx => by obtain ⟨oc, vs, t, a, b⟩ := he x hx; exact ⟨oc, vs, t, hs _ a, b⟩⟩
section
variable {prog : Program} {w : World} {A : Around} {E : Value → Shared → Prop} {s : Shared} {h₀ : Heap} {L c P a : Addr} {m mg mb : Str → Option Value} {p : Program} {loose : List Str} {mean : ExcName → Option Value} {tl : List (Addr × Obj)} {ps : Array Value} {name qual cn : Str} {cs scope : Scope} {ccd : Value} {cl clos : List (Str × Addr)} {params : Arguments} {body : Expr} {pos : Pos} {firstLine : Nat}
theorem lam_any {front : List (Addr × Obj)} {Q : Value → Shared → Prop} (F : Fr h₀ L s.heap m) (N : News h₀ L s.heap ((P, tabObj ps) :: (front ++ tl))) (T : Top p loose mean mg mb h₀) (C : CodeHd h₀ c P) (hcd : ccd = .ref c) (hP : ∀ q ∈ front ++ tl, q.1 ≠ P) (hT : LTab qual ps tl)
    (hcl : closureFor scope (envX cn cs L a ccd cl) = pure clos)
    (h : ∀ f c' oc vs t ctv pm ps' tl' h' tk, Fr h₀ L h' m → News h₀ L h' ((f, kla_obj name qual params body scope clos pm c' ctv) :: (P, tabObj ps') :: (front ++ tl')) →
      (c', oc) ∈ tl' → oc.data = .fields vs → vs[1]? = some (.str qual t) → LTab qual ps' tl' → (∀ q ∈ tl, q ∈ tl') → (∀ q ∈ tl', q ∈ tl ∨ ∀ r ∈ (P, tabObj ps) :: (front ++ tl), @LT.lt Nat _ r.1 q.1) → (∀ q ∈ (P, tabObj ps') :: (front ++ tl'), @LT.lt Nat _ q.1 f) → Q (.ref f) { s with heap := h', toks := tk }) :
    wpAny (model prog w) A (makeFunction name qual params (.expr body) scope (envX cn cs L a ccd cl) [] [] [] pos firstLine) Q E s := by
  obtain ⟨es, rfl, he⟩ := hT
  rcases tabPs_among (pos := pos) es with hn | ⟨e, hm, hf⟩
  · refine kla_nest (ps := (tabPs es).toArray) F N T C hcd (UpdF.head hP) (by rw [List.toList_toArray]; exact tabPs_ok es) (by rw [List.toList_toArray]; exact hn) hcl fun f c' oc vs t ctv h' tk F' N' d1 d2 l1 l2 => ?_
    have e1 : (tabPs es).toArray ++ #[rawInt pos.line, rawInt pos.col, .ref c'] = (tabPs (es ++ [((pos.line : Int), (pos.col : Int), c')])).toArray := by rw [tabPs_snoc]; simp
    rw [e1] at N'
    refine h f c' oc vs t ctv ((mg "__name__").getD .none) (tabPs (es ++ [((pos.line : Int), (pos.col : Int), c')])).toArray ((c', oc) :: tl) h' tk F' (fun q hq => N' q ?_) (.head _) d1 d2 ⟨es ++ [((pos.line : Int), (pos.col : Int), c')], rfl, fun x hx => ?_⟩ (fun q hq => .tail _ hq) (fun q hq => ?_) (fun q hq => ?_)
    · simp only [List.mem_cons, List.mem_append] at hq ⊢
      rcases hq with h | h | h | h | h <;> simp [h]
    · rcases List.mem_append.mp hx with hx | hx
      · obtain ⟨oc, vs, t, a, b⟩ := he x hx; exact ⟨oc, vs, t, .tail _ a, b⟩
      · rw [List.mem_singleton.mp hx]; exact ⟨oc, vs, t, .head _, d1, d2⟩
    · refine mem_c hq ?_ fun hq => ?_
      · exact .inr fun r hr => l1 r hr
      · exact .inl hq
    · have up : ∀ r ∈ (P, tabObj (tabPs es).toArray) :: (front ++ tl), @LT.lt Nat _ r.1 f := fun r hr => Nat.lt_trans (l1 r hr) l2
      simp only [List.mem_cons, List.mem_append] at hq
      rcases hq with rfl | h | rfl | h
      · exact up (P, tabObj (tabPs es).toArray) (.head _)
      · exact up _ (.tail _ (List.mem_append_left _ h))
      · exact l2
      · exact up _ (.tail _ (List.mem_append_right _ h))
  · obtain ⟨oc, vs, t, hc, d1, d2⟩ := he e hm
    refine kla_hit (ps := (tabPs es).toArray) F N T C hcd (.head _) (by rw [List.toList_toArray]; exact tabPs_ok es) (by rw [List.toList_toArray]; exact hf) hcl fun f ctv h' tk F' N' l1 => ?_
    exact h f e.2.2 oc vs t ctv ((mg "__name__").getD .none) (tabPs es).toArray tl h' tk F' N' hc d1 d2 ⟨es, rfl, he⟩ (fun _ h => h) (fun q hq => .inl hq) l1
end
section
variable {f c' : Addr} {lv : Nat} {vs : List Value} {kw : List (Str × Value)} {R : List (Addr × Obj) → List (Addr × Obj) → Value → Prop} {name qual : Str} {params : Arguments} {body : Expr} {scope : Scope} {cl : List (Str × Addr)} {pm ctv : Value} {oc : Obj} {vcs : Array Value} {t : Tok}
/-- a lambda made, entered once -/
theorem mc_lam (binds : List (Str × Value)) (req : List (Addr × Obj)) {P : List (Addr × Obj) → Prop} (hPr : ∀ news, P news → ∀ p ∈ req, p ∈ news) (hf : (f, kla_obj name qual params body scope cl pm c' ctv) ∈ req) (hc : (c', oc) ∈ req) (hdd : oc.data = .fields vcs) (hv : vcs[1]? = some (.str qual t))
    (hbind : bindArgs (kla_fn name qual params body scope cl pm (.ref c') ctv) ⟨vs, kw⟩ = pure binds)
    (hnd : (binds.map (·.1)).Nodup) (hloc : ∀ y ∈ binds, scope.names.lookup y.1 = some .local)
    (hco : scope.isCoroutine = false) (hgen : scope.isGenerator = false) (hk : scope.kind = .function) (hcell : ∀ x ∈ scope.names, x.2 ≠ .cell) (hlv : 1 ≤ lv)
    (h : ∀ (w : World) (p : Program) (loose : List Str) (mean : ExcName → Option Value) (mg mb : Str → Option Value) (news : List (Addr × Obj)) (dp un : Nat) (gd : Option (List Code)) (outer : List Env) (A₀ : Around) (base g : Heap) (L' : Addr) (s : Shared),
      Below A₀ base outer g → (hd.heap_39 w.params).In g → Top p loose mean mg mb g → P news → dp + 10 * lv < recursionLimit + 1 → un + 100 * lv < cLine + 3 →
      Fr g L' s.heap (ofL binds) → News g L' s.heap news →
      wpAny (model PySem.Challenge.rw_uk0013_01.row.prog w) (ktrTop dp un gd qual scope L' f (.ref c') cl outer) (eval body (envX qual scope L' f (.ref c') cl)) (fun v s' => Done g L' (R news) s v s') (fun _ _ => False) s) :
    MCk f lv vs kw P R := by
  intro w p loose mean mg mb news dp un gd cn cs a ccd cl' outer A₀ base h₀ L m s Q E B F X N T hck hP hdp hun ret
  have N1 := N _ (hPr _ hP _ hc)
  refine wpAny_call ?_
  refine kla_code B F X N T rfl rfl hck (hPr _ hP _ hf) ⟨c', oc, vcs, t, rfl, N1.1, hdd, hv⟩ (by show dp < recursionLimit; lia) hbind hloc (fun g L' h₁ FG F' N' B' X' T' => ?_) hco hgen hk hcell
  rw [ofL_rev binds hnd] at F'
  refine wpAny_mono (h w p loose mean mg mb news (dp + 1) (un + 3) gd (envX cn cs L a ccd cl' :: outer) _ base g L' { s with heap := h₁, toks := s.toks + binds.length } B' X' T' hP (by lia) (by lia) F' N') (fun v s' hd => ?_) fun _ _ z => z.elim
  obtain ⟨h', tk', m', news', rfl, F₂, N₂, r⟩ := hd
  exact ⟨L', m', news', F₂, N₂, fun Fc Nc => ret _ news' h' tk' r Fc Nc⟩
end
noncomputable abbrev lamA (p0 : Pos) : Arguments := { posonlyargs := [], args := [{ arg := Str.ofString "one", annotation := none, pos := p0 }], vararg := none, kwonlyargs := [], kw_defaults := [], kwarg := none, defaults := [] }
noncomputable abbrev lamB (p1 p2 p3 p4 p5 : Pos) (k1 k2 : Nat) : Expr := .Subscript (.Subscript (.Name (Str.ofString "one") p1) (.Constant (.int 1) k1 p2) p3) (.Constant (.int 0) k2 p4) p5
noncomputable abbrev lamS : Scope := { kind := .function, names := [(Str.ofString "one", .local)], more := [], isGenerator := false, isCoroutine := false }
noncomputable abbrev qL : Str := Str.ofString "law.<locals>.<lambda>"
/-- the three tables stand -/
noncomputable def LT (ν : Lg) : Prop := Tabs ν ∧ ∃ ps, (206, tabObj ps) ∈ ν ∧ LTab qL ps ν
theorem LT.mono {ν ν' : Lg} (h : LT ν) (hs : ∀ p ∈ ν, p ∈ ν') : LT ν' := ⟨fun T hT => (h.1 T hT).imp fun _ t => ⟨hs _ t.1, t.2.imp id fun ⟨c, oc, vs, t, e, m, r⟩ => ⟨c, oc, vs, t, e, hs _ m, r⟩⟩, h.2.imp fun _ t => ⟨hs _ t.1, t.2.mono hs⟩⟩
theorem LTab.isTab {q : Str} {ps : Array Value} {l : Lg} {o : Obj} (h : LTab q ps l) (e : o = tabObj ps) : isTab o := ⟨ps, fun q t => by
  obtain ⟨es, rfl, -⟩ := h
  cases es with
  | nil => exact nofun
  | cons e r => obtain ⟨a, b, c⟩ := e; exact nofun, e⟩
theorem LT.grw {ν ν' : Lg} (one : One ν) (h : LT ν) (g : Grw ν ν') : LT ν' := by
  obtain ⟨ht, ps, hp, es, e, he⟩ := h
  exact ⟨g.tabs ht, ps, g.1 _ hp (by decide : (206 : Nat) ≠ 83) (by decide : (206 : Nat) ≠ 90), es, e, fun x hx => by
    obtain ⟨oc, vs, t, a, b, c⟩ := he x hx
    exact ⟨oc, vs, t, g.keep one ht _ a (code_not_tab b c), b, c⟩⟩
end Mine
end
noncomputable section
open PySem PySem.Sre
namespace Mine
noncomputable def RC1 : Array Nat := #[14, 4, 0, 1, 1, 6, 1, 16, 46, 1]
noncomputable def RC2 : Array Nat := #[14, 9, 4, 1, 2, 16, 10, 16, 13, 0, 7, 7, 16, 13, 16, 10, 15, 18, 5, 16, 10, 15, 13, 11, 16, 13, 5, 5, 0, 16, 10, 1, 15, 2, 0, 1]
/-- the machine on its way -/
noncomputable abbrev st (code text : Array Nat) (s pc pos handed : Nat) (om : Bool) (fr : List Sre.Frame) (wt : Nat) (ans : Option Bool) (seen : Seen) (out : Option Sre.Outcome) : M :=
  { code, text, lim := text.size, start := s, lastStart := text.size, wholeText := false, mustAdvance := false, pc, pos, handed, outermost := om, marks := #[], lastmark := -1, lastindex := -1, loops := #[], inner := none, frames := fr, weight := wt, answer := ans, seen, outcome := out }
noncomputable abbrev fr0 (pc s : Nat) (om : Bool) : Sre.Frame := { wait := .nextStart, pc, pos := s, outermost := om }
theorem runFor_add (a b : Nat) : ∀ m : M, m.runFor (a + b) = (m.runFor a).runFor b := by
  have stop : ∀ (b : Nat) (m : M), m.outcome.isSome = true → m.runFor b = m := by
    intro b m h
    cases b with
    | zero => rfl
    | succ b => rw [M.runFor, if_pos h]
  induction a with
  | zero => intro m; rw [Nat.zero_add]; rfl
  | succ a ih =>
    intro m
    rw [Nat.succ_add, M.runFor, M.runFor]
    by_cases h : m.outcome.isSome = true
    · rw [if_pos h, if_pos h, stop b m h]
    · rw [if_neg h, if_neg h, ih]
theorem runFor_stop (b : Nat) (m : M) (h : m.outcome.isSome = true) : m.runFor b = m := by
  cases b with
  | zero => rfl
  | succ b => rw [M.runFor, if_pos h]
theorem runFor_one (m : M) (h : m.outcome = none) (n : Nat) : m.runFor (n + 1) = m.step.runFor n := by
  rw [M.runFor, h]; rfl
theorem s1_at (text : Array Nat) (s p : Nat) (om : Bool) (fr : List Sre.Frame) (wt : Nat) (seen : Seen) :
    (st RC1 text s 5 p p om fr wt none seen none).step = if (p == 0 || text.getD (p - 1) 0 == 10) = true then st RC1 text s 7 p p om fr wt none ((seen.add 6).add 44) none else st RC1 text s 5 p p om fr wt (some false) ((seen.add 6).add 44) none := by
  rfl
theorem s1_lit (text : Array Nat) (s p : Nat) (om : Bool) (fr : List Sre.Frame) (wt : Nat) (seen : Seen) :
    (st RC1 text s 7 p p om fr wt none seen none).step = if p ≥ text.size then st RC1 text s 7 p p om fr wt (some false) (seen.add 16) none else match (text.getD p 0 == 46) with | true => st RC1 text s 9 (p + 1) p om fr wt none (seen.add 16) none | false => st RC1 text s 7 p p om fr wt (some false) (seen.add 16) none := by
  show (if p ≥ text.size then _ else _) = _
  by_cases hp : p ≥ text.size
  · rw [if_pos hp, if_pos hp]; rfl
  rw [if_neg hp, if_neg hp]
  have ha : ∀ sn, accepts RC1 7 (text.getD p 0) sn = .ok (text.getD p 0 == 46, sn) := fun _ => rfl
  cases h : (text.getD p 0 == 46) <;> rw [h] at ha <;> simp only [ha] <;> rfl
theorem s1_ok (text : Array Nat) (s p q : Nat) (om : Bool) (fr : List Sre.Frame) (wt : Nat) (seen : Seen) :
    (st RC1 text s 9 q p om fr wt none seen none).step = st RC1 text s 9 q q om fr wt (some true) (seen.add 1) none := by
  cases om <;> rfl
theorem s1_yes (text : Array Nat) (s pc q : Nat) (om om' : Bool) (seen : Seen) (hpc : pc = 9) :
    (st RC1 text s pc q q om [fr0 5 s om'] 1 (some true) seen none).runFor 2 = st RC1 text s 5 s q om' [] 0 (some true) seen (some .matched) := by
  subst hpc; rfl
theorem s1_no (text : Array Nat) (s pc p h : Nat) (om om' : Bool) (seen : Seen) (hs : s < text.size) :
    (st RC1 text s pc p h om [fr0 5 s om'] 1 (some false) seen none).step = st RC1 text (s + 1) 5 (s + 1) (s + 1) false [fr0 5 (s + 1) false] 1 none seen none := by
  show (if s < text.size then _ else _) = _
  rw [if_pos hs]
  rfl
theorem s1_end (text : Array Nat) (s pc p h : Nat) (om om' : Bool) (seen : Seen) (hs : ¬ s < text.size) :
    ((st RC1 text s pc p h om [fr0 5 s om'] 1 (some false) seen none).runFor 2).outcome = some .failed := by
  rw [runFor_one _ rfl]
  have : (st RC1 text s pc p h om [fr0 5 s om'] 1 (some false) seen none).step = st RC1 text s 5 s h om' [] 0 (some false) seen none := by
    show (if s < text.size then _ else _) = _
    rw [if_neg hs]
    rfl
  rw [this]; rfl
/-- what a search from s on ends with -/
noncomputable def Hits (hit : Nat → Option Nat) (size s : Nat) (m : M) : Prop :=
  (∃ p l, s ≤ p ∧ p < size ∧ hit p = some l ∧ (∀ j, s ≤ j → j < p → hit j = none) ∧ m.outcome = some .matched ∧ m.start = p ∧ m.handed = p + l) ∨ ((∀ j, s ≤ j → j < size → hit j = none) ∧ m.outcome = some .failed)
theorem Hits.back {hit : Nat → Option Nat} {size s : Nat} {m : M} (h0 : hit s = none) (h : Hits hit size (s + 1) m) : Hits hit size s m := by
  have up : ∀ {j}, s ≤ j → j ≠ s → s + 1 ≤ j := fun a b => by lia
  rcases h with ⟨p, l, a, b, c, d, e⟩ | ⟨a, e⟩
  · refine .inl ⟨p, l, by lia, b, c, fun j h1 h2 => ?_, e⟩
    by_cases q : j = s
    · rw [q, h0]
    · exact d j (up h1 q) h2
  · refine .inr ⟨fun j h1 h2 => ?_, e⟩
    by_cases q : j = s
    · rw [q, h0]
    · exact a j (up h1 q) h2
noncomputable def hit1 (text : Array Nat) (p : Nat) : Option Nat := if ((p == 0 || text.getD (p - 1) 0 == 10) && text.getD p 0 == 46) = true then some 1 else none
theorem go1 (text : Array Nat) : ∀ n s om om' seen, text.size - s = n → s ≤ text.size → ∃ k, k ≤ 8 * n + 8 ∧ Hits (hit1 text) text.size s ((st RC1 text s 5 s s om [fr0 5 s om'] 1 none seen none).runFor k) := by
  intro n
  induction n with
  | zero =>
    intro s om om' seen hn hs
    have hns : ¬ s < text.size := by lia
    have e1 := s1_at text s s om [fr0 5 s om'] 1 seen
    by_cases c1 : (s == 0 || text.getD (s - 1) 0 == 10) = true
    · rw [if_pos c1] at e1
      have e2 := s1_lit text s s om [fr0 5 s om'] 1 ((seen.add 6).add 44)
      rw [if_pos (by lia)] at e2
      refine ⟨4, by lia, .inr ⟨fun j _ _ => by lia, ?_⟩⟩
      rw [runFor_one _ rfl, e1, runFor_one _ rfl, e2]
      exact s1_end text s 7 s s om om' _ hns
    · rw [if_neg c1] at e1
      refine ⟨3, by lia, .inr ⟨fun j _ _ => by lia, ?_⟩⟩
      rw [runFor_one _ rfl, e1]
      exact s1_end text s 5 s s om om' _ hns
  | succ n ih =>
    intro s om om' seen hn hs
    have hns : s < text.size := by lia
    have e1 := s1_at text s s om [fr0 5 s om'] 1 seen
    by_cases c1 : (s == 0 || text.getD (s - 1) 0 == 10) = true
    · rw [if_pos c1] at e1
      have e2 := s1_lit text s s om [fr0 5 s om'] 1 ((seen.add 6).add 44)
      rw [if_neg (by lia)] at e2
      cases c2 : (text.getD s 0 == 46) with
      | true =>
        rw [c2] at e2
        refine ⟨5, by lia, .inl ⟨s, 1, Nat.le_refl _, hns, ?_, fun j _ _ => by lia, ?_⟩⟩
        · unfold hit1; rw [if_pos (by rw [c1, c2]; rfl)]
        · rw [runFor_one _ rfl, e1, runFor_one _ rfl, e2, runFor_one _ rfl, s1_ok, s1_yes _ _ _ _ _ _ _ rfl]
          exact ⟨rfl, rfl, rfl⟩
      | false =>
        rw [c2] at e2
        obtain ⟨k, hk, H⟩ := ih (s + 1) false false (((seen.add 6).add 44).add 16) (by lia) hns
        refine ⟨k + 3, by lia, Hits.back ?_ ?_⟩
        · unfold hit1; rw [if_neg (by rw [c2, Bool.and_false]; decide)]
        · rw [runFor_one _ rfl, e1, runFor_one _ rfl, e2, runFor_one _ rfl, s1_no _ _ _ _ _ _ _ _ hns]
          exact H
    · rw [if_neg c1] at e1
      obtain ⟨k, hk, H⟩ := ih (s + 1) false false ((seen.add 6).add 44) (by lia) hns
      refine ⟨k + 2, by lia, Hits.back ?_ ?_⟩
      · unfold hit1; rw [if_neg (fun h => c1 (Bool.and_eq_true _ _ ▸ h).1)]
      · rw [runFor_one _ rfl, e1, runFor_one _ rfl, s1_no _ _ _ _ _ _ _ _ hns]
        exact H
theorem search1 (text : Array Nat) (s : Nat) (hs : s ≤ text.size) : ∃ k, k ≤ 8 * text.size + 8 ∧ Hits (hit1 text) text.size s ((forSearch RC1 text 0 s text.size false).runFor k) := by
  by_cases h : s < text.size
  · have e : forSearch RC1 text 0 s text.size false = st RC1 text s 5 s s true [fr0 5 s true] 1 none (({} : Seen).add 14) none := by
      show (if (decide (s > text.size) || decide (text.size - s < 1)) = true then _ else _) = _
      rw [if_neg (by simp; lia)]
      rfl
    rw [e]
    obtain ⟨k, hk, H⟩ := go1 text _ s true true (({} : Seen).add 14) rfl hs
    exact ⟨k, by lia, H⟩
  · have e : forSearch RC1 text 0 s text.size false = st RC1 text s 5 s s true [] 0 (some false) (({} : Seen).add 14) none ∨ (forSearch RC1 text 0 s text.size false).runFor 1 = { (forSearch RC1 text 0 s text.size false) with outcome := some .failed } := by
      right
      have : forSearch RC1 text 0 s text.size false = { (forSearch RC1 text 0 s text.size false) with answer := some false, frames := [], outcome := none } := by
        show (if (decide (s > text.size) || decide (text.size - s < 1)) = true then _ else _) = { (if (decide (s > text.size) || decide (text.size - s < 1)) = true then _ else _ : M) with answer := some false, frames := [], outcome := none }
        rw [if_pos (by simp; lia)]
        rfl
      rw [this]; rfl
    rcases e with e | e
    · refine ⟨1, by lia, .inr ⟨fun j _ _ => by lia, by rw [e]; rfl⟩⟩
    · refine ⟨1, by lia, .inr ⟨fun j _ _ => by lia, by rw [e]⟩⟩
end Mine
end
noncomputable section
open PySem PySem.Sre
namespace Mine
noncomputable abbrev frB (pc p : Nat) (om : Bool) : Sre.Frame := { wait := .nextBranch, pc, pos := p, outermost := om }
noncomputable abbrev frL (p : Nat) (om : Bool) : Sre.Frame := { wait := .lookNot, pc := 26, pos := p, outermost := om }
theorem s2_lit12 (text : Array Nat) (s p h : Nat) (om : Bool) (fr : List Sre.Frame) (wt : Nat) (seen : Seen) :
    (st RC2 text s 12 p h om fr wt none seen none).step = if p < text.size ∧ text.getD p 0 = 13 then st RC2 text s 14 (p + 1) h om fr wt none (seen.add 16) none else st RC2 text s 12 p h om fr wt (some false) (seen.add 16) none := by
  show (if p ≥ text.size then _ else _) = _
  by_cases hp : p ≥ text.size
  · rw [if_pos hp, if_neg (fun q => absurd q.1 (Nat.not_lt.mpr hp))]; rfl
  rw [if_neg hp]
  have ha : ∀ sn, accepts RC2 12 (text.getD p 0) sn = .ok (text.getD p 0 == 13, sn) := fun _ => rfl
  by_cases q : text.getD p 0 = 13
  · rw [if_pos ⟨Nat.not_le.mp hp, q⟩]; rw [q] at ha ⊢; simp only [ha]; rfl
  · rw [if_neg fun z => q z.2]; rw [beq_eq_false_iff_ne.mpr q] at ha; simp only [ha]; rfl
theorem s2_lit14 (text : Array Nat) (s p h : Nat) (om : Bool) (fr : List Sre.Frame) (wt : Nat) (seen : Seen) :
    (st RC2 text s 14 p h om fr wt none seen none).step = if p < text.size ∧ text.getD p 0 = 10 then st RC2 text s 16 (p + 1) h om fr wt none (seen.add 16) none else st RC2 text s 14 p h om fr wt (some false) (seen.add 16) none := by
  show (if p ≥ text.size then _ else _) = _
  by_cases hp : p ≥ text.size
  · rw [if_pos hp, if_neg (fun q => absurd q.1 (Nat.not_lt.mpr hp))]; rfl
  rw [if_neg hp]
  have ha : ∀ sn, accepts RC2 14 (text.getD p 0) sn = .ok (text.getD p 0 == 10, sn) := fun _ => rfl
  by_cases q : text.getD p 0 = 10
  · rw [if_pos ⟨Nat.not_le.mp hp, q⟩]; rw [q] at ha ⊢; simp only [ha]; rfl
  · rw [if_neg fun z => q z.2]; rw [beq_eq_false_iff_ne.mpr q] at ha; simp only [ha]; rfl
theorem s2_lit19 (text : Array Nat) (s p h : Nat) (om : Bool) (fr : List Sre.Frame) (wt : Nat) (seen : Seen) :
    (st RC2 text s 19 p h om fr wt none seen none).step = if p < text.size ∧ text.getD p 0 = 10 then st RC2 text s 21 (p + 1) h om fr wt none (seen.add 16) none else st RC2 text s 19 p h om fr wt (some false) (seen.add 16) none := by
  show (if p ≥ text.size then _ else _) = _
  by_cases hp : p ≥ text.size
  · rw [if_pos hp, if_neg (fun q => absurd q.1 (Nat.not_lt.mpr hp))]; rfl
  rw [if_neg hp]
  have ha : ∀ sn, accepts RC2 19 (text.getD p 0) sn = .ok (text.getD p 0 == 10, sn) := fun _ => rfl
  by_cases q : text.getD p 0 = 10
  · rw [if_pos ⟨Nat.not_le.mp hp, q⟩]; rw [q] at ha ⊢; simp only [ha]; rfl
  · rw [if_neg fun z => q z.2]; rw [beq_eq_false_iff_ne.mpr q] at ha; simp only [ha]; rfl
theorem s2_lit24 (text : Array Nat) (s p h : Nat) (om : Bool) (fr : List Sre.Frame) (wt : Nat) (seen : Seen) :
    (st RC2 text s 24 p h om fr wt none seen none).step = if p < text.size ∧ text.getD p 0 = 13 then st RC2 text s 26 (p + 1) h om fr wt none (seen.add 16) none else st RC2 text s 24 p h om fr wt (some false) (seen.add 16) none := by
  show (if p ≥ text.size then _ else _) = _
  by_cases hp : p ≥ text.size
  · rw [if_pos hp, if_neg (fun q => absurd q.1 (Nat.not_lt.mpr hp))]; rfl
  rw [if_neg hp]
  have ha : ∀ sn, accepts RC2 24 (text.getD p 0) sn = .ok (text.getD p 0 == 13, sn) := fun _ => rfl
  by_cases q : text.getD p 0 = 13
  · rw [if_pos ⟨Nat.not_le.mp hp, q⟩]; rw [q] at ha ⊢; simp only [ha]; rfl
  · rw [if_neg fun z => q z.2]; rw [beq_eq_false_iff_ne.mpr q] at ha; simp only [ha]; rfl
theorem s2_lit29 (text : Array Nat) (s p h : Nat) (om : Bool) (fr : List Sre.Frame) (wt : Nat) (seen : Seen) :
    (st RC2 text s 29 p h om fr wt none seen none).step = if p < text.size ∧ text.getD p 0 = 10 then st RC2 text s 31 (p + 1) h om fr wt none (seen.add 16) none else st RC2 text s 29 p h om fr wt (some false) (seen.add 16) none := by
  show (if p ≥ text.size then _ else _) = _
  by_cases hp : p ≥ text.size
  · rw [if_pos hp, if_neg (fun q => absurd q.1 (Nat.not_lt.mpr hp))]; rfl
  rw [if_neg hp]
  have ha : ∀ sn, accepts RC2 29 (text.getD p 0) sn = .ok (text.getD p 0 == 10, sn) := fun _ => rfl
  by_cases q : text.getD p 0 = 10
  · rw [if_pos ⟨Nat.not_le.mp hp, q⟩]; rw [q] at ha ⊢; simp only [ha]; rfl
  · rw [if_neg fun z => q z.2]; rw [beq_eq_false_iff_ne.mpr q] at ha; simp only [ha]; rfl
theorem s2_jmp16 (text : Array Nat) (s p h : Nat) (om : Bool) (fr : List Sre.Frame) (wt : Nat) (seen : Seen) :
    (st RC2 text s 16 p h om fr wt none seen none).step = st RC2 text s 35 p h om fr wt none (seen.add 15) none := rfl
theorem s2_jmp21 (text : Array Nat) (s p h : Nat) (om : Bool) (fr : List Sre.Frame) (wt : Nat) (seen : Seen) :
    (st RC2 text s 21 p h om fr wt none seen none).step = st RC2 text s 35 p h om fr wt none (seen.add 15) none := rfl
theorem s2_jmp32 (text : Array Nat) (s p h : Nat) (om : Bool) (fr : List Sre.Frame) (wt : Nat) (seen : Seen) :
    (st RC2 text s 32 p h om fr wt none seen none).step = st RC2 text s 35 p h om fr wt none (seen.add 15) none := rfl
theorem s2_ok (text : Array Nat) (s q h : Nat) (om : Bool) (fr : List Sre.Frame) (wt : Nat) (seen : Seen) :
    (st RC2 text s 35 q h om fr wt none seen none).step = st RC2 text s 35 q q om fr wt (some true) (seen.add 1) none := by
  cases om <;> rfl
theorem s2_br (text : Array Nat) (s p : Nat) (om om' : Bool) (seen : Seen) :
    (st RC2 text s 10 p p om [fr0 10 s om'] 1 none seen none).step = st RC2 text s 12 p p om [frB 11 p om, fr0 10 s om'] 2 none (seen.add 7) none := rfl
theorem s2_alt1 (text : Array Nat) (s p pc q h : Nat) (om om1 om' : Bool) (seen : Seen) :
    (st RC2 text s pc q h om1 [frB 11 p om, fr0 10 s om'] 2 (some false) seen none).step = st RC2 text s 19 p p om [frB 18 p om, fr0 10 s om'] 2 none seen none := rfl
theorem s2_alt2 (text : Array Nat) (s p pc q h : Nat) (om om1 om' : Bool) (seen : Seen) :
    (st RC2 text s pc q h om1 [frB 18 p om, fr0 10 s om'] 2 (some false) seen none).step = st RC2 text s 24 p p om [frB 23 p om, fr0 10 s om'] 2 none seen none := rfl
theorem s2_not (text : Array Nat) (s p q h : Nat) (om om' : Bool) (seen : Seen) :
    (st RC2 text s 26 q h om [frB 23 p om, fr0 10 s om'] 2 none seen none).step = st RC2 text s 29 q q false [frL q om, frB 23 p om, fr0 10 s om'] 3 none (seen.add 5) none := rfl
theorem s2_notno (text : Array Nat) (s p q pc r h : Nat) (om om' om1 : Bool) (seen : Seen) :
    (st RC2 text s pc r h om1 [frL q om, frB 23 p om, fr0 10 s om'] 3 (some false) seen none).step = st RC2 text s 32 q h om [frB 23 p om, fr0 10 s om'] 2 none seen none := rfl
theorem s2_yes (text : Array Nat) (s q p b : Nat) (om om1 om' : Bool) (seen : Seen) :
    (st RC2 text s 35 q q om1 [frB b p om, fr0 10 s om'] 2 (some true) seen none).runFor 3 = st RC2 text s 10 s q om' [] 0 (some true) seen (some .matched) := rfl
noncomputable def hit2 (text : Array Nat) (p : Nat) : Option Nat :=
  if text.getD p 0 = 13 then (if p + 1 < text.size ∧ text.getD (p + 1) 0 = 10 then some 2 else some 1) else if text.getD p 0 = 10 then some 1 else none
/-- at an end of a row -/
theorem row2 (text : Array Nat) (p : Nat) (om om' : Bool) (seen : Seen) (hp : p < text.size) (hc : text.getD p 0 = 13 ∨ text.getD p 0 = 10) :
    ∃ k, k ≤ 20 ∧ Hits (hit2 text) text.size p ((st RC2 text p 10 p p om [fr0 10 p om'] 1 none seen none).runFor k) := by
  by_cases c1 : text.getD p 0 = 13
  · by_cases c2 : p + 1 < text.size ∧ text.getD (p + 1) 0 = 10
    · refine ⟨8, by lia, .inl ⟨p, 2, Nat.le_refl _, hp, ?_, fun j _ _ => by lia, ?_⟩⟩
      · unfold hit2; rw [if_pos c1, if_pos c2]
      · rw [runFor_one _ rfl, s2_br, runFor_one _ rfl, s2_lit12, if_pos ⟨hp, c1⟩, runFor_one _ rfl, s2_lit14, if_pos c2, runFor_one _ rfl, s2_jmp16, runFor_one _ rfl, s2_ok, s2_yes]
        exact ⟨rfl, rfl, rfl⟩
    · have c3 : ¬ (p < text.size ∧ text.getD p 0 = 10) := fun q => by rw [c1] at q; exact absurd q.2 (by decide)
      refine ⟨15, by lia, .inl ⟨p, 1, Nat.le_refl _, hp, ?_, fun j _ _ => by lia, ?_⟩⟩
      · unfold hit2; rw [if_pos c1, if_neg c2]
      · rw [runFor_one _ rfl, s2_br, runFor_one _ rfl, s2_lit12, if_pos ⟨hp, c1⟩, runFor_one _ rfl, s2_lit14, if_neg c2, runFor_one _ rfl, s2_alt1, runFor_one _ rfl, s2_lit19, if_neg c3, runFor_one _ rfl, s2_alt2, runFor_one _ rfl, s2_lit24, if_pos ⟨hp, c1⟩, runFor_one _ rfl, s2_not, runFor_one _ rfl, s2_lit29, if_neg c2, runFor_one _ rfl, s2_notno, runFor_one _ rfl, s2_jmp32, runFor_one _ rfl, s2_ok, s2_yes]
        exact ⟨rfl, rfl, rfl⟩
  · have c2 : text.getD p 0 = 10 := hc.resolve_left c1
    refine ⟨9, by lia, .inl ⟨p, 1, Nat.le_refl _, hp, ?_, fun j _ _ => by lia, ?_⟩⟩
    · unfold hit2; rw [if_neg c1, if_pos c2]
    · rw [runFor_one _ rfl, s2_br, runFor_one _ rfl, s2_lit12, if_neg (fun q => c1 q.2), runFor_one _ rfl, s2_alt1, runFor_one _ rfl, s2_lit19, if_pos ⟨hp, c2⟩, runFor_one _ rfl, s2_jmp21, runFor_one _ rfl, s2_ok, s2_yes]
      exact ⟨rfl, rfl, rfl⟩
theorem inSet2 (c : Nat) (seen : Seen) : ∃ seen', inSet RC2 c 36 5 true seen = .ok (decide (c = 13 ∨ c = 10), seen') := by
  by_cases h : c = 10
  · subst h; exact ⟨_, rfl⟩
  · by_cases h2 : c = 13
    · subst h2; exact ⟨_, rfl⟩
    · have e1 : (c == 10) = false := beq_eq_false_iff_ne.mpr h
      have e2 : (c == 13) = false := beq_eq_false_iff_ne.mpr h2
      rw [decide_eq_false (by lia)]
      refine ⟨((seen.add 16).add 16).add 0, ?_⟩
      show (if (c == 10) = true then _ else _) = _
      rw [if_neg (by rw [e1]; decide)]
      show (if (c == 13) = true then _ else _) = _
      rw [if_neg (by rw [e2]; decide)]
      rfl
theorem admitted2 (m : M) (hc : m.code = RC2) : ∀ (n s : Nat) (seen : Seen), m.lim - s ≤ n → (∃ seen' p, s ≤ p ∧ p < m.lim ∧ (m.text.getD p 0 = 13 ∨ m.text.getD p 0 = 10) ∧ (∀ j, s ≤ j → j < p → ¬ (m.text.getD j 0 = 13 ∨ m.text.getD j 0 = 10)) ∧ M.admitted m (n + 1) s seen = .ok (some p, seen')) ∨
      ∃ seen', (∀ j, s ≤ j → j < m.lim → ¬ (m.text.getD j 0 = 13 ∨ m.text.getD j 0 = 10)) ∧ M.admitted m (n + 1) s seen = .ok (none, seen')
  | n, s, seen, h => by
    by_cases hs : s ≥ m.lim
    · refine .inr ⟨seen, fun j _ _ => by lia, ?_⟩
      rw [M.admitted, if_pos hs]
    · obtain ⟨seen', e⟩ := inSet2 (m.text.getD s 0) seen
      have e' : inSet m.code (m.text.getD s 0) m.code.size 5 true seen = .ok (decide (m.text.getD s 0 = 13 ∨ m.text.getD s 0 = 10), seen') := by rw [hc]; exact e
      by_cases c : m.text.getD s 0 = 13 ∨ m.text.getD s 0 = 10
      · refine .inl ⟨seen', s, Nat.le_refl _, by lia, c, fun j _ _ => by lia, ?_⟩
        rw [M.admitted, if_neg hs, e', decide_eq_true c]
      · rw [decide_eq_false c] at e'
        cases n with
        | zero => lia
        | succ n =>
          have st : M.admitted m (n + 1 + 1) s seen = M.admitted m (n + 1) (s + 1) seen' := by rw [M.admitted, if_neg hs, e']
          rw [st]
          have up : ∀ {j}, s ≤ j → j ≠ s → s + 1 ≤ j := fun a b => by lia
          rcases admitted2 m hc n (s + 1) seen' (by lia) with ⟨sn, p, a1, a2, a3, a4, a5⟩ | ⟨sn, a1, a2⟩
          · refine .inl ⟨sn, p, by lia, a2, a3, fun j h1 h2 => ?_, a5⟩
            by_cases q : j = s
            · rw [q]; exact c
            · exact a4 j (up h1 q) h2
          · refine .inr ⟨sn, fun j h1 h2 => ?_, a2⟩
            by_cases q : j = s
            · rw [q]; exact c
            · exact a1 j (up h1 q) h2
theorem hit2_none {text : Array Nat} {j : Nat} (h : ¬ (text.getD j 0 = 13 ∨ text.getD j 0 = 10)) : hit2 text j = none := by
  unfold hit2; rw [if_neg fun q => h (.inl q), if_neg fun q => h (.inr q)]
theorem search2 (text : Array Nat) (s : Nat) (hs : s ≤ text.size) : ∃ k, k ≤ 8 * text.size + 20 ∧ Hits (hit2 text) text.size s ((forSearch RC2 text 0 s text.size false).runFor k) := by
  by_cases h : s < text.size
  · let m0 : M := { code := RC2, text, lim := text.size, start := s, lastStart := text.size, pc := 10, pos := s, handed := s, marks := #[], seen := ({} : Seen).add 14 }
    have e : forSearch RC2 text 0 s text.size false = (match M.admitted m0 (text.size + 1 - s) s (({} : Seen).add 14) with
        | .ok (some s, seen) => { m0 with mustAdvance := false, seen }.attemptAt s true
        | .ok (none, seen) => { m0 with seen }.say false
        | .error why => m0.stick why) := by
      show (if (decide (s > text.size) || decide (text.size - s < 1)) = true then _ else _) = _
      rw [if_neg (by simp; lia)]
      rfl
    rw [show text.size + 1 - s = (text.size - s) + 1 by lia] at e
    rcases admitted2 m0 rfl (text.size - s) s (({} : Seen).add 14) (Nat.le_refl _) with ⟨sn, p, a1, a2, a3, a4, a5⟩ | ⟨sn, a1, a2⟩
    · rw [a5] at e
      have e2 : forSearch RC2 text 0 s text.size false = st RC2 text p 10 p p true [fr0 10 p true] 1 none sn none := e
      rw [e2]
      obtain ⟨k, hk, H⟩ := row2 text p true true sn a2 a3
      refine ⟨k, by lia, ?_⟩
      rcases H with ⟨q, l, b1, b2, b3, b4, b5⟩ | ⟨b1, b2⟩
      · refine .inl ⟨q, l, Nat.le_trans a1 b1, b2, b3, fun j h1 h2 => ?_, b5⟩
        by_cases hj : j < p
        · exact hit2_none (a4 j h1 hj)
        · exact b4 j (by lia) h2
      · refine .inr ⟨fun j h1 h2 => ?_, b2⟩
        by_cases hj : j < p
        · exact hit2_none (a4 j h1 hj)
        · exact b1 j (by lia) h2
    · rw [a2] at e
      refine ⟨1, by lia, .inr ⟨fun j h1 h2 => hit2_none (a1 j h1 h2), ?_⟩⟩
      rw [e]; rfl
  · refine ⟨1, by lia, .inr ⟨fun j _ _ => by lia, ?_⟩⟩
    have : forSearch RC2 text 0 s text.size false = { (forSearch RC2 text 0 s text.size false) with answer := some false, frames := [], outcome := none } := by
      show (if (decide (s > text.size) || decide (text.size - s < 1)) = true then _ else _) = { (if (decide (s > text.size) || decide (text.size - s < 1)) = true then _ else _ : M) with answer := some false, frames := [], outcome := none }
      rw [if_pos (by simp; lia)]
      rfl
    rw [this]; rfl
end Mine
end
noncomputable section
open PySem PySem.Sre PySem.Builtin PySem.Builtin.Re PyProof.Rows
namespace Mine
theorem runFor_le {k n : Nat} {m : M} (h : k ≤ n) (ho : (m.runFor k).outcome.isSome = true) : m.runFor n = m.runFor k := by
  obtain ⟨j, rfl⟩ := Nat.exists_eq_add_of_le h
  rw [runFor_add k j m]; exact runFor_stop j _ ho
section
variable {prog : Program} {w : World} {A : Around} {E : Value → Shared → Prop} {s : Shared}
theorem drive : ∀ (turns : Nat) (m : M) (k : Nat) (Q : M → Shared → Prop), k ≤ 4 * turns → 1 ≤ turns → (m.runFor k).outcome.isSome = true → Q (m.runFor k) s → wpAny (model prog w) A (reDrive turns m) Q E s
  | 0, _, _, _, _, h, _, _ => absurd h (by decide)
  | t + 1, m, k, Q, hk, _, ho, hq => by
    show wpAny _ _ (if (m.runFor 4).outcome.isSome then pure (m.runFor 4) else do rule "sre.turn"; reDrive t (m.runFor 4)) _ _ _
    by_cases h4 : (m.runFor 4).outcome.isSome = true
    · rw [if_pos h4]
      refine wpAny_pure ?_
      rcases Nat.le_total k 4 with hle | hle
      · rw [runFor_le hle ho]; exact hq
      · rw [← runFor_le hle h4]; exact hq
    · rw [if_neg h4]
      refine wpAny_bind (wpAny_rule ?_)
      have hk4 : 4 < k := Nat.lt_of_not_le fun hle => h4 (by rw [runFor_le hle ho]; exact ho)
      obtain ⟨j, rfl⟩ := Nat.exists_eq_add_of_le (Nat.le_of_lt hk4)
      rw [runFor_add 4 j m] at ho hq
      exact drive t (m.runFor 4) j Q (by lia) (by lia) ho hq
theorem for_said {Q : PUnit → Shared → Prop} {f : Nat → PUnit → Sem (ForInStep PUnit)} (hf : ∀ i (Q' : ForInStep PUnit → Shared → Prop), Q' (.yield ⟨⟩) s → wpAny (model prog w) A (f i ⟨⟩) Q' E s) (hq : Q ⟨⟩ s) :
    ∀ l : List Nat, wpAny (model prog w) A (forIn l PUnit.unit f) Q E s
  | [] => by rw [List.forIn_nil]; exact wpAny_pure hq
  | i :: r => by
    rw [List.forIn_cons]
    exact wpAny_bind (hf i _ (for_said hf hq r))
theorem run_end {m : M} {k : Nat} {Q : Option M → Shared → Prop} (hk : k ≤ 2 ^ 64) (h : ((m.runFor k).outcome = some .matched ∧ Q (some (m.runFor k)) s) ∨ ((m.runFor k).outcome = some .failed ∧ Q none s)) :
    wpAny (model prog w) A (reRunToEnd m) Q E s := by
  unfold reRunToEnd
  have ho : (m.runFor k).outcome.isSome = true := by rcases h with ⟨e, _⟩ | ⟨e, _⟩ <;> rw [e] <;> rfl
  refine wpAny_bind (drive _ m k _ (Nat.le_trans hk (Nat.le_mul_of_pos_left _ (by decide))) (Nat.two_pow_pos 64) ho ?_)
  refine wpAny_bind (for_said (fun i Q' hq => ?_) ?_ _)
  · by_cases hc : (m.runFor k).seen.has i = true
    · simp only [hc, if_true]; exact wpAny_bind (wpAny_rule (wpAny_pure hq))
    · simp only [hc]; exact wpAny_pure hq
  · rcases h with ⟨e, hq⟩ | ⟨e, hq⟩ <;> rw [e] <;> exact wpAny_pure hq
/-- a search's end -/
theorem found_ {t : ReTarget} {at_ : Nat} {hit : Nat → Option Nat} {Q : Option M → Shared → Prop} (hs : ∃ k, k ≤ 8 * t.text.size + 20 ∧ Hits hit t.text.size at_ ((forSearch t.code t.text t.groups at_ t.lim false).runFor k)) (hsz : t.text.size ≤ 16777216)
    (h1 : ∀ p l m, at_ ≤ p → p < t.text.size → hit p = some l → (∀ j, at_ ≤ j → j < p → hit j = none) → m.start = p → m.handed = p + l → Q (some m) s)
    (h0 : (∀ j, at_ ≤ j → j < t.text.size → hit j = none) → Q none s) : wpAny (model prog w) A (reNextFound t at_ false) Q E s := by
  obtain ⟨k, hk, H⟩ := hs
  unfold reNextFound
  refine run_end (k := k) (by lia) ?_
  rcases H with ⟨p, l, a, b, c, d, e1, e2, e3⟩ | ⟨a, e⟩
  · exact .inl ⟨e1, h1 p l _ a b c d e2 e3⟩
  · exact .inr ⟨e, h0 a⟩
end
end Mine
end
noncomputable section
open PySem PySem.Sre PySem.Builtin PySem.Builtin.Re PyProof.Rows
namespace Mine
inductive SubR (hit : Nat → Option Nat) (rep : List Nat) (text : Array Nat) : Nat → List Nat → Prop
  | done {s : Nat} : text.size ≤ s → SubR hit rep text s []
  | hit {s l : Nat} {o : List Nat} : s < text.size → hit s = some l → SubR hit rep text (s + l) o → SubR hit rep text s (rep ++ o)
  | skip {s : Nat} {o : List Nat} : s < text.size → hit s = none → SubR hit rep text (s + 1) o → SubR hit rep text s (text.getD s 0 :: o)
theorem ext_cons {text : Array Nat} {s p : Nat} (h : s < p) (hp : p ≤ text.size) : (text.extract s p).toList = text.getD s 0 :: (text.extract (s + 1) p).toList := by
  have hs : s < text.toList.length := by rw [Array.length_toList]; lia
  rw [Array.toList_extract, Array.toList_extract, List.extract_eq_take_drop, List.extract_eq_take_drop, List.drop_eq_getElem_cons hs, show p - s = (p - (s + 1)) + 1 by lia, List.take_succ_cons]
  congr 1
  rw [Array.getD_eq_getD_getElem?, Array.getElem?_eq_getElem (by lia)]
  simp
theorem SubR.to {hit : Nat → Option Nat} {rep : List Nat} {text : Array Nat} : ∀ (n s p l : Nat) (out : List Nat), p - s = n → SubR hit rep text s out → s ≤ p → p < text.size → hit p = some l → (∀ j, s ≤ j → j < p → hit j = none) →
    ∃ o, out = (text.extract s p).toList ++ (rep ++ o) ∧ SubR hit rep text (p + l) o
  | 0, s, p, l, out, hn, H, hs, hp, hh, _ => by
    obtain rfl : s = p := by lia
    cases H with
    | done h => lia
    | hit _ h2 h3 => rw [hh] at h2; cases h2; exact ⟨_, by simp, h3⟩
    | skip _ h2 _ => rw [hh] at h2; cases h2
  | n + 1, s, p, l, out, hn, H, hs, hp, hh, hj => by
    have h0 := hj s (Nat.le_refl _) (by lia)
    cases H with
    | done h => lia
    | hit _ h2 _ => rw [h0] at h2; cases h2
    | skip _ _ h3 =>
      obtain ⟨o, e, H⟩ := SubR.to n (s + 1) p l _ (by lia) h3 (by lia) hp hh fun j a b => hj j (by lia) b
      exact ⟨o, by rw [e, ext_cons (s := s) (by lia) (by lia)]; rfl, H⟩
theorem SubR.rest {hit : Nat → Option Nat} {rep : List Nat} {text : Array Nat} : ∀ (n s : Nat) (out : List Nat), text.size - s = n → s ≤ text.size → SubR hit rep text s out → (∀ j, s ≤ j → j < text.size → hit j = none) → out = (text.extract s text.size).toList
  | 0, s, out, hn, hs, H, hj => by
    obtain rfl : s = text.size := by lia
    cases H with
    | done h => simp
    | hit h _ _ => lia
    | skip h _ _ => lia
  | n + 1, s, out, hn, hs, H, hj => by
    have h0 := hj s (Nat.le_refl _) (by lia)
    cases H with
    | done h => lia
    | hit _ h2 _ => rw [h0] at h2; cases h2
    | skip _ _ h3 => rw [ext_cons (s := s) (by lia) (Nat.le_refl _), ← SubR.rest n (s + 1) _ (by lia) (by lia) h3 fun j a b => hj j (by lia) b]
theorem SubR.len_le {hit : Nat → Option Nat} {rep : List Nat} {text : Array Nat} (hl : ∀ s l, s < text.size → hit s = some l → 1 ≤ l) {s : Nat} {out : List Nat} (H : SubR hit rep text s out) : out.length ≤ (text.size - s) * (rep.length + 1) := by
  induction H with
  | done _ => simp
  | @hit s l o h1 h2 h3 ih =>
    have := hl _ _ h1 h2
    have h4 : (text.size - (s + l) + 1) * (rep.length + 1) ≤ (text.size - s) * (rep.length + 1) := Nat.mul_le_mul_right _ (by lia)
    rw [Nat.add_mul] at h4
    rw [List.length_append]; lia
  | @skip s o h1 h2 h3 ih =>
    have h4 : (text.size - (s + 1) + 1) * (rep.length + 1) ≤ (text.size - s) * (rep.length + 1) := Nat.mul_le_mul_right _ (by lia)
    rw [Nat.add_mul] at h4
    rw [List.length_cons]; lia
section
variable {prog : Program} {w : World} {A : Around} {E : Value → Shared → Prop} {s : Shared}
/-- a pattern's object, and its words -/
structure PatObj (h : Heap) (P : Addr) (code : Array Nat) : Prop where
  ex : ∃ (fs ws : Array Value) (T : Addr) (n : Nat), h.get? P = some { cls := .type "re.Pattern", data := .fields fs } ∧ fs.getD 5 .none = .ref T ∧ h.get? T = some { cls := .type "tuple", data := .seq ws n } ∧ (ws.map reRawOf).map (·.toNat) = code ∧ reRawNat (fs.getD 2 .none) = 0 ∧ reRawNat (fs.getD 6 .none) = 0
theorem PatObj.keeps {h h' : Heap} {P : Addr} {code : Array Nat} (x : PatObj h P code) (k : ∀ b o, h.get? b = some o → h'.get? b = some o) : PatObj h' P code := by
  obtain ⟨fs, ws, T, n, a, b, c, d⟩ := x.ex
  exact ⟨fs, ws, T, n, k _ _ a, b, k _ _ c, d⟩
noncomputable abbrev tgt (P : Addr) (txt : Str) (tt : Tok) (code : Array Nat) : ReTarget := { pattern := .ref P, string := .str txt tt, code, text := txt.cps, kind := 0, groups := 0, pos := 0, lim := txt.cps.size }
theorem whole_ {P : Addr} {txt : Str} {tt : Tok} {code : Array Nat} {Q : ReTarget → Shared → Prop} (hP : PatObj s.heap P code) (hq : Q (tgt P txt tt code) s) : wpAny (model prog w) A (reWholeTarget (.ref P) (.str txt tt)) Q E s := by
  obtain ⟨fs, ws, T, n, a, b, c, d, e, f⟩ := hP.ex
  obtain ⟨h, g, dd, tk, os⟩ := s
  unfold reWholeTarget
  wp_walk
  rw [if_neg (by rw [f]; decide)]
  unfold reRawItems
  rw [b]
  wp_walk
  show Q { pattern := .ref P, string := .str txt tt, code := (ws.map reRawOf).map (·.toNat), text := txt.cps, kind := 0, groups := reRawNat (fs.getD 2 .none), pos := 0, lim := txt.cps.size } _
  rw [d, e]
  exact hq
noncomputable abbrev lst (items : Array Value) (k : Nat) : Obj := { cls := .type "list", data := .seq items k }
theorem push_ {l : Addr} {items : Array Value} {k : Nat} {v : Value} {Q : Unit → Shared → Prop} (ho : s.heap.get? l = some (lst items k)) (hz : items.size ≤ 1000000)
    (hq : ∀ h', h'.get? l = some (lst (items.push v) (k + 1)) → (∀ b o, b ≠ l → s.heap.get? b = some o → h'.get? b = some o) → Q () { s with heap := h' }) : wpAny (model prog w) A (updateSeq l (·.push v)) Q E s := by
  have hs : items.size ≤ sizeLine := Nat.le_trans hz (by decide)
  refine wpAny_updateSeq ho rfl (hq _ ?_ fun b o hb e => ?_) hs (by rw [Array.size_push]; exact Nat.succ_le_succ hs)
  · rw [Heap.get?_update_self _ ho rfl]
    simp [Obj.mapSeq]
  · rw [Heap.get?_update_other _ _ (Ne.symm hb)]; exact e
theorem PatObj.but {h h' : Heap} {P l : Addr} {code : Array Nat} {items : Array Value} {k : Nat} (x : PatObj h P code) (ho : h.get? l = some (lst items k)) (hk : ∀ b o, b ≠ l → h.get? b = some o → h'.get? b = some o) : PatObj h' P code := by
  obtain ⟨fs, ws, T, n, a, b, c, d⟩ := x.ex
  refine ⟨fs, ws, T, n, hk _ _ (fun q => ?_) a, b, hk _ _ (fun q => ?_) c, d⟩
  · rw [q, ho] at a; simp at a
  · rw [q, ho] at c; simp at c
theorem entry_sub_loop : entryFor table "re.Pattern.sub.loop" = some Builtin.«re.Pattern.sub.loop» := entryFor_of_tree (by kernel_rfl)
noncomputable def flatR (ps : List Str) : List Nat := ps.flatMap fun p => p.cps.toList
theorem StrsAre.push {vs : List Value} {ps : List Str} (y : Str) (t : Tok) : StrsAre vs ps → StrsAre (vs ++ [.str y t]) (ps ++ [y])
  | .nil => .cons y t .nil
  | .cons z u r => .cons z u (StrsAre.push y t r)
theorem join_flat : ∀ ps : List Str, (Txt.join ⟨#[]⟩ ps) = ⟨(flatR ps).toArray⟩ := by
  have step : ∀ (r : List Str) (acc : Array Nat), r.foldl (fun acc p => acc ++ #[] ++ p.cps) acc = acc ++ (flatR r).toArray := by
    intro r
    induction r with
    | nil => intro acc; simp [flatR]
    | cons p r ih =>
      intro acc
      rw [List.foldl_cons, ih]
      apply Array.toList_inj.mp
      simp [flatR]
  intro ps
  cases ps with
  | nil => rfl
  | cons p r =>
    show Str.mk _ = _
    rw [show (List.drop 1 (p :: r)) = r from rfl]
    congr 1
    refine (step r _).trans ?_
    simp [flatR]
theorem sum_flat : ∀ ps : List Str, (ps.map (·.length)).sum = (flatR ps).length
  | [] => rfl
  | p :: r => by
    have := sum_flat r
    rw [List.map_cons, List.sum_cons, this]
    unfold flatR
    rw [List.flatMap_cons, List.length_append, Array.length_toList]
    rfl
theorem strs_len {vs : List Value} {ps : List Str} (h : StrsAre vs ps) : vs.length = ps.length := by
  induction h with
  | nil => rfl
  | cons y t _ ih => simp [ih]
theorem slice_ {text : Array Nat} {b e : Nat} {Q : Value → Shared → Prop} (hz : text.size ≤ 10000) (hq : Q (.str ⟨text.extract b e⟩ s.toks) { s with toks := s.toks + 1 }) : wpAny (model prog w) A (reSlice text 0 b e) Q E s := by
  unfold reSlice
  rw [if_pos (by decide)]
  refine wpAny_mkStr hq ?_
  show (text.extract b e).size ≤ sizeLine
  rw [Array.size_extract]
  exact Nat.le_trans (Nat.sub_le _ _) (Nat.le_trans (Nat.min_le_right _ _) (Nat.le_trans hz (by decide)))
theorem loop_t (hit : Nat → Option Nat) (code : Array Nat) (rep txt : Str) (tr tt : Tok) (P l : Addr) (g : Array GenState) (dd : Drawn) (os : OsState) (Q : Value → Shared → Prop)
    (hsr : ∀ p, p ≤ txt.cps.size → ∃ k, k ≤ 8 * txt.cps.size + 20 ∧ Hits hit txt.cps.size p ((forSearch code txt.cps 0 p txt.cps.size false).runFor k)) (hl : ∀ p l, p < txt.cps.size → hit p = some l → 1 ≤ l ∧ p + l ≤ txt.cps.size) (hsz : txt.cps.size ≤ 10000) :
    ∀ (n : Nat) (A : Around) (d : Nat) (cnt : Int) (items : Array Value) (ps : List Str) (out : List Nat) (k : Nat) (h : Heap) (tk : Nat), txt.cps.size - d < n → d ≤ txt.cps.size → SubR hit rep.cps.toList txt.cps d out → PatObj h P code → h.get? l = some (lst items k) → StrsAre items.toList ps → ps.length ≤ 2 * d →
      (flatR ps).length + out.length ≤ 1000000 → (∀ h' tk' t', (∀ b o, b ≠ l → h.get? b = some o → h'.get? b = some o) → Q (.str ⟨(flatR ps ++ out).toArray⟩ t') ⟨h', g, dd, tk', os⟩) →
      codeAny (model prog w) A (.builtin "re.Pattern.sub.loop" ⟨[.ref P, .str txt tt, .str rep tr, rawInt 0, rawInt 0, rawInt cnt, rawInt d, rawInt d, .bool false, .ref l, .bool false], []⟩) (wants Q E) ⟨h, g, dd, tk, os⟩ := by
  intro n
  induction n with
  | zero => intro _ _ _ _ _ _ _ _ _ h; exact absurd h (Nat.not_lt_zero _)
  | succ n ih =>
  intro A₀ d cnt items ps out k h tk hn hd HS hP hL hI hps hlen hQ
  have hit_len : items.size = ps.length := by
    rw [← Array.length_toList]; exact strs_len hI
  refine codeAny_builtin entry_sub_loop ?_
  unfold Builtin.«re.Pattern.sub.loop»
  dsimp only [rawInt]
  refine wpAny_bind (whole_ hP ?_)
  generalize hNF : reNextFound = NF
  wp_walk
  subst hNF
  refine found_ (hit := hit) (hsr _ hd) (Nat.le_trans hsz (by decide)) (fun p lp m h1 h2 h3 h4 h5 h6 => ?_) (fun h0 => ?_)
  · obtain ⟨b1, b2⟩ := hl p lp h2 h3
    obtain ⟨o, rfl, HS'⟩ := HS.to _ d p lp out rfl h1 h2 h3 h4
    have hbeq : (m.handed == p) = false := by rw [h6]; exact beq_eq_false_iff_ne.mpr (by lia)
    have hnext : ∀ (A : Around) (items' : Array Value) (ps' : List Str) (k' : Nat) (h' : Heap) (tk' : Nat), (∀ b o, b ≠ l → h.get? b = some o → h'.get? b = some o) → h'.get? l = some (lst items' k') → StrsAre items'.toList ps' → ps'.length ≤ ps.length + 2 → flatR ps' = flatR ps ++ (txt.cps.extract d p).toList ++ rep.cps.toList →
        codeAny (model prog w) A (.builtin "re.Pattern.sub.loop" ⟨[.ref P, .str txt tt, .str rep tr, .int 0 0, .int 0 0, .int (cnt + 1) 0, .int m.handed 0, .int m.handed 0,   .bool (m.handed == p), .ref l, .bool false], []⟩) (wants Q E) ⟨h', g, dd, tk', os⟩ := by
      intro A items' ps' k' h' tk' hk hL' hI' hps' hfl
      rw [hbeq, h6]
      refine ih A (p + lp) (cnt + 1) items' ps' o k' h' tk' (by lia) b2 HS' (hP.but hL hk) hL' hI' (by lia) ?_ fun h'' tk'' t'' hk' => ?_
      · rw [hfl]; simp only [List.length_append] at hlen ⊢; lia
      · rw [hfl]
        have := hQ h'' tk'' t'' (fun b o hb e => hk' b o hb (hk b o hb e))
        simpa only [List.append_assoc] using this
    dsimp only
    rw [h5]
    by_cases hdp : d < p
    · refine wpAny_ite_true (by simpa using hdp) ?_
      refine wpAny_bind (slice_ hsz ?_)
      refine wpAny_bind (push_ hL (by rw [hit_len]; lia) fun h1' e1 k1 => ?_)
      refine wpAny_ite_true rfl ?_
      refine wpAny_bind (wpAny_pure ?_)
      refine wpAny_ite_true rfl ?_
      refine wpAny_bind (push_ e1 (by rw [Array.size_push, hit_len]; lia) fun h2' e2 k2 => ?_)
      refine wpAny_pure ⟨Code.quiet_builtin _ (by decide +kernel), hnext _ _ (ps ++ [⟨txt.cps.extract d p⟩] ++ [rep]) _ _ _ (fun b o hb e => k2 b o hb (k1 b o hb e)) e2 ?_ ?_ ?_⟩
      · rw [Array.toList_push, Array.toList_push]; exact StrsAre.push _ _ (StrsAre.push _ _ hI)
      · simp
      · simp [flatR]
    · obtain rfl : d = p := by have : d ≤ p := h1; lia
      refine wpAny_ite_false (by simp) ?_
      refine wpAny_ite_true rfl ?_
      refine wpAny_bind (wpAny_pure ?_)
      refine wpAny_ite_true rfl ?_
      refine wpAny_bind (push_ hL (by rw [hit_len]; lia) fun h2' e2 k2 => ?_)
      refine wpAny_pure ⟨Code.quiet_builtin _ (by decide +kernel), hnext _ _ (ps ++ [rep]) _ _ _ k2 e2 ?_ ?_ ?_⟩
      · rw [Array.toList_push]; exact StrsAre.push _ _ hI
      · simp
      · simp [flatR]
  · have hout := HS.rest _ d out rfl hd h0
    have hend : ∀ (A : Around) (items' : Array Value) (ps' : List Str) (k' : Nat) (h' : Heap) (tk' : Nat), (∀ b o, b ≠ l → h.get? b = some o → h'.get? b = some o) → h'.get? l = some (lst items' k') → StrsAre items'.toList ps' → ps'.length ≤ ps.length + 1 → flatR ps' = flatR ps ++ out →
        wpAny (model prog w) A (do
          let joiner ← reSlice txt.cps 0 0 0
          let text ← if ((← seqItems? (.ref l)).getD #[]).isEmpty then pure joiner
            else call (.builtin (if (0 : Nat) == 0 then "str.join" else "bytes.join")) [joiner, .ref l]
          if false then ret (← holding [text] do newTuple [text, ← mkInt cnt]) else ret text)
          (fun fin s' => match fin with | .done f => wants Q E (.ok f) s' | .again c' => c'.quiet = true ∧ codeAny (model prog w) A₀ c' (wants Q E) s') (fun e s' => wants Q E (.error e) s') ⟨h', g, dd, tk', os⟩ := by
      intro A items' ps' k' h' tk' hk hL' hI' hps' hfl
      refine wpAny_bind (slice_ hsz ?_)
      refine wpAny_bind (wpAny_seqItems hL' rfl ?_)
      have hex : txt.cps.extract 0 0 = #[] := by simp
      rw [hex]
      have hlen' : items'.size = ps'.length := by rw [← Array.length_toList]; exact strs_len hI'
      by_cases he : items'.isEmpty = true
      · refine wpAny_ite_true (decide_eq_true he) ?_
        refine wpAny_bind (wpAny_pure ?_)
        refine wpAny_ite_false (by decide) ?_
        refine wpAny_pure ?_
        have : ps' = [] := by
          rw [Array.isEmpty_iff_size_eq_zero] at he
          exact List.length_eq_zero_iff.mp (by lia)
        subst this
        have := hQ h' (tk' + 1) tk' hk
        rw [← hfl] at this
        exact this
      · refine wpAny_ite_false (decide_eq_false he) ?_
        refine wpAny_bind ?_
        rw [if_pos (by decide)]
        refine join_listC (x := ⟨#[]⟩) (ys := ps') (items := items') ⟨_, hL', rfl, k', rfl⟩ hI' (Nat.zero_le _) ?_ fun t'' tk'' => ?_
        · rw [sum_flat, hfl, List.length_append]; lia
        · refine wpAny_ite_false (by decide) ?_
          refine wpAny_pure ?_
          rw [join_flat, hfl]
          exact hQ h' tk'' t'' hk
    by_cases hdp : d < txt.cps.size
    · refine wpAny_ite_true (by simpa using hdp) ?_
      refine wpAny_bind (slice_ hsz ?_)
      refine wpAny_bind (push_ hL (by rw [hit_len]; lia) fun h1' e1 k1 => ?_)
      refine hend _ _ (ps ++ [⟨txt.cps.extract d txt.cps.size⟩]) _ _ _ k1 e1 ?_ (by simp) (by rw [hout]; simp [flatR])
      rw [Array.toList_push]; exact StrsAre.push _ _ hI
    · refine wpAny_ite_false (by simpa using hdp) ?_
      refine hend _ _ ps _ _ _ (fun _ _ _ e => e) hL hI (by lia) ?_
      rw [hout, show d = txt.cps.size by lia]; simp
end
end Mine
end
noncomputable section
open PySem PySem.Sre PySem.Builtin PySem.Builtin.Re PyProof.Rows
namespace Mine
theorem plainAttrs_pat : PlainAttrs "re.Pattern" :=
  ⟨⟨"object.__getattribute__", by rw [typeLookup_type, builtinLookup_eq_fast]; kernel_rfl, by decide +kernel⟩, by rw [typeLookup_type, builtinLookup_eq_fast]; kernel_rfl⟩
theorem slot_pat_sub : Slot "re.Pattern" (Str.ofString "sub") "re.Pattern.sub" :=
  .of (owner := "re.Pattern") (n := "sub") (by rw [typeLookup_type, builtinLookup_eq_fast]; kernel_rfl) (by decide +kernel) (by decide +kernel) (by decide +kernel)
    (by first | exact .inl (by decide +kernel) | exact .inr (by decide +kernel)) (by rw [isSubtype_type]; kernel_rfl)
theorem type_pat_sub : typeOf (.builtin "re.Pattern.sub") = pure (.type "method_descriptor") := by show builtinType _ = _; rw [builtinType_eq_fast]; kernel_rfl
theorem entry_pat_sub : entryFor table "re.Pattern.sub" = some Builtin.«re.Pattern.sub» := entryFor_of_tree (by kernel_rfl)
theorem owner_pat : Manifest.owners.lookup (String.ofList ['n', 'r', 'e', 't', 't', 'a', 'P', '.', 'e', 'r'].reverse) = some Manifest.sig_re_Pattern := by kernel_rfl
theorem args_pat_sub_3 (a b c : Value) : argsOk "re.Pattern.sub" ⟨[a, b, c], []⟩ := by
  unfold argsOk; rw [signature?_of (id := "re.Pattern.sub") (n := ['b', 'u', 's']) (o := ['n', 'r', 'e', 't', 't', 'a', 'P', '.', 'e', 'r']) (by kernel_rfl) owner_pat]; kernel_rfl
theorem str_no_call : typeLookup (.type "str") (Str.ofString "__call__") = pure none := by rw [typeLookup_type, builtinLookup_eq_fast]; kernel_rfl
section
variable {prog : Program} {w : World} {A : Around} {E : Value → Shared → Prop} {s : Shared}
theorem method_pat {P : Addr} {o : Obj} {pl : Sem Bool} {Q : Value × List Value → Shared → Prop} (ho : s.heap.get? P = some o) (hc : o.cls = .type "re.Pattern") (hd : o.dict = none)
    (h : Q (.builtin "re.Pattern.sub", [.ref P]) s) : wpAny (model prog w) A (getMethod (.ref P) (Str.ofString "sub") pl) Q E s :=
  getMethod_builtin ⟨o, ho, hc⟩ plainAttrs_pat slot_pat_sub type_pat_sub (fun a e => by cases e; exact ⟨o, ho, hd⟩) h
theorem sub_call (hit : Nat → Option Nat) (code : Array Nat) (rep txt : Str) (tr tt : Tok) (P : Addr) (out : List Nat) (Q : Value → Shared → Prop) (hP : PatObj s.heap P code)
    (hsr : ∀ p, p ≤ txt.cps.size → ∃ k, k ≤ 8 * txt.cps.size + 20 ∧ Hits hit txt.cps.size p ((forSearch code txt.cps 0 p txt.cps.size false).runFor k)) (hl : ∀ p l, p < txt.cps.size → hit p = some l → 1 ≤ l ∧ p + l ≤ txt.cps.size) (hsz : txt.cps.size ≤ 10000)
    (hrep : rep.cps.contains 92 = false) (HS : SubR hit rep.cps.toList txt.cps 0 out) (hout : out.length ≤ 1000000)
    (hq : ∀ h' tk' t', (∀ b o, s.heap.get? b = some o → h'.get? b = some o) → Q (.str ⟨out.toArray⟩ t') { s with heap := h', toks := tk' }) :
    wpAny (model prog w) A (call (.builtin "re.Pattern.sub") [.ref P, .str rep tr, .str txt tt]) Q E s := by
  obtain ⟨h, g, dd, tk, os⟩ := s
  obtain ⟨fs, ws, T, n, hx⟩ := id hP.ex
  have hty : typeOf (.str rep tr) = pure (.type "str") := rfl
  refine call_meets (S := fun A R s' => s' = ⟨h, g, dd, tk, os⟩ ∧ R = wants Q E) slot_pat_sub ⟨_, hx.1, rfl⟩ entry_pat_sub (args_pat_sub_3 _ _ _) ?_ ⟨rfl, rfl⟩
  rintro prog w A R s' ⟨rfl, rfl⟩
  unfold Builtin.«re.Pattern.sub» reSubstitute
  dsimp only
  generalize hG : reWholeTarget = G
  have hnc := str_no_call
  wp_walk
  refine wpAny_ite_true (by rw [hrep]; rfl) ?_
  refine wpAny_bind (wpAny_pure ?_)
  subst hG
  refine wpAny_bind (wpAny_holding (whole_ hP ?_))
  refine wpAny_ite_false rfl ?_
  refine wpAny_bind (wpAny_newList ?_ (by decide))
  refine wpAny_pure ⟨Code.quiet_builtin _ (by decide +kernel), ?_⟩
  have hk : ∀ b o, h.get? b = some o → (h.push (lst #[] 0)).get? b = some o := fun b o e => Heap.get?_push_of_some _ e
  refine loop_t hit code rep txt tr tt P h.objs.size g dd os Q hsr hl hsz (txt.cps.size + 1) A 0 0 #[] [] out 0 (h.push (lst #[] 0)) _ (by lia) (Nat.zero_le _) HS (PatObj.keeps hP hk) (Heap.get?_push_size _ rfl) .nil (Nat.le_refl _) (by simpa [flatR] using hout) fun h' tk' t' kp => ?_
  exact hq h' tk' t' fun b o e => kp b o (fun q => by rw [q] at e; exact absurd (Heap.lt_size e) (Nat.lt_irrefl _)) (hk b o e)
end
end Mine
end
noncomputable section
open PySem PySem.Sre
namespace Mine
noncomputable def fixE : List Nat → List Nat
  | [] => []
  | c :: r => if c = 13 then (match r with | [] => [13, 10] | d :: r' => if d = 10 then 13 :: 10 :: fixE r' else 13 :: 10 :: fixE (d :: r')) else if c = 10 then 13 :: 10 :: fixE r else c :: fixE r
noncomputable def quot : Bool → List Nat → List Nat
  | _, [] => []
  | b, c :: r => if (b && c == 46) = true then 46 :: 46 :: quot false r else c :: quot (c == 10) r
theorem fixE_oth {c : Nat} {r : List Nat} (h1 : c ≠ 13) (h2 : c ≠ 10) : fixE (c :: r) = c :: fixE r := by rw [fixE.eq_def]; simp only [if_neg h1, if_neg h2]
theorem fixE_lf {r : List Nat} : fixE (10 :: r) = 13 :: 10 :: fixE r := by rw [fixE.eq_def]; simp
theorem fixE_cr {d : Nat} {r : List Nat} (h : d ≠ 10) : fixE (13 :: d :: r) = 13 :: 10 :: fixE (d :: r) := by rw [fixE.eq_def]; simp only [if_pos, if_neg h]
theorem fixE_crlf {r : List Nat} : fixE (13 :: 10 :: r) = 13 :: 10 :: fixE r := by rw [fixE.eq_def]; simp
theorem fixE_cr0 : fixE [13] = [13, 10] := by rw [fixE.eq_def]; simp
theorem drop_at {text : Array Nat} {s : Nat} (h : s < text.size) : text.toList.drop s = text.getD s 0 :: text.toList.drop (s + 1) := by
  have hs : s < text.toList.length := by rw [Array.length_toList]; exact h
  rw [List.drop_eq_getElem_cons hs]
  congr 1
  rw [Array.getD_eq_getD_getElem?, Array.getElem?_eq_getElem h]
  simp
theorem sub_fix (text : Array Nat) : ∀ n s, text.size - s ≤ n → SubR (hit2 text) [13, 10] text s (fixE (text.toList.drop s)) := by
  intro n
  induction n with
  | zero =>
    intro s h
    rw [List.drop_eq_nil_of_le (by rw [Array.length_toList]; lia)]
    exact .done (by lia)
  | succ n ih =>
    intro s h
    by_cases hs : s < text.size
    · rw [drop_at hs]
      by_cases c1 : text.getD s 0 = 13
      · rw [c1]
        by_cases hs2 : s + 1 < text.size
        · rw [drop_at hs2]
          by_cases c2 : text.getD (s + 1) 0 = 10
          · rw [c2]
            have : hit2 text s = some 2 := by unfold hit2; rw [if_pos c1, if_pos ⟨hs2, c2⟩]
            rw [fixE_crlf]
            exact SubR.hit (rep := [13, 10]) hs this (ih (s + 2) (by lia))
          · have : hit2 text s = some 1 := by unfold hit2; rw [if_pos c1, if_neg fun q => c2 q.2]
            have e := ih (s + 1) (by lia)
            rw [drop_at hs2] at e
            rw [fixE_cr c2]
            exact SubR.hit (rep := [13, 10]) hs this e
        · have : hit2 text s = some 1 := by unfold hit2; rw [if_pos c1, if_neg fun q => hs2 q.1]
          have e := SubR.hit (rep := [13, 10]) hs this (ih (s + 1) (by lia))
          rw [List.drop_eq_nil_of_le (by rw [Array.length_toList]; lia)] at e ⊢
          rw [fixE_cr0]
          exact e
      · by_cases c2 : text.getD s 0 = 10
        · have : hit2 text s = some 1 := by unfold hit2; rw [if_neg c1, if_pos c2]
          have e := SubR.hit (rep := [13, 10]) hs this (ih (s + 1) (by lia))
          rw [c2, fixE_lf]; exact e
        · have : hit2 text s = none := hit2_none (fun q => q.elim c1 c2)
          rw [fixE_oth c1 c2]
          exact SubR.skip hs this (ih (s + 1) (by lia))
    · rw [List.drop_eq_nil_of_le (by rw [Array.length_toList]; lia)]
      exact .done (by lia)
theorem sub_quot (text : Array Nat) : ∀ n s, text.size - s ≤ n → SubR (hit1 text) [46, 46] text s (quot (s == 0 || text.getD (s - 1) 0 == 10) (text.toList.drop s)) := by
  intro n
  induction n with
  | zero =>
    intro s h
    rw [List.drop_eq_nil_of_le (by rw [Array.length_toList]; lia)]
    exact .done (by lia)
  | succ n ih =>
    intro s h
    by_cases hs : s < text.size
    · rw [drop_at hs, quot]
      have e := ih (s + 1) (by lia)
      rw [Nat.add_sub_cancel, beq_eq_false_iff_ne.mpr (Nat.succ_ne_zero s), Bool.false_or] at e
      by_cases c : ((s == 0 || text.getD (s - 1) 0 == 10) && text.getD s 0 == 46) = true
      · rw [if_pos c]
        have h1 : hit1 text s = some 1 := by unfold hit1; rw [if_pos c]
        have c46 : text.getD s 0 = 46 := by rw [Bool.and_eq_true] at c; exact eq_of_beq c.2
        rw [c46] at e
        exact SubR.hit (rep := [46, 46]) hs h1 e
      · rw [if_neg c]
        have h1 : hit1 text s = none := by unfold hit1; rw [if_neg c]
        exact SubR.skip hs h1 e
    · rw [List.drop_eq_nil_of_le (by rw [Array.length_toList]; lia)]
      exact .done (by lia)
theorem hit2_le {text : Array Nat} {p l : Nat} (hp : p < text.size) (h : hit2 text p = some l) : 1 ≤ l ∧ p + l ≤ text.size := by
  unfold hit2 at h
  by_cases c1 : text.getD p 0 = 13
  · rw [if_pos c1] at h
    by_cases c2 : p + 1 < text.size ∧ text.getD (p + 1) 0 = 10
    · rw [if_pos c2] at h; have := Option.some.inj h; lia
    · rw [if_neg c2] at h; have := Option.some.inj h; lia
  · rw [if_neg c1] at h
    by_cases c2 : text.getD p 0 = 10
    · rw [if_pos c2] at h; have := Option.some.inj h; lia
    · rw [if_neg c2] at h; cases h
theorem hit1_le {text : Array Nat} {p l : Nat} (hp : p < text.size) (h : hit1 text p = some l) : 1 ≤ l ∧ p + l ≤ text.size := by
  unfold hit1 at h
  by_cases c1 : ((p == 0 || text.getD (p - 1) 0 == 10) && text.getD p 0 == 46) = true
  · rw [if_pos c1] at h; have := Option.some.inj h; lia
  · rw [if_neg c1] at h; cases h
/-- letters put for a letter -/
structure Letters (f : Nat → Nat) : Prop where
  cr : ∀ x, f x = 13 ↔ x = 13
  lf : ∀ x, f x = 10 ↔ x = 10
  dot : ∀ x, f x = 46 ↔ x = 46
theorem fixE_map {f : Nat → Nat} (hf : Letters f) : ∀ (n : Nat) (l : List Nat), l.length ≤ n → fixE (l.map f) = (fixE l).map f
  | _, [], _ => rfl
  | 0, _ :: _, h => by simp at h
  | n + 1, c :: r, h => by
    have h13 : f 13 = 13 := (hf.cr 13).2 rfl
    have h10 : f 10 = 10 := (hf.lf 10).2 rfl
    simp only [List.length_cons] at h
    rw [List.map_cons]
    by_cases c1 : c = 13
    · subst c1
      rw [h13]
      cases r with
      | nil => simp [fixE_cr0, h13, h10]
      | cons d r =>
        simp only [List.length_cons] at h
        rw [List.map_cons]
        by_cases c2 : d = 10
        · subst c2; rw [h10, fixE_crlf, fixE_crlf, fixE_map hf n r (by lia)]; simp [h13, h10]
        · rw [fixE_cr (fun q => c2 ((hf.lf d).1 q)), fixE_cr c2, ← List.map_cons, fixE_map hf n (d :: r) (by simp only [List.length_cons]; lia)]
          simp [h13, h10]
    · by_cases c2 : c = 10
      · subst c2; rw [h10, fixE_lf, fixE_lf, fixE_map hf n r (by lia)]; simp [h13, h10]
      · rw [fixE_oth (fun q => c1 ((hf.cr c).1 q)) (fun q => c2 ((hf.lf c).1 q)), fixE_oth c1 c2, fixE_map hf n r (by lia)]; rfl
theorem quot_map {f : Nat → Nat} (hf : Letters f) : ∀ (l : List Nat) (b : Bool), quot b (l.map f) = (quot b l).map f
  | [], _ => rfl
  | c :: r, b => by
    have h46 : f 46 = 46 := (hf.dot 46).2 rfl
    have e1 : (f c == 46) = (c == 46) := by
      by_cases q : c = 46
      · subst q; rw [h46]
      · rw [beq_eq_false_iff_ne.mpr q, beq_eq_false_iff_ne.mpr fun z => q ((hf.dot c).1 z)]
    have e2 : (f c == 10) = (c == 10) := by
      by_cases q : c = 10
      · subst q; rw [(hf.lf 10).2 rfl]
      · rw [beq_eq_false_iff_ne.mpr q, beq_eq_false_iff_ne.mpr fun z => q ((hf.lf c).1 z)]
    rw [List.map_cons, quot, quot, e1, e2, quot_map hf r, quot_map hf r]
    by_cases q : (b && c == 46) = true
    · rw [if_pos q, if_pos q]; simp [h46]
    · rw [if_neg q, if_neg q]; rfl
noncomputable def endL (i : Nat) : List Nat := match i with | 0 => [10] | 1 => [13] | _ => [13, 10]
noncomputable def rowL (c k i : Nat) : List Nat := List.replicate (k - i) 46 ++ [c, 46]
/-- the rows laid, k of them, their longest with m dots -/
noncomputable def mailJ (c k m : Nat) : List Nat := [c, 46, 13, 10, 13, 10] ++ (List.range k).flatMap fun i => rowL c m i ++ [13, 10]
noncomputable def mailK (c kind k : Nat) : List Nat := if k = 0 then [c, 46] ++ endL kind ++ endL ((kind + 1) % 3) else mailJ c k (k + 1)
noncomputable def putL (c x : Nat) : Nat := if x = 65 then c else x
theorem putL_letters {c : Nat} (h : 47 ≤ c) : Letters (putL c) := by
  refine ⟨fun x => ?_, fun x => ?_, fun x => ?_⟩ <;> unfold putL <;> split <;> lia
theorem mail65 : ∀ kind, kind < 3 → ∀ k, k < 8 → fixE (mailK 65 kind k ++ [46] ++ [65, 46] ++ endL ((kind + (k + 1)) % 3)) = mailJ 65 (k + 1) (k + 1) ∧ quot true (mailJ 65 (k + 1) (k + 1)) = mailJ 65 (k + 1) (k + 2) ∧ (mailJ 65 (k + 1) (k + 2)).length = (mailJ 65 (k + 1) (k + 1)).length + (k + 1) ∧ (mailJ 65 (k + 1) (k + 2)).length ≤ 200 := by decide +kernel
theorem endL_map {c : Nat} (i : Nat) : (endL i).map (putL c) = endL i := by
  unfold endL; split <;> simp [putL]
theorem mailJ_map {c : Nat} (k m : Nat) : (mailJ 65 k m).map (putL c) = mailJ c k m := by
  simp [mailJ, rowL, putL, List.map_flatMap]
theorem mailK_map {c : Nat} (kind k : Nat) : (mailK 65 kind k).map (putL c) = mailK c kind k := by
  unfold mailK
  split
  · rw [List.map_append, List.map_append, endL_map, endL_map]; simp [putL]
  · exact mailJ_map k _
theorem mail_c {c kind k : Nat} (h : 47 ≤ c) (hk : kind < 3) (h8 : k < 8) : fixE (mailK c kind k ++ [46] ++ [c, 46] ++ endL ((kind + (k + 1)) % 3)) = mailJ c (k + 1) (k + 1) ∧ quot true (mailJ c (k + 1) (k + 1)) = mailJ c (k + 1) (k + 2) ∧ (mailJ c (k + 1) (k + 2)).length = (mailJ c (k + 1) (k + 1)).length + (k + 1) ∧ (mailJ c (k + 1) (k + 2)).length ≤ 200 := by
  obtain ⟨a, b, d, e⟩ := mail65 kind hk k h8
  have hf := putL_letters h
  refine ⟨?_, ?_, ?_, ?_⟩
  · rw [← mailJ_map (c := c) (k + 1), ← a, ← fixE_map hf _ _ (Nat.le_refl _), List.map_append, List.map_append, List.map_append, mailK_map, endL_map]
    simp [putL]
  · rw [← mailJ_map (c := c), ← mailJ_map (c := c), ← b, quot_map hf]
  · rw [← mailJ_map (c := c), ← mailJ_map (c := c), List.length_map, List.length_map, d]
  · rw [← mailJ_map (c := c), List.length_map]; exact e
end Mine
end
noncomputable section
open PySem PySem.W PyProof.Rows PySem.Spec PySem.Calls
namespace Mine
theorem pat_mk {K : Frag} {p T : Addr} {fs ws : Array Value} {n : Nat} {code : Array Nat} (a : K.lookup p = some { cls := .type "re.Pattern", data := .fields fs }) (b : fs.getD 5 .none = .ref T) (c : K.lookup T = some { cls := .type "tuple", data := .seq ws n }) (d : (ws.map Builtin.Re.reRawOf).map (·.toNat) = code) (e : Builtin.Re.reRawNat (fs.getD 2 .none) = 0) (f : Builtin.Re.reRawNat (fs.getD 6 .none) = 0) :
    ∃ (fs ws : Array Value) (T : Addr) (n : Nat), K.lookup p = some { cls := .type "re.Pattern", data := .fields fs } ∧ fs.getD 5 .none = .ref T ∧ K.lookup T = some { cls := .type "tuple", data := .seq ws n } ∧ (ws.map Builtin.Re.reRawOf).map (·.toNat) = code ∧ Builtin.Re.reRawNat (fs.getD 2 .none) = 0 ∧ Builtin.Re.reRawNat (fs.getD 6 .none) = 0 := ⟨fs, ws, T, n, a, b, c, d, e, f⟩
theorem pat1 (P : Params) : PySem.Challenge.rw_uk0013_01 = PySem.Challenge.rw_uk0013_01 → ∃ (fs ws : Array Value) (T : Addr) (n : Nat), (hd.heap_39 P).lookup 149 = some { cls := .type "re.Pattern", data := .fields fs } ∧ fs.getD 5 .none = .ref T ∧ (hd.heap_39 P).lookup T = some { cls := .type "tuple", data := .seq ws n } ∧ (ws.map Builtin.Re.reRawOf).map (·.toNat) = RC1 ∧ Builtin.Re.reRawNat (fs.getD 2 .none) = 0 ∧ Builtin.Re.reRawNat (fs.getD 6 .none) = 0 := by
  k_fill
  intro _
  refine' pat_mk ?a ?b ?c ?d ?e ?f
  case a => k_dflt k_is
  case b => exact rfl
  case c => k_dflt k_is
  case d => decide +kernel
  case e => exact rfl
  case f => exact rfl
theorem pat2 (P : Params) : PySem.Challenge.rw_uk0013_01 = PySem.Challenge.rw_uk0013_01 → ∃ (fs ws : Array Value) (T : Addr) (n : Nat), (hd.heap_39 P).lookup 154 = some { cls := .type "re.Pattern", data := .fields fs } ∧ fs.getD 5 .none = .ref T ∧ (hd.heap_39 P).lookup T = some { cls := .type "tuple", data := .seq ws n } ∧ (ws.map Builtin.Re.reRawOf).map (·.toNat) = RC2 ∧ Builtin.Re.reRawNat (fs.getD 2 .none) = 0 ∧ Builtin.Re.reRawNat (fs.getD 6 .none) = 0 := by
  k_fill
  intro _
  refine' pat_mk ?a ?b ?c ?d ?e ?f
  case a => k_dflt k_is
  case b => exact rfl
  case c => k_dflt k_is
  case d => decide +kernel
  case e => exact rfl
  case f => exact rfl
theorem patO {P : Params} {h : Heap} (X : (hd.heap_39 P).In h) : PatObj h 149 RC1 ∧ PatObj h 154 RC2 := by
  obtain ⟨fs, ws, T, n, a, b, c, d⟩ := pat1 P rfl
  obtain ⟨fs', ws', T', n', a', b', c', d'⟩ := pat2 P rfl
  exact ⟨⟨fs, ws, T, n, X _ _ a, b, X _ _ c, d⟩, ⟨fs', ws', T', n', X _ _ a', b', X _ _ c', d'⟩⟩
section
variable {prog : Program} {w : World} {A : Around} {E : Value → Shared → Prop} {s : Shared} {h₀ : Heap} {L : Addr} {m : Str → Option Value} {news : List (Addr × Obj)} {P : Params}
theorem sub2_K {txt : Str} {tr tt : Tok} {Q : Value → Shared → Prop} (F : Fr h₀ L s.heap m) (X : (hd.heap_39 P).In h₀) (N : News h₀ L s.heap news) (hz : txt.cps.size ≤ 1000)
    (hq : ∀ h' tk' t', Fr h₀ L h' m → News h₀ L h' news → Q (.str ⟨(fixE txt.cps.toList).toArray⟩ t') { s with heap := h', toks := tk' }) :
    wpAny (model prog w) A (call (.builtin "re.Pattern.sub") [.ref 154, .str (Str.ofString "\r\n") tr, .str txt tt]) Q E s := by
  have hs := sub_fix txt.cps txt.cps.size 0 (by lia)
  rw [List.drop_zero] at hs
  have hl := hs.len_le (fun p l hp h => (hit2_le hp h).1)
  refine sub_call (hit2 txt.cps) RC2 _ txt tr tt 154 _ Q (patO (X.keeps F.keep)).2 (fun p hp => search2 txt.cps p hp) (fun p l hp h => hit2_le hp h) (by lia) (by decide +kernel) hs ?_ fun h' tk' t' k => hq h' tk' t' (F.grownK k) (N.grown k)
  have : (txt.cps.size - 0) * (2 + 1) ≤ 1000000 := by lia
  exact Nat.le_trans hl this
theorem sub1_K {txt : Str} {tr tt : Tok} {Q : Value → Shared → Prop} (F : Fr h₀ L s.heap m) (X : (hd.heap_39 P).In h₀) (N : News h₀ L s.heap news) (hz : txt.cps.size ≤ 1000)
    (hq : ∀ h' tk' t', Fr h₀ L h' m → News h₀ L h' news → Q (.str ⟨(quot true txt.cps.toList).toArray⟩ t') { s with heap := h', toks := tk' }) :
    wpAny (model prog w) A (call (.builtin "re.Pattern.sub") [.ref 149, .str (Str.ofString "..") tr, .str txt tt]) Q E s := by
  have hs := sub_quot txt.cps txt.cps.size 0 (by lia)
  rw [List.drop_zero] at hs
  have hl := hs.len_le (fun p l hp h => (hit1_le hp h).1)
  refine sub_call (hit1 txt.cps) RC1 _ txt tr tt 149 _ Q (patO (X.keeps F.keep)).1 (fun p hp => (search1 txt.cps p hp).imp fun k hk => ⟨by lia, hk.2⟩) (fun p l hp h => hit1_le hp h) (by lia) (by decide +kernel) hs ?_ fun h' tk' t' k => hq h' tk' t' (F.grownK k) (N.grown k)
  have : (txt.cps.size - 0) * (2 + 1) ≤ 1000000 := by lia
  exact Nat.le_trans hl this
theorem method1_K {p : Addr} {code : Array Nat} {pl : Sem Bool} {Q : Value × List Value → Shared → Prop} (hP : PatObj s.heap p code) (h : Q (.builtin "re.Pattern.sub", [.ref p]) s) : wpAny (model prog w) A (getMethod (.ref p) (Str.ofString "sub") pl) Q E s := by
  obtain ⟨fs, ws, T, n, a, _⟩ := hP.ex
  exact method_pat a rfl rfl h
end
end Mine
end
noncomputable section
open PySem PySem.W PyProof.Rows PySem.Spec PySem.Calls
namespace Mine
local macro_rules | `(tactic| walk_at "getMethod ref") => `(tactic| (k_here; refine halt_in ?_))
local macro_rules | `(tactic| walk_at "call builtin:re.Pattern.sub") => `(tactic| (k_here; refine halt_in ?_))
theorem fix_spec (x : Str) (t : Tok) (hz : x.cps.size ≤ 1000) :
    MCk 168 2 [.str x t] [] (fun _ => True) (fun news news' v => news' = news ∧ ∃ t', v = .str ⟨(fixE x.cps.toList).toArray⟩ t') := by
  unfold MCk
  k_fill
  k_dflt refine' mc_def [(Str.ofString "data", .str x t)] (fun P => ?ho) (fun P => ?hcd) (fun w s X => ?hb) ?hnd ?hloc ?h1 ?h2 ?h3 ?h4 (by decide) ?body
  case ho => k_dflt k_is
  case hcd => k_dflt k_is
  case hb => exact BindsTo.of_eq rfl
  case hnd => exact (by decide : (["data"].map Str.ofString).Nodup)
  case hloc => exact locs rfl
  case h1 => rfl
  case h2 => rfl
  case h3 => rfl
  case h4 => decide
  intro w p loose mean mg mb news dp un gd outer A₀ base g L s B X T hP hdp hun F N lt
  dsimp only [ofL] at F
  k_steps
  refine halt_out (method1_K (patO (X.keeps F.keep)).2 ?_)
  k_steps
  refine halt_out (sub2_K F X N hz fun h' tk' t' F' N' => ?_)
  exact Done.of F' N' (fun _ h => h) ⟨rfl, _, rfl⟩
theorem quote_spec (x : Str) (t : Tok) (hz : x.cps.size ≤ 1000) (hz2 : (fixE x.cps.toList).length ≤ 1000) :
    MCk 161 2 [.str x t] [] (fun _ => True) (fun news news' v => news' = news ∧ ∃ t', v = .str ⟨(quot true (fixE x.cps.toList)).toArray⟩ t') := by
  unfold MCk
  k_fill
  k_dflt refine' mc_def [(Str.ofString "data", .str x t)] (fun P => ?ho) (fun P => ?hcd) (fun w s X => ?hb) ?hnd ?hloc ?h1 ?h2 ?h3 ?h4 (by decide) ?body
  case ho => k_dflt k_is
  case hcd => k_dflt k_is
  case hb => exact BindsTo.of_eq rfl
  case hnd => exact (by decide : (["data"].map Str.ofString).Nodup)
  case hloc => exact locs rfl
  case h1 => rfl
  case h2 => rfl
  case h3 => rfl
  case h4 => decide
  intro w p loose mean mg mb news dp un gd outer A₀ base g L s B X T hP hdp hun F N lt
  dsimp only [ofL] at F
  k_steps
  refine halt_out (method1_K (patO (X.keeps F.keep)).1 ?_)
  k_steps
  refine halt_out (method1_K (patO (X.keeps F.keep)).2 ?_)
  k_steps
  refine halt_out (sub2_K F X N hz fun h' tk' t' F' N' => ?_)
  clear F N
  k_steps
  refine halt_out (sub1_K F' X N' (by simpa using hz2) fun h6 tk6 t6 F6 N6 => ?_)
  exact Done.of F6 N6 (fun _ h => h) ⟨rfl, _, rfl⟩
end Mine
end
noncomputable section
open PySem PySem.W PyProof.Rows PySem.Spec PySem.Calls
namespace Mine
set_option genInjectivity false
set_option genSizeOf false
theorem at_168 : ∀ P, nsIn (hd.heap_39 P) mainGlobals (Str.ofString "_fix_eols") = some (some (.ref 168)) := fun P => by k_dflt k_is
theorem is_168 : FnIs 168 := fun P => ⟨_, _, _, _, by k_dflt k_is⟩
theorem at_161 : ∀ P, nsIn (hd.heap_39 P) mainGlobals (Str.ofString "quotedata") = some (some (.ref 161)) := fun P => by k_dflt k_is
theorem is_161 : FnIs 161 := fun P => ⟨_, _, _, _, by k_dflt k_is⟩
noncomputable abbrev tx (l : List Nat) : Str := ⟨l.toArray⟩
theorem tx_app (a b : List Nat) : tx a ++ tx b = tx (a ++ b) := by
  show Str.mk (a.toArray ++ b.toArray) = _
  rw [List.append_toArray]
theorem tx_len (a : List Nat) : (tx a).length = a.length := List.size_toArray ..
theorem dot_st : Str.ofString "." = tx [46] := by decide +kernel
noncomputable def φfix : SV → R2 := one1 fun a => (sOf a).bind fun x => some (.s (tx (fixE x.cps.toList)), [x.cps.size ≤ 1000])
noncomputable def φquo : SV → R2 := one1 fun a => (sOf a).bind fun x => some (.s (tx (quot true (fixE x.cps.toList))), [x.cps.size ≤ 1000, (fixE x.cps.toList).length ≤ 1000])
theorem fn_fix : PureFn 168 2 φfix := fun ν us x hu => one1_is hu fun a u e ha => .bind (sOf_is ha) fun x ⟨t, e2⟩ hc => by
  subst e e2
  exact mck_pre (fix_spec x t hc.1) fun _ _ => trivial
theorem fn_quo : PureFn 161 2 φquo := fun ν us x hu => one1_is hu fun a u e ha => .bind (sOf_is ha) fun x ⟨t, e2⟩ hc => by
  subst e e2
  exact mck_pre (quote_spec x t hc.1 hc.2.1) fun _ _ => trivial
/-- the three ends of a row -/
noncomputable def endS (i : Nat) : Str := tx (endL i)
noncomputable abbrev endsC : SV := .p (.s (Str.ofString "\n")) (.p (.s (Str.ofString "\r")) (.p (.s (Str.ofString "\r\n")) .nl))
theorem ends_at {ν : Lg} {us : List Value} {j : Nat} (h : IsL ν endsC us) (hj : j < 3) : ∃ u, us[j]? = some u ∧ Is ν (.s (endS j)) u := by
  obtain ⟨u1, _, rfl, ⟨t1, rfl⟩, u2, _, rfl, ⟨t2, rfl⟩, u3, _, rfl, ⟨t3, rfl⟩, rfl⟩ := h
  rcases j with _ | _ | _ | j
  · exact ⟨_, rfl, t1, congrArg (Value.str · t1) (by decide +kernel)⟩
  · exact ⟨_, rfl, t2, congrArg (Value.str · t2) (by decide +kernel)⟩
  · exact ⟨_, rfl, t3, congrArg (Value.str · t3) (by decide +kernel)⟩
  · exact absurd hj (by lia)
theorem endL_len (i : Nat) : (endL i).length ≤ 2 := by unfold endL; split <;> decide
theorem mailK_len {c kind k : Nat} (h : 47 ≤ c) (hk : kind < 3) (h8 : k ≤ 8) : (mailK c kind k).length ≤ 200 := by
  rcases k with _ | k
  · unfold mailK
    rw [if_pos rfl, List.length_append, List.length_append]
    exact Nat.le_trans (Nat.add_le_add (Nat.add_le_add (Nat.le_refl 2) (endL_len _)) (endL_len _)) (by decide)
  · exact (mail_c h hk (k := k) h8).2.2.2
/-- the marks -/
noncomputable def TRI : List Int := [0, 1, 3, 6, 10, 15, 21, 28, 36]
theorem join_tail (g : Array Nat) : ∀ (r : List Str) (acc : Array Nat), r.foldl (fun acc p => acc ++ g ++ p.cps) acc = acc ++ (r.flatMap fun p => g.toList ++ p.cps.toList).toArray
  | [], acc => by simp
  | p :: r, acc => by
    rw [List.foldl_cons, join_tail g r]
    apply Array.toList_inj.mp
    simp
theorem join_rows (c k m : Nat) : Txt.join (Str.ofString "\r\n") ((⟨#[c, 46]⟩ : Str) :: Str.ofString "" :: ((List.range k).map (fun x => (⟨(rowL c m x).toArray⟩ : Str))) ++ [Str.ofString ""]) = ⟨(mailJ c k m).toArray⟩ := by
  have e1 : (Str.ofString "\r\n") = ⟨#[13, 10]⟩ := by decide +kernel
  have e2 : (Str.ofString "") = ⟨#[]⟩ := by decide +kernel
  rw [e1, e2]
  show Str.mk ((((⟨#[]⟩ : Str) :: ((List.range k).map (fun x => (⟨(rowL c m x).toArray⟩ : Str)))) ++ [(⟨#[]⟩ : Str)]).foldl (fun (acc : Array Nat) (p : Str) => acc ++ #[13, 10] ++ p.cps) #[c, 46]) = _
  rw [join_tail]
  congr 1
  apply Array.toList_inj.mp
  unfold mailJ
  generalize List.range k = l
  have : ∀ l : List Nat, [13, 10] ++ (l.flatMap fun i => rowL c m i ++ [13, 10]) = (l.flatMap fun i => [13, 10] ++ rowL c m i) ++ [13, 10] := by
    intro l
    induction l with
    | nil => rfl
    | cons a l ih => simp only [List.flatMap_cons, List.append_assoc] at ih ⊢; rw [ih]
  have h := this l
  simp only [List.cons_append, List.nil_append] at h
  simp [List.flatMap_map, h]
theorem flat_len (c k m : Nat) : (((⟨#[c, 46]⟩ : Str) :: Str.ofString "" :: ((List.range k).map (fun x => (⟨(rowL c m x).toArray⟩ : Str))) ++ [Str.ofString ""]).map (·.length)).sum ≤ 2 + k * (m + 2) := by
  have e2 : (Str.ofString "").length = 0 := by decide +kernel
  have : ∀ l : List Nat, ((l.map (fun x => (⟨(rowL c m x).toArray⟩ : Str))).map (·.length)).sum ≤ l.length * (m + 2) := by
    intro l
    induction l with
    | nil => simp
    | cons a l ih =>
      simp only [List.map_cons, List.sum_cons, List.length_cons]
      have : (⟨(rowL c m a).toArray⟩ : Str).length ≤ m + 2 := by
        show (rowL c m a).toArray.size ≤ _
        simp [rowL]
      rw [Nat.add_mul]; lia
  have h := this (List.range k)
  rw [List.length_range] at h
  simp only [List.cons_append, List.map_cons, List.map_append, List.sum_cons, List.sum_append, List.map_nil, List.sum_nil, e2]
  show (#[c, 46] : Array Nat).size + _ ≤ _
  simp only [List.size_toArray, List.length_cons, List.length_nil]
  lia
theorem ints_last {x : Int} : ∀ {ns : List Int} {vs : List Value}, IntsL (ns ++ [x]) vs → ∃ t, vs.getLast? = some (.int x t)
  | [], _, ⟨t, _, e, h⟩ => by subst e; cases h; exact ⟨t, rfl⟩
  | n :: ns, _, ⟨t, ur, e, h⟩ => by
    subst e
    obtain ⟨u, hu⟩ := ints_last h
    exact ⟨u, by rw [List.getLast?_cons, hu]; rfl⟩
theorem tri_at {i : Nat} (hi : i < 8) : TRI.take (i + 1) = TRI.take i ++ [TRI.getD i 0] ∧ TRI.take (i + 1 + 1) = TRI.take (i + 1) ++ [TRI.getD (i + 1) 0] ∧ TRI.getD i 0 + ((i + 1 : Nat) : Int) = TRI.getD (i + 1) 0 := by
  revert i
  decide
theorem rng8 : ∀ i : Nat, i < 8 → Builtin.Range.small 0 (1 + (i : Int)) 1 = true ∧ Builtin.Range.rangeSize 0 (1 + (i : Int)) 1 = ((i + 1 : Nat) : Int) := by decide
/-- where one turn's check stands -/
noncomputable def CJ (c kd i : Nat) (qM : Addr) (vs : List Value) (ν1 : Lg) (E1 S1 : List Nat) (σ : Sg) (ν : Lg) : Prop := (∀ p ∈ ν1, p ∈ ν) ∧ σ = [((Str.ofString "k"), .i (1 + (i : Int))), ((Str.ofString "even"), .s (tx E1)), ((Str.ofString "sent"), .s (tx S1)), ((Str.ofString "marks"), .m qM vs), ((Str.ofString "tail"), .s (tx [c, 46])), ((Str.ofString "kind"), .i kd), ((Str.ofString "ends"), .l endsC)]
theorem catE (a b e : List Nat) : tx a ++ Str.ofString "." ++ tx b ++ tx e = tx (a ++ [46] ++ b ++ e) := by rw [dot_st, tx_app, tx_app, tx_app]
theorem row_eq {c m r : Nat} (h : r ≤ m) {x : Int} (hx : x = ((m - r : Nat) : Int)) : dots x.toNat ++ tx [c, 46] = tx (rowL c m r) := by
  subst hx
  exact tx_app _ _
theorem row_ok {i j r : Nat} (hi : i < 8) (hj : j < 2) (hr : r < i + 1) : (1 : Int) + i + j - r = ((i + 1 + j - r : Nat) : Int) ∧ (1 : Int) ≤ 1 + i + j - r ∧ (1 : Int) + i + j - r ≤ 100 := by lia
theorem rowlen_ok {i j r : Nat} {c : Nat} (hi : i < 8) (hj : j < 2) (hr : r < i + 1) : (dots ((1 : Int) + i + j - r).toNat).length + (tx [c, 46]).length ≤ sizeLine := by
  show (List.replicate _ 46).toArray.size + 2 ≤ _
  rw [List.size_toArray, List.length_replicate]
  exact Nat.le_trans (show ((1 : Int) + i + j - r).toNat + 2 ≤ 100 by lia) (by decide)
theorem join_ok {c i j : Nat} (hi : i < 8) (hj : j < 2) : ((([tx [c, 46], Str.ofString ""] ++ (List.range (i + 1)).map fun x => tx (rowL c (i + 1 + j) x)) ++ [Str.ofString ""]).map (·.length)).sum + ([tx [c, 46], Str.ofString ""] ++ (List.range (i + 1)).map (fun x => tx (rowL c (i + 1 + j) x)) ++ [Str.ofString ""]).length * (Str.ofString "\r\n").length ≤ 16777216 := by
  have := flat_len c (i + 1) (i + 1 + j)
  have h2 : (i + 1) * (i + 1 + j + 2) ≤ 8 * 11 := Nat.mul_le_mul hi (by lia)
  refine Nat.le_trans (Nat.add_le_add this (Nat.mul_le_mul_right _ (show _ ≤ 11 from ?_))) (show 2 + (i + 1) * (i + 1 + j + 2) + 11 * 2 ≤ _ by lia)
  simp only [List.length_append, List.length_cons, List.length_nil, List.length_map, List.length_range]
  lia
/-- where the marks stand after i turns -/
noncomputable def MJ (c kd : Nat) (qM : Addr) (ν1 : Lg) (i : Nat) (σ : Sg) (ν : Lg) : Prop := (∀ p ∈ ν1, p ∈ ν) ∧ ∃ vs, IntsL (TRI.take (i + 1)) vs ∧ σ = [((Str.ofString "mail"), .s (tx (mailK c kd i))), ((Str.ofString "marks"), .m qM vs), ((Str.ofString "tail"), .s (tx [c, 46])), ((Str.ofString "kind"), .i kd), ((Str.ofString "ends"), .l endsC)]
theorem marks_spec' (c kd : Nat) (hc : 47 ≤ c) (hk3 : kd < 3) : Fn 173 5 (.p (.s (tx [c, 46])) (.p (.i kd) .nl)) (New (.li TRI)) := by
  intro ν0 us hu
  refine IsL.e2 hu fun u1 u2 i1 i2 => ?_
  unfold MCk
  k_fill
  k_dflt refine' mc_tri (lv := 4) [((Str.ofString "tail"), u1), ((Str.ofString "kind"), u2)] [((Str.ofString "tail"), (.s (tx [c, 46]))), ((Str.ofString "kind"), (.i kd))] (fun P => ?ho) (fun P => ?hcd) (fun w s X => ?hb) ?hnd ?hkd ?hc0 ?h1 ?h2 ?h3 (fun ν hν => ?hs) (fun K ν s9 G hν lt hfz hcl hq => ?body)
  case ho => k_dflt k_is
  case hcd => k_dflt k_is
  case hb => exact BindsTo.of_eq rfl
  case hnd => exact (by decide : (["tail", "kind"].map Str.ofString).Nodup)
  case hkd => rfl
  case hc0 => decide +kernel
  case h1 => rfl
  case h2 => rfl
  case h3 => rfl
  case hs => exact ⟨rfl, .inr rfl, Is.mono hν i1, rfl, .inl rfl, Is.mono hν i2, trivial⟩
  obtain ⟨q1, q2, q3, q4⟩ := hq
  have eow : K.ow = [((Str.ofString "more"), K.L + 1 + 1 + 1), ((Str.ofString "k"), K.L + 1 + 1), ((Str.ofString "tail"), K.L + 1)] := hcl.trans rfl
  have ecl := q1.trans eow
  have H := own_cells hcl
  refine tri_asgX G (ex_list (exl_ev G .nil rfl trivial) (Nat.le_of_ble_eq_true rfl)) fun ν1 e1 => ?_
  have hk1000 : kd < 1000 := Nat.lt_trans hk3 (by decide)
  have hm1000 : ∀ k, k % 3 < 1000 := fun k => Nat.lt_trans (Nat.mod_lt _ (by decide)) (by decide)
  refine tri_swapVM G .nil (ex_binX G (ex_binX G (ex_ev G .nil rfl trivial) (ex_atL (w := (Str.ofString "ends")) G .nil rfl rfl trivial rfl hk1000 fun us hu => ends_at hu hk3) rfl ?c1) (ex_atL (w := (Str.ofString "ends")) G .nil rfl rfl ?c2 (dm_n (kd + 1) 3).2 (hm1000 _) fun us hu => ends_at hu (Nat.mod_lt _ (by decide))) rfl ?c3) rfl trivial (Nat.le_of_ble_eq_true rfl) fun qM us0 lt hus => ?_
  case c1 => exact ⟨by rw [tx_len, endS, tx_len]; exact Nat.le_trans (Nat.add_le_add_left (endL_len kd) 2) (by decide), trivial⟩
  case c2 => exact ⟨by decide, trivial⟩
  case c3 => exact ⟨by rw [endS, endS, tx_app, tx_len, tx_len, List.length_append]; exact Nat.le_trans (Nat.add_le_add (Nat.add_le_add_left (endL_len kd) 2) (endL_len _)) (by decide), trivial⟩
  have e0 : tx [c, 46] ++ endS kd ++ endS ((kd + 1) % 3) = tx (mailK c kd 0) := by rw [endS, endS, tx_app, tx_app]; rfl
  refine tri_forO (n := 8) (MJ c kd qM ν1) G H (src_range G.env (ev_of G .nil) G (by rfl) (by trivial) (by rfl) (by rfl) (by rfl) (val := fun i => 1 + i) (fun i => congrArg _ (Int.mul_one _))) (fun ν2 h => ⟨_, ⟨fun p hp => h ▸ hp, us0, ?_, rfl⟩, congrArg (fun t => some (SV.s t)) e0, AllSub.of rfl⟩) (fun X kl _ G i σ' ν' hi hj hl => ⟨_, .name rfl rfl, ?_⟩) fun σ' ν' hj => ?_
  · obtain ⟨u, _, rfl, ⟨t, rfl⟩, rfl⟩ := hus
    exact ⟨t, [], rfl, rfl⟩
  · obtain ⟨hsub, vs, hv, rfl⟩ := hj
    obtain ⟨e1, e2, e3, e4⟩ := mail_c (kind := kd) hc hk3 hi
    have hM0 := mailK_len (c := c) (kind := kd) (k := i) hc hk3 (Nat.le_of_lt hi)
    have hN : mailK c kd (i + 1) = mailJ c (i + 1) (i + 1 + 1) := if_neg (Nat.succ_ne_zero i)
    generalize mailK c kd i = M0 at *
    refine tri_asgX G (ex_binX G (ex_ev G .nil rfl ?c1) (ex_atL (w := (Str.ofString "ends")) (jn := (kd + (i + 1)) % 3) G .nil rfl rfl ?c2 ?c3 (hm1000 _) fun us hu => ends_at hu (Nat.mod_lt _ (by decide))) rfl ?c4) fun ν2 e => ?_
    case c1 => exact ⟨by rw [dot_st, tx_len, tx_len]; exact Nat.le_trans (Nat.add_le_add_right hM0 1) (by decide), by rw [dot_st, tx_app, tx_len, tx_len, List.length_append]; exact Nat.le_trans (Nat.add_le_add_right (Nat.add_le_add_right hM0 1) 2) (by decide), trivial⟩
    case c2 => exact ⟨by decide, trivial⟩
    case c3 => exact Nat.add_comm 1 i ▸ (dm_n (kd + (1 + i)) 3).2
    case c4 => exact ⟨by rw [dot_st, endS, tx_app, tx_app, tx_len, tx_len, List.length_append, List.length_append]; exact Nat.le_trans (Nat.add_le_add (Nat.add_le_add_right (Nat.add_le_add_right hM0 1) 2) (endL_len _)) (by decide), trivial⟩
    subst e
    refine tri_val (congrArg SV.s (catE M0 [c, 46] (endL ((kd + (i + 1)) % 3)))) ?_
    have hM1 : (M0 ++ [46] ++ [c, 46] ++ endL ((kd + (i + 1)) % 3)).length ≤ 1000 := by
      rw [List.length_append, List.length_append, List.length_append]
      exact Nat.le_trans (Nat.add_le_add (Nat.add_le_add_right (Nat.add_le_add_right hM0 1) 2) (endL_len _)) (by decide)
    generalize M0 ++ [46] ++ [c, 46] ++ endL ((kd + (i + 1)) % 3) = M1 at *
    have hE : (mailJ c (i + 1) (i + 1)).length ≤ 1000 := by lia
    have O : OraOK (K.frs X) _ ν2 [((Str.ofString "_fix_eols"), fun _ => φfix), ((Str.ofString "quotedata"), fun _ => φquo)] := .cons (cal_fn G fn_fix at_168 is_168 (by decide)) (.cons (cal_fn G fn_quo at_161 is_161 (by decide)) .nil)
    refine tri_swap2 G O rfl ⟨hM1, hM1, Nat.le_trans (Nat.le_of_eq (congrArg List.length e1)) hE, trivial⟩ (tri_val2 (congrArg (fun t => SV.s (tx t)) e1) (congrArg (fun t => SV.s (tx t)) ((congrArg (quot true) e1).trans e2)) ?_)
    refine tri_forO (n := 2) (fun j σ ν => CJ c kd i qM vs ν2 (mailJ c (i + 1) (i + 1)) (mailJ c (i + 1) (i + 2)) σ ν) G H (src_list G.han (ex_list (exl_cons (ex_tup (exl_ev G .nil rfl trivial) (Nat.le_of_ble_eq_true rfl)) fun _ _ => exl_cons (ex_tup (exl_ev G .nil rfl trivial) (Nat.le_of_ble_eq_true rfl)) fun _ _ => exl_nil) (Nat.le_of_ble_eq_true rfl)) rfl (.inr ⟨⟨_, _, _, rfl⟩, fun j hj => ?it⟩)) (fun ν3 h => ⟨[((Str.ofString "k"), .i (1 + (i : Int))), ((Str.ofString "even"), .s (tx (mailJ c (i + 1) (i + 1)))), ((Str.ofString "sent"), .s (tx (mailJ c (i + 1) (i + 2)))), ((Str.ofString "marks"), .m qM vs), ((Str.ofString "tail"), .s (tx [c, 46])), ((Str.ofString "kind"), .i kd), ((Str.ofString "ends"), .l endsC)], ⟨h.sub, rfl⟩, AllSub.of rfl⟩) (fun X2 kl2 _ G j σ' ν' hj hc2 hl2 => ?turn) fun σ' ν' hc2 => ?fin2
    case it =>
      rcases j with _ | _ | j
      · exact ⟨_, rfl⟩
      · exact ⟨_, rfl⟩
      · exact absurd hj (by lia)
    case turn =>
      obtain ⟨hsub2, rfl⟩ := hc2
      refine ⟨[((Str.ofString "more"), .i (j : Nat)), ((Str.ofString "text"), .s (tx (mailJ c (i + 1) (i + 1 + j)))), ((Str.ofString "k"), .i (1 + (i : Int))), ((Str.ofString "even"), .s (tx (mailJ c (i + 1) (i + 1)))), ((Str.ofString "sent"), .s (tx (mailJ c (i + 1) (i + 2)))), ((Str.ofString "marks"), .m qM vs), ((Str.ofString "tail"), .s (tx [c, 46])), ((Str.ofString "kind"), .i kd), ((Str.ofString "ends"), .l endsC)], .inr ⟨_, _, _, .p (.s (tx (mailJ c (i + 1) (i + 1 + j)))) (.p (.i (j : Nat)) .nl), rfl, ?_, rfl⟩, ?_⟩
      · rcases j with _ | _ | j
        · rfl
        · rfl
        · exact absurd hj (by lia)
      refine tri_asgComp (y := (Str.ofString "rows")) (σ0 := [((Str.ofString "more"), .i (j : Nat)), ((Str.ofString "k"), .i (1 + (i : Int))), ((Str.ofString "tail"), .s (tx [c, 46]))]) (σt := fun r => ((Str.ofString "i"), .i (r : Nat)) :: [((Str.ofString "more"), .i (j : Nat)), ((Str.ofString "k"), .i (1 + (i : Int))), ((Str.ofString "tail"), .s (tx [c, 46]))]) (b := fun _ => true) (out := fun r => .s (tx (rowL c (i + 1 + j) r))) (cl := [((Str.ofString "tail"), K.L + 1), ((Str.ofString "more"), K.L + 1 + 1 + 1), ((Str.ofString "k"), K.L + 1 + 1)]) (sv := .l (strC ((List.range (i + 1)).map fun x => tx (rowL c (i + 1 + j) x)))) G (src_range (n := i + 1) G.env (ev_of G .nil) G (by rfl) (by trivial) (by rfl) (by exact (rng8 i hi).1) (by exact (rng8 i hi).2) (val := fun r => r) (fun r => ?v)) (Nat.le_trans (Nat.succ_le_of_lt hi) (by decide)) (cells_in ?cells) (fun r hr => .name rfl rfl) (fun ν1 h r hr => ifs_nil) (fun ν1 h r hr _ => congrArg SV.s (row_eq (m := i + 1 + j) (r := r) (by lia) (row_ok hi hj hr).1) ▸ elt_ev G.env rfl .nil rfl ?elt) (fun ν' u h => strC_chain (fun r => tx (rowL c (i + 1 + j) r)) (i + 1) ▸ h) (fun ν3 hS => ?_) ?clos
      case v => exact (Int.zero_add _).trans (Int.mul_one _)
      case cells => exact ⟨⟨rfl, rfl, rfl, _, by show K.ow.lookup _ = _; rw [eow]; rfl, rfl⟩, ⟨rfl, rfl, rfl, _, by show K.ow.lookup _ = _; rw [eow]; rfl, rfl⟩, ⟨rfl, rfl, rfl, _, by show K.ow.lookup _ = _; rw [eow]; rfl, rfl⟩, trivial⟩
      case elt => exact ⟨rfl, (row_ok hi hj hr).2.1, (row_ok hi hj hr).2.2, rowlen_ok hi hj hr, trivial⟩
      case clos => unfold PC.env; rw [ecl]; rfl
      obtain ⟨p3, ν4, ⟨_, rfl, hS⟩, rfl⟩ := hS
      refine tri_ifE (SL := Ext _) (SR := Ext) (ex_pure G .nil rfl trivial) (fun ν4 S4 => ex_join (ys := [tx [c, 46], Str.ofString ""] ++ (List.range (i + 1)).map (fun x => tx (rowL c (i + 1 + j) x)) ++ [Str.ofString ""]) (fun z => ex_addS (ex_addS (a := [tx [c, 46], Str.ofString ""]) (ex_list (exl_ev G .nil rfl trivial) (Nat.le_of_ble_eq_true rfl)) (fun ν5 S5 => ex_pure G .nil rfl trivial) ?z1) (fun ν5 S5 => ex_list (exl_ev G .nil rfl trivial) (Nat.le_of_ble_eq_true rfl)) ?z2) (join_ok hi hj)) (fun _ _ u _ S h => h.mono S.sub) (cmp_pure G rfl) (fun h => absurd h ?ne) fun _ ν4 ν5 S4 S5 => tri_next (tri_fend [((Str.ofString "k"), .i (1 + (i : Int))), ((Str.ofString "even"), .s (tx (mailJ c (i + 1) (i + 1)))), ((Str.ofString "sent"), .s (tx (mailJ c (i + 1) (i + 2)))), ((Str.ofString "marks"), .m qM vs), ((Str.ofString "tail"), .s (tx [c, 46])), ((Str.ofString "kind"), .i kd), ((Str.ofString "ends"), .l endsC)] ν5 ⟨fun p hp => S5.sub _ (S4.sub _ (.tail _ (hS _ (hsub2 p hp)))), rfl⟩ (fun p hp => S5.sub _ (S4.sub _ (.tail _ (hS _ (hl2 p hp))))) (fun _ h => h) (sub_of (AllSub.get (.of rfl))))
      case z1 => rw [List.length_map, List.length_range]; exact Nat.le_trans (Nat.add_le_add_left hi 2) (by decide)
      case z2 => rw [List.length_append, List.length_map, List.length_range]; exact Nat.le_trans (Nat.add_le_add_right (Nat.add_le_add_left hi 2) 1) (by decide)
      case ne =>
        show ¬ (tx (mailJ c (i + 1) (i + 1 + j)) != Txt.join (Str.ofString "\r\n") ((⟨#[c, 46]⟩ : Str) :: Str.ofString "" :: (List.range (i + 1)).map (fun x => (⟨(rowL c (i + 1 + j) x).toArray⟩ : Str)) ++ [Str.ofString ""])) = true
        rw [join_rows, bne_self_eq_false]
        exact Bool.false_ne_true
    case fin2 =>
      obtain ⟨hsub2, rfl⟩ := hc2
      obtain ⟨t1, t2, t3⟩ := tri_at hi
      have hlen : vs.length = i + 1 := hv.length.trans (by rw [List.length_take]; exact Nat.min_eq_left (Nat.succ_le_of_lt (Nat.lt_succ_of_lt hi)))
      have O : OraOK (K.frs X) _ ν' [((Str.ofString "len"), fun _ => φlen)] := .cons (c_len G rfl) .nil
      have h63 : ∀ l : List Nat, l.length ≤ 1000 → (tx l).length < 2 ^ 63 := fun l h => (tx_len l).symm ▸ Nat.lt_of_le_of_lt h (by decide)
      refine tri_appendX (x := (Str.ofString "marks")) G (ex_binE G O (ex_binE G O (ex_lastM G rfl (ints_last (t1 ▸ hv))) rfl ⟨h63 _ (Nat.le_trans e4 (by decide)), trivial⟩ rfl trivial) rfl ⟨h63 _ hE, trivial⟩ rfl trivial) rfl (hlen ▸ Nat.le_trans (Nat.succ_le_of_lt hi) (by decide)) fun ν4 u e hu => ?_
      subst e
      refine tri_asg G .nil rfl trivial ?_
      have hx : TRI.getD i 0 + ((tx (mailJ c (i + 1) (i + 2))).length : Int) - ((tx (mailJ c (i + 1) (i + 1))).length : Int) = TRI.getD (i + 1) 0 := by
        rw [tx_len, tx_len, ← t3, e3]
        lia
      refine tri_fend [((Str.ofString "mail"), .s (tx (mailK c kd (i + 1)))), ((Str.ofString "marks"), .m qM (vs ++ [u])), ((Str.ofString "tail"), .s (tx [c, 46])), ((Str.ofString "kind"), .i kd), ((Str.ofString "ends"), .l endsC)] ν4 ⟨fun p hp => hsub2 _ (hsub p hp), vs ++ [u], ?_, rfl⟩ (fun p hp => hsub2 _ (hl p hp)) (fun _ h => h) (sub_of (AllSub.get ⟨hN ▸ rfl, AllSub.of rfl⟩))
      rw [t2]
      exact ints_app hv (ints_one (hx ▸ hu))
  · obtain ⟨hsub, vs, hv, rfl⟩ := hj
    refine tri_freeze (x := (Str.ofString "marks")) (.lv qM vs) rfl (fun ν' u _ ⟨m, e, h⟩ => ⟨e, m, h⟩) fun m => ?_
    refine tri_ret G .nil rfl trivial fun u s hs hu => done_ok (ν' := (qM, listO vs m) :: ν) hs (fun p hp => (List.mem_cons.mp hp).elim (fun e => e ▸ .head _) fun hp => .tail _ (hsub p (e1.sub p hp))) ⟨qM, _, rfl, ⟨qM, vs, m, hu.1, .head _, hv⟩, e1.up lt⟩
end Mine
end
noncomputable section
open PySem PySem.W PyProof.Rows PySem.Spec PySem.Calls
namespace Mine
noncomputable def q16 (n : Nat) : UInt64 := Float64.ofFrac false n 16
theorem fr16 {k : Int} (h : 0 ≤ k) : Float64.ofFrac (decide (k < 0) != decide ((16 : Int) < 0)) k.natAbs (16 : Int).natAbs = q16 k.toNat := by
  obtain ⟨n, rfl⟩ := Int.eq_ofNat_of_zero_le h
  rw [decide_eq_false (Int.not_lt.mpr h)]
  rfl
theorem q16_cmp (a b : Nat) (ha : a ≤ 16) (hb : b ≤ 16) : Float64.cmp (q16 a) (q16 b) = some (compare a b) :=
  eq_of_beq ((by decide +kernel : ∀ a : Fin 17, ∀ b : Fin 17, (Float64.cmp (q16 a.1) (q16 b.1) == some (compare a.1 b.1)) = true) ⟨a, Nat.lt_succ_of_le ha⟩ ⟨b, Nat.lt_succ_of_le hb⟩)
theorem q16_subW (a b : Nat) (ha : a ≤ 32) (hb : b ≤ 16) (hab : b ≤ a) : Float64.sub (q16 a) (q16 b) = q16 (a - b) :=
  eq_of_beq ((by decide +kernel : ∀ a : Fin 33, ∀ b : Fin 17, b.1 ≤ a.1 → (Float64.sub (q16 a.1) (q16 b.1) == q16 (a.1 - b.1)) = true) ⟨a, Nat.lt_succ_of_le ha⟩ ⟨b, Nat.lt_succ_of_le hb⟩ hab)
theorem q16_sub (a b : Nat) (ha : a ≤ 16) (hb : b ≤ a) : Float64.sub (q16 a) (q16 b) = q16 (a - b) := q16_subW a b (Nat.le_trans ha (by decide)) (Nat.le_trans hb ha) hb
theorem q16_add (a b : Nat) (ha : a ≤ 16) (hb : b ≤ 16) : Float64.add (q16 a) (q16 b) = q16 (a + b) :=
  eq_of_beq ((by decide +kernel : ∀ a : Fin 17, ∀ b : Fin 17, (Float64.add (q16 a.1) (q16 b.1) == q16 (a.1 + b.1)) = true) ⟨a, Nat.lt_succ_of_le ha⟩ ⟨b, Nat.lt_succ_of_le hb⟩)
theorem q16_two (a : Nat) (ha : a ≤ 16) : Float64.sub f2 (q16 a) = q16 (32 - a) :=
  eq_of_beq ((by decide +kernel : ∀ a : Fin 17, (Float64.sub f2 (q16 a.1) == q16 (32 - a.1)) = true) ⟨a, Nat.lt_succ_of_le ha⟩)
theorem max2_q (a b : Nat) (ha : a ≤ 16) (hb : b ≤ 16) : (if (Float64.cmp (q16 a) (q16 b) == some .lt) = true then q16 b else q16 a) = q16 (max a b) :=
  eq_of_beq ((by decide +kernel : ∀ a : Fin 17, ∀ b : Fin 17, ((if (Float64.cmp (q16 a) (q16 b) == some .lt) = true then q16 b else q16 a) == q16 (max a.1 b.1)) = true) ⟨a, Nat.lt_succ_of_le ha⟩ ⟨b, Nat.lt_succ_of_le hb⟩)
theorem min2_q (a b : Nat) (ha : a ≤ 16) (hb : b ≤ 16) : (if (Float64.cmp (q16 b) (q16 a) == some .lt) = true then q16 b else q16 a) = q16 (min a b) :=
  eq_of_beq ((by decide +kernel : ∀ a : Fin 17, ∀ b : Fin 17, ((if (Float64.cmp (q16 b) (q16 a) == some .lt) = true then q16 b else q16 a) == q16 (min a.1 b.1)) = true) ⟨a, Nat.lt_succ_of_le ha⟩ ⟨b, Nat.lt_succ_of_le hb⟩)
theorem max_q (a b c : Nat) (ha : a ≤ 16) (hb : b ≤ 16) (hc : c ≤ 16) : Flt.maxOfBits [q16 a, q16 b, q16 c] = q16 (max (max a b) c) := by
  show (if (Float64.cmp (if (Float64.cmp (q16 a) (q16 b) == some .lt) = true then q16 b else q16 a) (q16 c) == some .lt) = true then q16 c else (if (Float64.cmp (q16 a) (q16 b) == some .lt) = true then q16 b else q16 a)) = _
  rw [max2_q a b ha hb, max2_q _ c (Nat.max_le.mpr ⟨ha, hb⟩) hc]
theorem min_q (a b c : Nat) (ha : a ≤ 16) (hb : b ≤ 16) (hc : c ≤ 16) : Flt.minOfBits [q16 a, q16 b, q16 c] = q16 (min (min a b) c) := by
  show (if (Float64.cmp (q16 c) (if (Float64.cmp (q16 b) (q16 a) == some .lt) = true then q16 b else q16 a) == some .lt) = true then q16 c else (if (Float64.cmp (q16 b) (q16 a) == some .lt) = true then q16 b else q16 a)) = _
  rw [min2_q a b ha hb, min2_q _ c (Nat.le_trans (Nat.min_le_left _ _) ha) hc]
theorem mx16 {a b c : Nat} (ha : a ≤ 16) (hb : b ≤ 16) (hc : c ≤ 16) : max (max a b) c ≤ 16 := Nat.max_le.mpr ⟨Nat.max_le.mpr ⟨ha, hb⟩, hc⟩
theorem mn_mx (a b c : Nat) : min (min a b) c ≤ max (max a b) c := Nat.le_trans (Nat.min_le_right _ _) (Nat.le_max_right _ _)
theorem zs_all : ∀ M : Fin 17, ∀ m : Fin 17, m.1 ≤ M.1 → (Float64.cmp (q16 m) (q16 M) == some Ordering.eq) = false → Float64.isZero (q16 M) = false ∧ Float64.isZero (Float64.sub (q16 M) (q16 m)) = false ∧ Float64.isZero (Float64.add (q16 M) (q16 m)) = false ∧ Float64.isZero (Float64.sub (Float64.sub f2 (q16 M)) (q16 m)) = false := by decide +kernel
theorem q_zs {a b c : Nat} (ha : a ≤ 16) (hb : b ≤ 16) (hc : c ≤ 16) (h : (Float64.cmp (Flt.minOfBits [q16 a, q16 b, q16 c]) (Flt.maxOfBits [q16 a, q16 b, q16 c]) == some Ordering.eq) = false) : Float64.isZero (Flt.maxOfBits [q16 a, q16 b, q16 c]) = false ∧ Float64.isZero (Float64.sub (Flt.maxOfBits [q16 a, q16 b, q16 c]) (Flt.minOfBits [q16 a, q16 b, q16 c])) = false ∧ Float64.isZero (Float64.add (Flt.maxOfBits [q16 a, q16 b, q16 c]) (Flt.minOfBits [q16 a, q16 b, q16 c])) = false ∧ Float64.isZero (Float64.sub (Float64.sub f2 (Flt.maxOfBits [q16 a, q16 b, q16 c])) (Flt.minOfBits [q16 a, q16 b, q16 c])) = false := by
  rw [max_q a b c ha hb hc, min_q a b c ha hb hc] at h ⊢
  exact zs_all ⟨_, Nat.lt_succ_of_le (mx16 ha hb hc)⟩ ⟨_, Nat.lt_succ_of_le (Nat.le_trans (mn_mx a b c) (mx16 ha hb hc))⟩ (mn_mx a b c) h
end Mine
end
noncomputable section
open PySem PySem.W PyProof.Rows PySem.Spec PySem.Calls
namespace Mine
set_option genInjectivity false
set_option genSizeOf false
/-- what the law reads of a colour -/
noncomputable def readF (r g b white light : Int) : T3 :=
  if light ≠ 0 then hlsOf (q16 (r + white).toNat) (q16 (g + white).toNat) (q16 (b + white).toNat) else hsvOf (q16 (r + white).toNat) (q16 (g + white).toNat) (q16 (b + white).toNat)
theorem nat_ok {a : Int} (h : 0 ≤ a ∧ a ≤ 8) {w : Int} (hw : 0 ≤ w ∧ w ≤ 8) : 0 ≤ a + w ∧ (a + w).toNat ≤ 16 ∧ (a + w).natAbs < 2 ^ 1023 := by
  refine ⟨Int.add_nonneg h.1 hw.1, by lia, Nat.lt_of_le_of_lt (show (a + w).natAbs ≤ 16 by lia) (by decide)⟩
theorem at_hls : ∀ P, nsIn (hd.heap_39 P) mainGlobals (Str.ofString "rgb_to_hls") = some (some (.ref 116)) := fun P => by k_dflt k_is
theorem is_hls : FnIs 116 := fun P => ⟨_, _, _, _, by k_dflt k_is⟩
theorem at_hsv : ∀ P, nsIn (hd.heap_39 P) mainGlobals (Str.ofString "rgb_to_hsv") = some (some (.ref 137)) := fun P => by k_dflt k_is
theorem is_hsv : FnIs 137 := fun P => ⟨_, _, _, _, by k_dflt k_is⟩
theorem read_spec' (r g b w lg : Int) (hr : 0 ≤ r ∧ r ≤ 8) (hg : 0 ≤ g ∧ g ≤ 8) (hb : 0 ≤ b ∧ b ≤ 8) (hw : 0 ≤ w ∧ w ≤ 8) : Fn 185 3 (.p (.t (.p (.i r) (i2c g b))) (.p (.i w) (.p (.i lg) .nl))) (New (.t (c3 (readF r g b w lg) true))) := by
  intro ν0 us hu
  refine IsL.e3 hu fun u1 u2 u3 i1 i2 i3 => ?_
  unfold MCk
  k_fill
  k_dflt refine' mc_tri (lv := 2) [((Str.ofString "colour"), u1), ((Str.ofString "white"), u2), ((Str.ofString "light"), u3)] [((Str.ofString "colour"), (.t (.p (.i r) (i2c g b)))), ((Str.ofString "white"), (.i w)), ((Str.ofString "light"), (.i lg))] (fun P => ?ho) (fun P => ?hcd) (fun w s X => ?hb) ?hnd ?hkd ?hc0 ?h1 ?h2 ?h3 (fun ν hν => ?hs) (fun K ν s9 G hν lt hfz hcl hq => ?body)
  case ho => k_dflt k_is
  case hcd => k_dflt k_is
  case hb => exact BindsTo.of_eq rfl
  case hnd => exact (by decide : (["colour", "white", "light"].map Str.ofString).Nodup)
  case hkd => rfl
  case hc0 => decide +kernel
  case h1 => rfl
  case h2 => rfl
  case h3 => rfl
  case hs => exact ⟨rfl, .inl rfl, Is.mono hν i1, rfl, .inr rfl, Is.mono hν i2, rfl, .inl rfl, Is.mono hν i3, trivial⟩
  obtain ⟨q1, q2, q3, q4⟩ := hq
  have eow : K.ow = [((Str.ofString "white"), K.L + 1)] := hcl.trans rfl
  have ecl := q1.trans eow
  have kr := nat_ok hr hw
  have kg := nat_ok hg hw
  have kb := nat_ok hb hw
  have hp : ∀ i, i < 3 → ([r, g, b].getD i 0 + w).natAbs < 2 ^ 1023 := fun i hi => by
    rcases i with _ | _ | _ | i
    · exact kr.2.2
    · exact kg.2.2
    · exact kb.2.2
    · exact absurd hi (by lia)
  refine tri_asgComp (cl := [((Str.ofString "white"), K.L + 1)]) (σ0 := [((Str.ofString "white"), .i w)]) (σt := fun i => [((Str.ofString "part"), .i ([r, g, b].getD i 0)), ((Str.ofString "white"), .i w)]) (b := fun _ => true) (out := fun i => (.f (Float64.ofFrac (decide ([r, g, b].getD i 0 + w < 0) != decide ((16 : Int) < 0)) ([r, g, b].getD i 0 + w).natAbs (16 : Int).natAbs) true)) (sv := .l (.p (.f (q16 (r + w).toNat) true) (.p (.f (q16 (g + w).toNat) true) (.p (.f (q16 (b + w).toNat) true) .nl)))) G (src_tup (ev_of G .nil) rfl trivial) (Nat.le_of_ble_eq_true rfl) (cells_in ⟨⟨rfl, rfl, rfl, K.L + 1, by rw [eow]; rfl, rfl⟩, trivial⟩) (fun i hi => .name rfl ?_) (fun ν1 h i hi => ifs_nil) (fun ν1 h i hi _ => elt_ev G.env rfl .nil rfl ⟨hp i hi, by decide, trivial⟩) (is_eq ?_) (fun ν' hS => ?_) (by unfold PC.env; rw [ecl]; rfl)
  · rcases i with _ | _ | _ | i
    · rfl
    · rfl
    · rfl
    · exact absurd hi (by show ¬ i + 3 < 3; lia)
  · show SV.l (.p (.f (Float64.ofFrac (decide (r + w < 0) != decide ((16 : Int) < 0)) (r + w).natAbs (16 : Int).natAbs) true) (.p (.f (Float64.ofFrac (decide (g + w < 0) != decide ((16 : Int) < 0)) (g + w).natAbs (16 : Int).natAbs) true) (.p (.f (Float64.ofFrac (decide (b + w < 0) != decide ((16 : Int) < 0)) (b + w).natAbs (16 : Int).natAbs) true) .nl))) = _
    rw [fr16 kr.1, fr16 kg.1, fr16 kb.1]
  obtain ⟨p, ν2, ⟨ν1, hν1, hsub⟩, rfl⟩ := hS
  subst hν1
  have z := fun h => q_zs kr.2.1 kg.2.1 kb.2.1 h
  refine tri_if G .nil rfl trivial (fun h => ?_) fun h => tri_next ?_
  · have e : readF r g b w lg = hlsOf (q16 (r + w).toNat) (q16 (g + w).toNat) (q16 (b + w).toNat) := if_pos (of_decide_eq_true ((decide_eq_true_iff).mpr (bne_iff_ne.mp h)))
    exact tri_retNew (n := ν1) G .nil at_hls is_hls (by decide : 1 ≤ 2) rfl trivial (e ▸ rgbhls_spec' _ _ _ (fun h => (z h).2.2.1) (fun h => (z h).2.1) fun h => (z h).2.2.2) fun _ h => .tail _ (hsub _ h)
  · have e : readF r g b w lg = hsvOf (q16 (r + w).toNat) (q16 (g + w).toNat) (q16 (b + w).toNat) := if_neg fun q => (bne_eq_false_iff_eq.mp h ▸ q) rfl
    exact tri_retNew (n := ν1) G .nil at_hsv is_hsv (by decide : 1 ≤ 2) rfl trivial (e ▸ rgbhsv_spec' _ _ _ (fun h => (z h).1) fun h => (z h).2.1) fun _ h => .tail _ (hsub _ h)
noncomputable abbrev c16 : UInt64 := Float64.ofInt (16 * 10 ^ Int.toNat 6)
noncomputable def rnd (x : UInt64) : Int := Flt.toInt Float64.nearestOf (Float64.mul c16 x)
noncomputable def paintF (t0 t1 t2 turn : UInt64) (spin light : Int) : T3 :=
  if light ≠ 0 then hlsR (Float64.sub (Float64.add t0 turn) (Float64.ofInt spin)) t1 t2 else hsvR (Float64.add (Float64.add t0 turn) (Float64.ofInt spin)) t1 t2
theorem fin_of {x : UInt64} (h1 : Float64.isNaN x = false) (h2 : Float64.isInf x = false) : Float64.isFinite x = true := by
  rcases Flt.three x with ⟨_, c⟩ | ⟨_, _, c⟩ | ⟨_, _, _, _, c⟩
  · rw [h1] at c; cases c
  · rw [h2] at c; cases c
  · exact c
noncomputable def φround : SV → R2 := one1 fun a => (fOf a).bind fun k => some (.i (Flt.toInt Float64.nearestOf k), [Float64.isNaN k = false, Float64.isInf k = false])
theorem bi_round {K : PC} {sc : Scope} {lv : Nat} (G : PGood K sc lv) : BiOK K sc (.builtin "round") φround := by
  intro q ν s0 σ z s x us E Q hu hs
  refine one1_is hu fun a u e ha => .bind (fOf_is ha) fun k ⟨t, e2, _⟩ hc h => ?_
  subst e e2
  exact Flt.call_round_float G.han (fun h => by rw [hc.1] at h; cases h) (fun h => by rw [hc.2.1] at h; cases h) fun _ => h _ _ hs.tick.weak ⟨_, rfl⟩
theorem no_round : ∀ P, nsIn (hd.heap_39 P) mainGlobals (Str.ofString "round") = some none := fun _ => rfl
theorem bt_round : bootBuiltins (Str.ofString "round") = some (.builtin "round") := by decide +kernel
theorem at_hr : ∀ P, nsIn (hd.heap_39 P) mainGlobals (Str.ofString "hls_to_rgb") = some (some (.ref 123)) := fun P => by k_dflt k_is
theorem is_hr : FnIs 123 := fun P => ⟨_, _, _, _, by k_dflt k_is⟩
theorem at_vr : ∀ P, nsIn (hd.heap_39 P) mainGlobals (Str.ofString "hsv_to_rgb") = some (some (.ref 144)) := fun P => by k_dflt k_is
theorem is_vr : FnIs 144 := fun P => ⟨_, _, _, _, by k_dflt k_is⟩
theorem f_weak {ν : Lg} {x : UInt64} {z : Bool} {u : Value} (h : Is ν (.f x z) u) : Is ν (.f x false) u := h.imp fun _ h => ⟨h.1, nofun⟩
theorem p_map {ν : Lg} {a b x y : SV} {us : List Value} (f : ∀ {u}, Is ν a u → Is ν b u) (g : ∀ {us}, IsL ν x us → IsL ν y us) (h : IsL ν (.p a x) us) : IsL ν (.p b y) us := h.imp fun _ h => h.imp fun _ h => ⟨h.1, f h.2.1, g h.2.2⟩
theorem t_map {ν : Lg} {x y : SV} {u : Value} (g : ∀ {us}, IsL ν x us → IsL ν y us) (h : Is ν (.t x) u) : Is ν (.t y) u := h.imp fun _ h => h.imp fun _ h => ⟨h.1, h.2.1, g h.2.2⟩
theorem Fn.fl {f : Addr} {lv : Nat} {a b c : UInt64} {z1 z2 z3 : Bool} {Rc : Lg → Lg → Value → Prop} (C : Fn f lv (.p (.f a false) (.p (.f b false) (.p (.f c false) .nl))) Rc) : Fn f lv (.p (.f a z1) (.p (.f b z2) (.p (.f c z3) .nl))) Rc := fun ν us h => C ν us (p_map f_weak (p_map f_weak (p_map f_weak id)) h)
theorem painted_spec' (t0 t1 t2 turn : UInt64) (spin light : Int) (hs : 0 ≤ spin ∧ spin ≤ 2)
    (hn : Float64.isNaN (Float64.mul (Float64.add (Float64.add t0 turn) (Float64.ofInt spin)) f6) = false) (hi : Float64.isInf (Float64.mul (Float64.add (Float64.add t0 turn) (Float64.ofInt spin)) f6) = false) (ho : (hsvI (Float64.add (Float64.add t0 turn) (Float64.ofInt spin))).natAbs < 2 ^ 1024 - 2 ^ 970)
    (hp : ∀ x ∈ [(paintF t0 t1 t2 turn spin light).1, (paintF t0 t1 t2 turn spin light).2.1, (paintF t0 t1 t2 turn spin light).2.2], Float64.isNaN (Float64.mul c16 x) = false ∧ Float64.isInf (Float64.mul c16 x) = false) :
    Fn 190 4 (.p (.t (c3 (t0, t1, t2) false)) (.p (.f turn false) (i2c spin light))) (New (.li [rnd (paintF t0 t1 t2 turn spin light).1, rnd (paintF t0 t1 t2 turn spin light).2.1, rnd (paintF t0 t1 t2 turn spin light).2.2])) := by
  intro ν0 us hu
  refine IsL.e4 hu fun u1 u2 u3 u4 i1 i2 i3 i4 => ?_
  unfold MCk
  k_fill
  k_dflt refine' mc_tri (lv := 3) [((Str.ofString "told"), u1), ((Str.ofString "turn"), u2), ((Str.ofString "spin"), u3), ((Str.ofString "light"), u4)] [((Str.ofString "told"), (.t (c3 (t0, t1, t2) false))), ((Str.ofString "turn"), (.f turn false)), ((Str.ofString "spin"), (.i spin)), ((Str.ofString "light"), (.i light))] (fun P => ?ho) (fun P => ?hcd) (fun w s X => ?hb) ?hnd ?hkd ?hc0 ?h1 ?h2 ?h3 (fun ν hν => ?hs) (fun K ν s9 G hν lt hfz hcl hq => ?body)
  case ho => k_dflt k_is
  case hcd => k_dflt k_is
  case hb => exact BindsTo.of_eq rfl
  case hnd => exact (by decide : (["told", "turn", "spin", "light"].map Str.ofString).Nodup)
  case hkd => rfl
  case hc0 => exact List.nodup_nil
  case h1 => rfl
  case h2 => rfl
  case h3 => rfl
  case hs => exact ⟨rfl, .inl rfl, Is.mono hν i1, rfl, .inl rfl, Is.mono hν i2, rfl, .inl rfl, Is.mono hν i3, rfl, .inl rfl, Is.mono hν i4, trivial⟩
  obtain ⟨q1, q2, q3, q4⟩ := hq
  have hsm : spin.natAbs < 2 ^ 1024 - 2 ^ 970 := Nat.lt_of_le_of_lt (show spin.natAbs ≤ 2 by lia) (by decide)
  refine tri_meetX (fun σ' ν' => (∀ p ∈ ν, p ∈ ν') ∧ σ' = [((Str.ofString "parts"), .t (c3 (paintF t0 t1 t2 turn spin light) false))]) (fun R' k => tri_if G .nil rfl trivial (fun h => ?_) fun h => ?_) fun σ' ν' T => ?_
  · have e : paintF t0 t1 t2 turn spin light = _ := if_pos (bne_iff_ne.mp h)
    exact tri_asgX G (ex_call G .nil at_hr is_hr (by decide : 2 ≤ 3) rfl ⟨hsm, trivial⟩ (e ▸ Fn.fl (hls_spec' _ _ _)) gives_new) fun ν1 h1 => tri_next (tri_mono (k _ _ ⟨h1, rfl⟩) (fun h => nomatch h) (fun _ h => h) (sub_of (AllSub.get ⟨rfl, trivial⟩)))
  · have e : paintF t0 t1 t2 turn spin light = _ := if_neg fun q => (bne_eq_false_iff_eq.mp h ▸ q) rfl
    exact tri_asgX G (ex_call G .nil at_vr is_vr (by decide : 1 ≤ 3) rfl ⟨hsm, trivial⟩ (e ▸ Fn.fl (hsv_spec' _ _ _ (fin_of hn hi) ho)) gives_new) fun ν1 h1 => tri_next (tri_mono (k _ _ ⟨h1, rfl⟩) (fun h => nomatch h) (fun _ h => h) (sub_of (AllSub.get ⟨rfl, trivial⟩)))
  obtain ⟨h1, rfl⟩ := T
  generalize paintF t0 t1 t2 turn spin light = T at *
  refine tri_retComp (ν0 := ν) (sv := .li [rnd T.1, rnd T.2.1, rnd T.2.2]) (cl := []) (σ0 := []) (σt := fun i => [((Str.ofString "part"), .f ([T.1, T.2.1, T.2.2].getD i 0) false)]) (b := fun _ => true) (out := fun i => .i (rnd ([T.1, T.2.1, T.2.2].getD i 0))) G (src_tup (ev_of G .nil) rfl trivial) (Nat.le_of_ble_eq_true rfl) (cells_in trivial) (fun i hi => .name rfl ?_) (fun ν1 h i hi => ifs_nil) (fun ν1 h i hi _ => elt_ev G.env rfl (.cons (fun C ν At V => cal_biV (G.env.comp rfl) V G (bi_round G) bt_round (.inl ⟨_, rfl⟩) no_round (by decide) rfl) .nil) rfl ?_) (fun ν' us k D hu => ⟨D, us, k, rfl, .head _, chain_li (l := [rnd T.1, rnd T.2.1, rnd T.2.2]) hu⟩) (fun ν1 e => e ▸ h1) (by unfold PC.env; rfl)
  · rcases i with _ | _ | _ | i
    · rfl
    · rfl
    · rfl
    · exact absurd hi (by show ¬ i + 3 < 3; lia)
  · refine ⟨by decide, by decide, mul_l (by decide), by decide, ?_, ?_, trivial⟩
    all_goals
      rcases i with _ | _ | _ | i
      · first | exact (hp _ (.head _)).1 | exact (hp _ (.head _)).2
      · first | exact (hp _ (.tail _ (.head _))).1 | exact (hp _ (.tail _ (.head _))).2
      · first | exact (hp _ (.tail _ (.tail _ (.head _)))).1 | exact (hp _ (.tail _ (.tail _ (.head _)))).2
      · exact absurd hi (by show ¬ i + 3 < 3; lia)
end Mine
end
noncomputable section
open PySem PySem.W PyProof.Rows PySem.Spec PySem.Calls
namespace Mine
set_option genInjectivity false
set_option genSizeOf false
noncomputable def lawT : Arguments × List Stmt × Scope := (PySem.Challenge.rw_uk0013_01.row.prog.theDef (Str.ofString "law")).getD (⟨[], [], none, [], [], none, []⟩, [], { kind := .function, names := [], isGenerator := false, isCoroutine := false })
noncomputable abbrev lawB (i : Nat) : List Stmt := lawT.2.1.drop i
noncomputable abbrev lawSc : Scope := { kind := .function, names := [((Str.ofString "script"), .cell), ((Str.ofString "k"), .local), ((Str.ofString "sums"), .local), ((Str.ofString "n"), .local), ((Str.ofString "draw"), .local), ((Str.ofString "top"), .cell), ((Str.ofString "width"), .local), ((Str.ofString "marks"), .cell), ((Str.ofString "whole"), .local), ((Str.ofString "counts"), .local), ((Str.ofString "white"), .cell), ((Str.ofString "light"), .local), ((Str.ofString "late"), .local), ((Str.ofString "spin"), .local), ((Str.ofString "found"), .local), ((Str.ofString "row"), .local), ((Str.ofString "b"), .local), ((Str.ofString "g"), .local), ((Str.ofString "rest"), .local), ((Str.ofString "r"), .local), ((Str.ofString "colour"), .local), ((Str.ofString "told"), .local), ((Str.ofString "places"), .local), ((Str.ofString "low"), .local), ((Str.ofString "high"), .local), ((Str.ofString "mark"), .cell), ((Str.ofString "corner"), .local), ((Str.ofString "hue"), .local), ((Str.ofString "place"), .local), ((Str.ofString "less"), .local), ((Str.ofString "upto"), .local), ((Str.ofString "classes"), .local), ((Str.ofString "greys"), .local), ((Str.ofString "due"), .local), ((Str.ofString "again"), .local), ((Str.ofString "enumerate"), .globalImplicit), ((Str.ofString "_law_marks"), .globalImplicit), ((Str.ofString "chr"), .globalImplicit), ((Str.ofString "_digits2int"), .globalImplicit), ((Str.ofString "range"), .globalImplicit), ((Str.ofString "_law_divided"), .globalImplicit), ((Str.ofString "_int2digits"), .globalImplicit), ((Str.ofString "bisect_left"), .globalImplicit), ((Str.ofString "min"), .globalImplicit), ((Str.ofString "_law_read"), .globalImplicit), ((Str.ofString "insort_right"), .globalImplicit), ((Str.ofString "insort_left"), .globalImplicit), ((Str.ofString "sorted"), .globalImplicit), ((Str.ofString "_law_place"), .globalImplicit), ((Str.ofString "len"), .globalImplicit), ((Str.ofString "max"), .globalImplicit), ((Str.ofString "bisect_right"), .globalImplicit), ((Str.ofString "_law_forms"), .globalImplicit), ((Str.ofString "int"), .globalImplicit), ((Str.ofString "_law_painted"), .globalImplicit), ((Str.ofString "round"), .globalImplicit)], isGenerator := false, isCoroutine := false, more := [((Str.ofString "fast"), .str (Str.ofString "script")), ((Str.ofString "fast"), .str (Str.ofString "k")), ((Str.ofString "fast"), .str (Str.ofString "first")), ((Str.ofString "fast"), .str (Str.ofString "x")), ((Str.ofString "fast"), .str (Str.ofString "sums")), ((Str.ofString "fast"), .str (Str.ofString "n")), ((Str.ofString "fast"), .str (Str.ofString "draw")), ((Str.ofString "fast"), .str (Str.ofString "top")), ((Str.ofString "fast"), .str (Str.ofString "width")), ((Str.ofString "fast"), .str (Str.ofString "marks")), ((Str.ofString "fast"), .str (Str.ofString "j")), ((Str.ofString "fast"), .str (Str.ofString "whole")), ((Str.ofString "fast"), .str (Str.ofString "counts")), ((Str.ofString "fast"), .str (Str.ofString "white")), ((Str.ofString "fast"), .str (Str.ofString "light")), ((Str.ofString "fast"), .str (Str.ofString "late")), ((Str.ofString "fast"), .str (Str.ofString "spin")), ((Str.ofString "fast"), .str (Str.ofString "found")), ((Str.ofString "fast"), .str (Str.ofString "row")), ((Str.ofString "fast"), .str (Str.ofString "b")), ((Str.ofString "fast"), .str (Str.ofString "g")), ((Str.ofString "fast"), .str (Str.ofString "rest")), ((Str.ofString "fast"), .str (Str.ofString "r")), ((Str.ofString "fast"), .str (Str.ofString "colour")), ((Str.ofString "fast"), .str (Str.ofString "told")), ((Str.ofString "fast"), .str (Str.ofString "one")), ((Str.ofString "fast"), .str (Str.ofString "places")), ((Str.ofString "fast"), .str (Str.ofString "low")), ((Str.ofString "fast"), .str (Str.ofString "high")), ((Str.ofString "fast"), .str (Str.ofString "mark")), ((Str.ofString "fast"), .str (Str.ofString "corner")), ((Str.ofString "fast"), .str (Str.ofString "hue")), ((Str.ofString "fast"), .str (Str.ofString "place")), ((Str.ofString "fast"), .str (Str.ofString "less")), ((Str.ofString "fast"), .str (Str.ofString "upto")), ((Str.ofString "fast"), .str (Str.ofString "classes")), ((Str.ofString "fast"), .str (Str.ofString "greys")), ((Str.ofString "fast"), .str (Str.ofString "due")), ((Str.ofString "fast"), .str (Str.ofString "again")), ((Str.ofString "fast"), .str (Str.ofString "part"))] }
/-- the law's own frame -/
structure LawK (K : PC) : Prop where
  ow : K.ow = cellsFrom (K.L + 1) lawSc.names []
  cl : K.cl = K.ow
  cn : K.cn = Str.ofString "law"
  ccd : K.ccd = .ref 208
  cd : CodeHd K.g 208 206
  top : ∃ (p : Program) (loose : List Str) (mean : ExcName → Option Value) (mg mb : Str → Option Value) (dp un : Nat) (gd : Option (List Code)) (A₀ : Around), K.A = ktrTop dp un gd K.cn lawSc K.L K.a K.ccd K.cl [] ∧ Below A₀ K.g [] K.g ∧ (hd.heap_39 K.w.params).In K.g ∧ Top p loose mean mg mb K.g ∧ dp + 10 * 20 < recursionLimit ∧ un + 100 * 20 < cLine
theorem LawK.frs {K : PC} {X : Lg} (H : LawK K) : LawK (K.frs X) := ⟨H.ow, H.cl, H.cn, H.ccd, H.cd, H.top⟩
theorem LawK.own {K : PC} (H : LawK K) : Own K lawSc := own_cells H.ow
theorem LawK.cells {K : PC} (H : LawK K) : K.ow = [((Str.ofString "mark"), K.L + 1 + 1 + 1 + 1 + 1), ((Str.ofString "white"), K.L + 1 + 1 + 1 + 1), ((Str.ofString "marks"), K.L + 1 + 1 + 1), ((Str.ofString "top"), K.L + 1 + 1), ((Str.ofString "script"), K.L + 1)] := H.ow.trans rfl
section
variable {K : PC} {lv : Nat} {s0 : Shared} {σ : Sg} {ν : Lg} {R : Flow → Shared → Prop}
/-- a slice of a list of the base -/
theorem exE_sliceG {w : Str} {env : Env} {sc : Scope} {σe : Sg} {Φ : Ora} {z z1 z2 z3 : Bool} {f g k : Option Expr} {c1 c2 c3 : List Prop} {np sp p : Pos} {q : Addr} {us : List Value} {ns : List Int} {lo hi st : Option Int} (V : EV K.w K.A env ν (PAt K sc ν s0 σ) σe Φ) (hl : σe.lookup w = some (.v (.ref q))) (hg : K.g.IsList q us.toArray) (hI : IntsAre us ns) (hz : us.length ≤ 1000) (h1 : partS Φ σe z f = some (lo, z1, c1)) (hc1 : All c1) (h2 : partS Φ σe z1 g = some (hi, z2, c2)) (hc2 : All c2) (h3 : partS Φ σe z2 k = some (st, z3, c3)) (hc3 : All c3) (h0 : st ≠ some 0)
    (hss : ∀ l n : Addr, ∃ ops, subscripted (.Slice f g k sp) false (.ref l) (.ref n) = operate ops (getItem (.ref l) (.ref n))) : ExE K sc env s0 z σ ν (.Subscript (.Name w np) (.Slice f g k sp) p) (.li (pickNums ns lo hi st)) (Ext ν) := fun s E Q hs h =>
  Subscript_ (V.loc hl rfl hs fun u hu => wpAny_Slice (part_ok V h1 hc1 hs fun v1 s1 hs1 p1 => part_ok V h2 hc2 hs1 fun v2 s2 hs2 p2 => part_ok V h3 hc3 hs2 fun v3 s3 hs3 p3 => by
    refine PAt.el hs3 fun m cm κ D => ?_
    obtain ⟨ops, hs⟩ := hss q s3.heap.objs.size
    obtain ⟨o, e, a, k, b⟩ := hg
    cases (show u = .ref q from hu)
    refine kmk_slice3_lit (its := us.toArray) (zs := (slicePick us.toArray lo hi st).toList) D.F D.N ⟨o, D.F.keep _ _ e, a, k, b⟩ p1 p2 p3 h0 rfl (fun q2 h' F' N' lt => ?_) hs (fun _ => rfl) (by rw [List.size_toArray]; exact Nat.le_trans hz (Nat.le_of_ble_eq_true rfl))
    refine h _ ((q2, listO _ 0) :: ν) _ ⟨m, cm, κ, D.heap s3.toks F' N' (fun p hp => ?_) fun sv u => Is.mono fun _ => .tail _⟩ .one ⟨q2, _, 0, rfl, .head _, .of (hI.pick _ _ _)⟩
    rcases List.mem_cons.mp hp with rfl | hp
    · exact fun hq => by
        obtain ⟨o, ho⟩ := D.hidden hq
        exact Nat.lt_irrefl _ (lt _ (List.mem_append_right _ ho))
    · exact D.O p hp))
theorem ex_sv {env : Env} {z : Bool} {e : Expr} {sv sv' : SV} {S : Lg → Prop} (X : ExE K lawSc env s0 z σ ν e sv S) (h : ∀ ν' u, Is ν' sv u → Is ν' sv' u) : ExE K lawSc env s0 z σ ν e sv' S := fun s E Q hs hq => X s E Q hs fun u ν' s' hs' hS hu => hq u ν' s' hs' hS (h ν' u hu)
end
/-- the first four sums -/
noncomputable def sumX (ns : List Int) (i : Nat) : Int := [21, 5, 2, 4].getD i 0 + ((List.range (pickNums ns (some (i : Int)) none (some 4)).length).map fun j => ((pickNums ns (some (i : Int)) none (some 4)).getD j 0).fmod (10 ^ 6)).sum
theorem at_173 : ∀ P, nsIn (hd.heap_39 P) mainGlobals (Str.ofString "_law_marks") = some (some (.ref 173)) := fun P => by k_dflt k_is
theorem is_173 : FnIs 173 := fun P => ⟨_, _, _, _, by k_dflt k_is⟩
theorem fmod_n (x : Int) (k : Nat) (h : 0 < k) : ∃ n : Nat, x.fmod (k : Int) = (n : Int) ∧ n < k := by
  rw [Int.fmod_eq_emod_of_nonneg _ (Int.natCast_nonneg k)]
  have h1 := Int.emod_nonneg x (Int.natCast_ne_zero.mpr (Nat.ne_of_gt h))
  have h2 := Int.emod_lt_of_pos x (Int.natCast_pos.mpr h)
  exact ⟨_, (Int.toNat_of_nonneg h1).symm, Int.ofNat_lt.mp ((Int.toNat_of_nonneg h1).symm ▸ h2)⟩
theorem pick_len {ns : List Int} {lo hi st : Option Int} (h : ns.length ≤ 63) : (pickNums ns lo hi st).length ≤ 1000 := by
  have hv : ∀ l : List Int, IntsAre (l.map fun i => Value.int i 0) l := fun l => by
    induction l with
    | nil => exact .nil
    | cons a l ih => exact .cons a 0 ih
  have e := ((hv ns).pick lo hi st).length
  rw [← e, Array.length_toList]
  exact Nat.le_trans (slicePick_size_le _ _ _ _) (by rw [List.size_toArray, List.length_map]; exact Nat.le_trans h (by decide))
section
variable {K : PC} {lv : Nat} {s0 : Shared} {σ : Sg} {ν : Lg} {R : Flow → Shared → Prop}
theorem law_A {ns : List Int} {q : Addr} {us : List Value} (H : LawK K) (G : PGood K lawSc 20) (ht : LT ν) (hgl : K.g.IsList q us.toArray) (hI : IntsAre us ns) (hn : ns.length ≤ 63) (hσ : σ = [((Str.ofString "script"), .v (.ref q))])
    (h : ∀ (n wd hf : Nat) (x0 x1 x2 x3 : Int) ν', n < 36 → hf = n / 2 + 1 → 8 ≤ wd → wd * hf ≤ 3000 → LT ν' → Tri K lawSc s0 false [((Str.ofString "marks"), .li TRI), ((Str.ofString "width"), .i (wd : Nat)), ((Str.ofString "top"), .i (2 * hf : Nat)), ((Str.ofString "n"), .i (n : Nat)), ((Str.ofString "draw"), .i x3), ((Str.ofString "sums"), .li [x0, x1, x2, x3])] ν' (lawB 5) R) : Tri K lawSc s0 false σ ν (lawB 0) R := by
  have hk : PySem.Challenge.rw_uk0013_01 = PySem.Challenge.rw_uk0013_01 := rfl
  revert hk
  k_fill
  intro _
  show Tri _ _ _ _ _ _ (_ :: _ :: _ :: _ :: _ :: lawB 5) _
  subst hσ
  have ecl := H.cl.trans H.cells
  refine tri_asgComp (y := (Str.ofString "sums")) (σ0 := [((Str.ofString "script"), .v (.ref q))]) (σt := fun i => ((Str.ofString "first"), .i ([21, 5, 2, 4].getD i 0)) :: ((Str.ofString "k"), .i (i : Nat)) :: [((Str.ofString "script"), .v (.ref q))]) (b := fun _ => true) (out := fun i => .i (sumX ns i)) (cl := [((Str.ofString "script"), K.L + 1)]) (sv := .li ((List.range 4).map (sumX ns))) G (src_enum G.env G.han G (ex_sv (sv' := .li [21, 5, 2, 4]) (ex_list (exl_ev G .nil rfl trivial) (Nat.le_of_ble_eq_true rfl)) fun ν' u ⟨q, us, k, e, hm, hu⟩ => ⟨q, us, k, e, hm, chain_li (l := [21, 5, 2, 4]) hu⟩) rfl) (Nat.le_of_ble_eq_true rfl) (cells_in ⟨⟨rfl, rfl, rfl, _, by rw [H.cells]; rfl, rfl⟩, trivial⟩) (fun i hi => .inr ⟨_, _, _, _, rfl, rfl, rfl⟩) (fun ν1 h i hi => ifs_nil) (fun ν1 h1 i hi _ => ?el) (fun ν' u hu => outs_li hu) (fun ν1 hS => ?_) (by unfold PC.env; rw [ecl]; rfl)
  case el =>
    intro C oC mC X s E Q G1 h1 h2 hs hq
    refine exE_binR G1 (ev_c G.env rfl G1 h1 h2 .nil) (by rfl) (by trivial) (exE_bi (G.env.comp rfl) G1 (bi_sum G1) bt_sum (.inl ⟨_, rfl⟩) no_sum (by decide) (comp_ex (K := K.frs ((C, oC) :: X)) (scope := { kind := .function, names := [(Str.ofString ".0", .local), (Str.ofString "x", .local)], isGenerator := false, isCoroutine := false }) (cl := []) (σ0 := []) (b := fun _ => true) (n := (pickNums ns (some (i : Int)) none (some 4)).length) (out := fun j => .i (((pickNums ns (some (i : Int)) none (some 4)).getD j 0).fmod (10 ^ 6))) (σt := fun j => [((Str.ofString "x"), .i ((pickNums ns (some (i : Int)) none (some 4)).getD j 0))]) (G.env.comp rfl) G1 (src_list G1.han (exE_sliceG (ev_c G.env rfl G1 h1 h2 .nil) (by rfl) hgl hI (hI.length ▸ Nat.le_trans hn (by decide)) (by rfl) (by trivial) (by rfl) (by trivial) (by rfl) (by trivial) (by decide) (fun l n => ⟨_, rfl⟩)) rfl (.inl ⟨_, _, rfl⟩)) (pick_len hn) (cells_in trivial) (fun j hj => .name rfl rfl) (fun ν1 h j hj => ifs_nil) (fun ν1 h j hj _ => elt_ev (G.env.comp rfl) rfl .nil rfl ?el2) (fun ν' u hu => outs_li hu) rfl) rfl trivial) (fun _ _ _ h => (flat_is (x := .i _) rfl).1 _ h) (by rfl) (by trivial) s E Q hs fun u ν' s' hs' S1 hu => hq u ν' s' ?sub hs' hu
    case el2 => exact ⟨by decide, by decide, by decide, trivial⟩
    case sub =>
      obtain ⟨p, ν3, ⟨ν4, e4, h4⟩, rfl⟩ := S1
      exact fun p hp => .tail _ (h4 p (e4.sub p hp))
  have ht : LT ν1 := by
    obtain ⟨p, ν3, ⟨ν4, e4, h4⟩, rfl⟩ := hS
    exact ht.mono fun p hp => .tail _ (h4 p (e4.sub p hp))
  clear hS
  show Tri K lawSc s0 false [(Str.ofString "sums", SV.li [sumX ns 0, sumX ns 1, sumX ns 2, sumX ns 3]), (Str.ofString "script", SV.v (.ref q))] ν1 _ _
  generalize sumX ns 0 = x0
  generalize sumX ns 1 = x1
  generalize sumX ns 2 = x2
  generalize sumX ns 3 = x3
  have i4 : ∀ k : Nat, Nat.ble (k + 1) 4 = true → (0 : Int) ≤ k ∧ (k : Int).toNat < [x0, x1, x2, x3].length ∧ [x0, x1, x2, x3].length ≤ 1048576 := fun k h => ⟨Int.natCast_nonneg k, Nat.le_of_ble_eq_true h, Nat.le_of_ble_eq_true rfl⟩
  obtain ⟨n, hn, hn36⟩ := fmod_n x0 36 (by decide)
  refine tri_swap2 G .nil rfl ⟨i4 0 rfl, by decide, i4 3 rfl, trivial⟩ (tri_val2 (congrArg SV.i hn) rfl ?_)
  refine tri_asgO G H.own (ex_ev G .nil rfl ⟨by decide, by decide, mul_l (by decide), trivial⟩) fun ν2 e => tri_val (sv' := .i ((2 * (n / 2 + 1) : Nat) : Int)) (congrArg (fun t : Int => SV.i (2 * (t + 1))) (dm_n n 2).1) ?_
  subst e
  obtain ⟨hf, hhf⟩ : ∃ hf : Nat, hf = n / 2 + 1 := ⟨_, rfl⟩
  rw [← hhf]
  have hf0 : 0 < 2 * hf := hhf ▸ Nat.mul_pos (by decide) (Nat.succ_pos _)
  have hf36 : 2 * hf ≤ 36 := by lia
  obtain ⟨w5, hw5, hw51, hw52⟩ : ∃ w5 : Nat, (5000 : Int).fdiv ((2 * hf : Nat) : Int) = (w5 : Int) ∧ 0 < w5 ∧ w5 * (2 * hf) ≤ 5000 := ⟨5000 / (2 * hf), (dm_n 5000 (2 * hf)).1, Nat.div_pos (Nat.le_trans hf36 (by decide)) hf0, Nat.div_mul_le_self _ _⟩
  obtain ⟨wr, hwr, hwr5⟩ := fmod_n x1 w5 hw51
  refine tri_asg G .nil rfl ⟨i4 1 rfl, Int.natCast_ne_zero.mpr (Nat.ne_of_gt hf0), (show ((2 * hf : Nat) : Int).natAbs < 1073741824 from Nat.lt_of_le_of_lt hf36 (by decide)), (show (5000 : Int).fdiv ((2 * hf : Nat) : Int) ≠ 0 by rw [hw5]; exact Int.natCast_ne_zero.mpr (Nat.ne_of_gt hw51)), trivial⟩ (tri_val (sv' := .i ((8 + wr : Nat) : Int)) (congrArg (fun t : Int => SV.i (8 + t)) ((congrArg x1.fmod hw5).trans hwr)) ?_)
  obtain ⟨cc, hcc, hcc2⟩ := fmod_n (x2.fdiv 3) 50000 (by decide)
  obtain ⟨kd, hkd, hkd3⟩ := fmod_n x2 3 (by decide)
  replace hcc : (x2.fdiv 3).fmod 50000 = (cc : Int) := hcc
  replace hkd : x2.fmod 3 = (kd : Int) := hkd
  refine tri_one fun one => ?_
  have O : OraOK K lawSc ν2 [((Str.ofString "chr"), fun _ => φchr)] := .cons (cal_bi G (bi_chr G) bt_chr (.inl ⟨_, rfl⟩) rfl no_chr (by decide)) .nil
  refine tri_asgO G H.own (ex_call G O at_173 is_173 (by decide) rfl ?c3 (show Fn 173 5 (.p (.s (⟨#[(47 + (x2.fdiv 3).fmod 50000).toNat]⟩ ++ Str.ofString ".")) (.p (.i (x2.fmod 3)) .nl)) _ from (by rw [hcc, hkd, show (47 + (cc : Int)).toNat = 47 + cc from rfl, dot_st]; exact marks_spec' (47 + cc) kd (Nat.le_add_right _ _) hkd3)) (gives_newG _)) fun ν3 g3 => ?_
  case c3 => exact ⟨i4 2 rfl, by decide, by decide, by decide, show 0 ≤ 47 + (x2.fdiv 3).fmod 50000 by rw [hcc]; lia, show 47 + (x2.fdiv 3).fmod 50000 ≤ 65000 by rw [hcc]; lia, by rw [dot_st]; exact Nat.le_of_ble_eq_true rfl, i4 2 rfl, by decide, trivial⟩
  refine tri_mono (σ' := [((Str.ofString "marks"), .li TRI), ((Str.ofString "width"), .i (8 + wr : Nat)), ((Str.ofString "top"), .i (2 * hf : Nat)), ((Str.ofString "n"), .i (n : Nat)), ((Str.ofString "draw"), .i x3), ((Str.ofString "sums"), .li [x0, x1, x2, x3])]) (ν' := ν3) (z' := false) (h n (8 + wr) hf x0 x1 x2 x3 ν3 hn36 hhf (Nat.le_add_right 8 wr) ?c4 (ht.grw one g3)) (fun h => nomatch h) (fun _ h => h) (sub_of (AllSub.get (.of rfl)))
  have h1 : wr * (2 * hf) ≤ w5 * (2 * hf) := Nat.mul_le_mul_right _ (Nat.le_of_lt hwr5)
  rw [Nat.add_mul]
  rw [Nat.mul_left_comm] at h1
  lia
end
end Mine
end
noncomputable section
open PySem PySem.W PyProof.Rows PySem.Spec PySem.Calls
namespace Mine
set_option genInjectivity false
set_option genSizeOf false
section
variable {K : PC} {lv : Nat} {s0 : Shared} {σ : Sg} {ν : Lg} {R : Flow → Shared → Prop}
/-- a def that may catch, called by the law itself -/
theorem ex_callZ {z z' : Bool} {Φ : Ora} {x sv : SV} {c : List Prop} {es : List Expr} {p pos : Pos} (G : PGood K lawSc 20) (H : LawK K) (O : OraOK K lawSc ν Φ) (t : Tabs ν) {f : Str} {fa : Addr} {lv' : Nat} (ha : ∀ P, nsIn (hd.heap_39 P) mainGlobals f = some (some (.ref fa))) (hfn : FnIs fa) (hlv : lv' ≤ 20)
    (he : evl Φ σ z es = some (x, z', c)) (hc : All c) (C : ∀ ν0 us, IsL ν0 x us → MCz fa lv' us [] (fun n => (∀ p ∈ ν0, p ∈ n) ∧ Tabs n) (GrB sv)) (hf : isGlo lawSc f = true := by rfl) (hok : okArgs es = true := by rfl) : Ex K lawSc s0 z σ ν (.Call (.Name f p) es [] pos) sv (Grw ν) := fun s E Q hs h =>
  call_ref G.env (view_at ⟨G.nd, G.fcz⟩) G hf ha hfn hok hs (fun hq => el_ok (ev_of G O) ((Bool.and_eq_true _ _).mp hok).2 he hc hs fun us s1 hs1 hu => hq us _ s1 hs1 hu) fun us z s hs hu => by
    refine PAt.el hs fun m cm κ hs => ?_
    obtain ⟨p, loose, mean, mg, mb, dp, un, gd, A₀, eA, B, X, T, hd', hu'⟩ := H.top
    rw [eA]
    refine C ν us hu K.w p loose mean mg mb _ dp un gd K.cn lawSc K.a K.ccd K.cl A₀ K.g K.L m s _ _ B hs.F X hs.N T rfl ⟨fun _ => List.mem_append_left _, t.app _⟩ (Nat.lt_of_le_of_lt (Nat.add_le_add_left (Nat.mul_le_mul_left 10 hlv) _) hd') (Nat.lt_of_le_of_lt (Nat.add_le_add_left (Nat.mul_le_mul_left 100 hlv) _) hu') fun v n' h' tk' hr F' N' => ?_
    obtain ⟨ν', hin, h1, h2, h3⟩ := gives_grB t _ _ _ (fun p hp r hr e => hs.O p hp (e ▸ hs.hid_of hr)) (fun p hp r hr e => Option.some.inj ((hs.N p (List.mem_append_left _ hp)).1.symm.trans (e ▸ (hs.N r (List.mem_append_left _ hr)).1))) hr
    refine h v ν' _ ⟨m, cm, κ, hs.heap tk' F' (fun p hp => N' p (hin p hp)) (fun p hp => ?_) h1⟩ h3.1 h3.is
    rcases h2 p hp with ⟨r, hr, e⟩ | hp
    · exact e ▸ hs.O r hr
    · intro hq
      obtain ⟨o, ho⟩ := hs.hidden hq
      exact Nat.lt_irrefl _ (hp (p.1, o) (List.mem_append_right _ ho))
end
theorem wDs_len (top : Nat) : (wDs top).length = top + 1 := by rw [wDs, List.length_map, List.length_range]
theorem wDs_lt {w top : Nat} (hw : 8 ≤ w) : ∀ x ∈ wDs top, x < 2 ^ w := fun x hx => by
  have h : 1 < 2 ^ w := Nat.lt_of_lt_of_le (by decide) (Nat.pow_le_pow_right (n := 2) (by decide) hw)
  obtain ⟨j, _, rfl⟩ := List.mem_map.mp hx
  split
  · exact h
  · exact Nat.lt_trans (by decide) h
theorem w_list : ∀ hf : Nat, hf < 19 → ((List.range (2 * hf + 1)).map fun j : Nat => if TRI.contains (((2 * hf : Nat) : Int) - (0 + (j : Int))) = true then (1 : Int) else 0) = (wDs (2 * hf)).map fun x : Nat => (x : Int) := by decide +kernel
theorem bt_int : bootBuiltins (Str.ofString "int") = some (.type "int") := by decide +kernel
theorem wDs_last : ∀ hf : Nat, hf < 19 → (wDs (2 * hf)).getLast? = some 1 := by decide +kernel
theorem sgnL (x : Int) : (1 - x.fmod 2 * 2 = 1 ∨ 1 - x.fmod 2 * 2 = -1) ∧ (x.fmod 2).natAbs < 2 ^ 64 := by
  obtain ⟨k, hk, hk2⟩ := fmod_n x 2 (by decide)
  rw [show x.fmod 2 = (k : Int) from hk]
  lia
theorem rng37 : ∀ hf : Nat, hf < 19 → Builtin.Range.small 0 (((2 * hf : Nat) : Int) + 1) 1 = true ∧ Builtin.Range.rangeSize 0 (((2 * hf : Nat) : Int) + 1) 1 = ((2 * hf + 1 : Nat) : Int) := by decide +kernel
theorem at_180 : ∀ P, nsIn (hd.heap_39 P) mainGlobals (Str.ofString "_law_divided") = some (some (.ref 180)) := fun P => by k_dflt k_is
theorem is_180 : FnIs 180 := fun P => ⟨_, _, _, _, by k_dflt k_is⟩
section
variable {K : PC} {lv : Nat} {s0 : Shared} {σ : Sg} {ν : Lg} {R : Flow → Shared → Prop}
theorem law_B {n wd hf : Nat} {x0 x1 x2 x3 : Int} (H : LawK K) (G : PGood K lawSc 20) (ht : LT ν) (hn36 : n < 36) (hhf : hf = n / 2 + 1) (hw8 : 8 ≤ wd) (hwh : wd * hf ≤ 3000) (hσ : σ = [((Str.ofString "marks"), .li TRI), ((Str.ofString "width"), .i (wd : Nat)), ((Str.ofString "top"), .i (2 * hf : Nat)), ((Str.ofString "n"), .i (n : Nat)), ((Str.ofString "draw"), .i x3), ((Str.ofString "sums"), .li [x0, x1, x2, x3])])
    (h : ∀ (wh lg la sp : Nat) ν', wh < 9 → lg < 2 → la < 2 → sp < 3 → LT ν' → Tri K lawSc s0 false [((Str.ofString "spin"), .i (sp : Nat)), ((Str.ofString "late"), .i (la : Nat)), ((Str.ofString "light"), .i (lg : Nat)), ((Str.ofString "white"), .i (wh : Nat)), ((Str.ofString "counts"), .li ((eDs (2 * hf)).map fun x : Nat => (x : Int))), ((Str.ofString "marks"), .li TRI), ((Str.ofString "top"), .i (2 * hf : Nat)), ((Str.ofString "n"), .i (n : Nat)), ((Str.ofString "draw"), .i x3)] ν' (lawB 9) R) : Tri K lawSc s0 false σ ν (lawB 5) R := by
  have hk : PySem.Challenge.rw_uk0013_01 = PySem.Challenge.rw_uk0013_01 := rfl
  revert hk
  k_fill
  intro _
  show Tri _ _ _ _ _ _ (_ :: _ :: _ :: _ :: lawB 9) _
  subst hσ
  have ecl := H.cl.trans H.cells
  have hh18 : hf ≤ 18 := by lia
  have hwd : wd ≤ 3000 := Nat.le_trans (Nat.le_mul_of_pos_right wd (hhf ▸ Nat.succ_pos _)) hwh
  refine tri_asgO G H.own (ex_callBX G ht.1 at_95 is_95 (by decide) (exl_cons (ex_to (comp_ex (n := 2 * hf + 1) (σ0 := [((Str.ofString "top"), .i (2 * hf : Nat)), ((Str.ofString "marks"), .li TRI)]) (σt := fun j => ((Str.ofString "j"), .i (0 + (j : Int))) :: [((Str.ofString "top"), .i (2 * hf : Nat)), ((Str.ofString "marks"), .li TRI)]) (b := fun _ => true) (out := fun j => .i (if TRI.contains (((2 * hf : Nat) : Int) - (0 + (j : Int))) = true then 1 else 0)) (cl := [((Str.ofString "top"), K.L + 1 + 1), ((Str.ofString "marks"), K.L + 1 + 1 + 1)]) (sv := .li ((wDs (2 * hf)).map fun x : Nat => (x : Int))) G.env G (src_range G.env (ev_of G .nil) G (by rfl) (by trivial) (by rfl) (by exact (rng37 hf (Nat.lt_succ_of_le hh18)).1) (by exact (rng37 hf (Nat.lt_succ_of_le hh18)).2) (val := fun i => 0 + (i : Int)) (fun i => congrArg _ (Int.mul_one _))) ?z1 (cells_in ⟨⟨rfl, rfl, rfl, _, by rw [H.cells]; rfl, rfl⟩, ⟨rfl, rfl, rfl, _, by rw [H.cells]; rfl, rfl⟩, trivial⟩) (fun j hj => .name rfl rfl) (fun ν1 h j hj => ifs_nil) (fun ν1 h j hj _ => elt_ev G.env rfl (.cons (fun C ν At V => cal_biV (G.env.comp rfl) V G (bi_int G) bt_int (.inr ⟨_, rfl⟩) no_int (by decide) rfl) .nil) rfl ?el) (fun ν' u hu => w_list hf (Nat.lt_succ_of_le hh18) ▸ outs_li hu) ?cl) (fun ν' => SC.ext fun _ e => e ▸ .refl)) fun ν1 _ => exl_ev G .nil rfl trivial) fun ν us hu => dig2_spec' (wDs (2 * hf)) wd ?l1 ?l2 (wDs_lt hw8) hu) fun ν1 S1 => ?_
  case z1 => exact Nat.le_trans (Nat.succ_le_succ (Nat.mul_le_mul_left 2 hh18)) (by decide)
  case el => exact trivial
  case cl => unfold PC.env; rw [ecl]; rfl
  case l1 => rw [wDs_len]; exact Nat.le_trans (Nat.succ_le_succ (Nat.mul_le_mul_left 2 hh18)) (by decide)
  case l2 => exact Nat.le_trans hwd (by decide)
  have ht1 : LT ν1 := by
    obtain ⟨ν2, e, one, g⟩ := S1
    exact (ht.mono e).grw one g
  clear S1 ht
  obtain ⟨hq, hr⟩ := gauss_eq (w := wd) (hhf ▸ Nat.succ_pos _) hh18 hw8
  have hW0 : 0 < ofD wd (wDs (2 * hf)) := Nat.lt_of_lt_of_le (Nat.two_pow_pos _) (ofD_last (wDs_last hf (Nat.lt_succ_of_le hh18)))
  refine tri_one fun one1 => tri_ifE (SL := (· = ν1)) (SR := Grw) (t := false) (ex_ev G .nil rfl trivial) (fun ν2 e => e ▸ ex_callZ G H .nil ht1.1 at_180 is_180 (by decide) rfl ?c6 (divided_spec' n wd hf _ _ hhf (Nat.le_of_lt_succ hn36) hw8 hwh hr (hq ▸ hW0) ?s1 ?s2)) (fun _ _ _ _ _ h => (flat_is (x := .i _) rfl).1 _ h) (cmp_pure G ?c7) (fun h => nomatch h) fun _ ν2 ν3 e g => ?_
  case c6 => exact ⟨⟨by decide, Nat.le_of_ble_eq_true rfl, Nat.le_of_ble_eq_true rfl⟩, by decide, mul_l (sgnL x1).2, ⟨by decide, Nat.le_of_ble_eq_true rfl, Nat.le_of_ble_eq_true rfl⟩, by decide, by decide, by decide, mul_l (sgnL (x1.fdiv 2)).2, trivial⟩
  case s1 => exact (sgnL x1).1
  case s2 => exact (sgnL (x1.fdiv 2)).1
  case c7 => rw [hq]; exact congrArg some (bne_self_eq_false _)
  have ht3 := ht1.grw one1 (e ▸ g)
  clear g ht1
  obtain ⟨u1, u2, u3, u4, u5⟩ := cube_eq (w := wd) (hhf ▸ Nat.succ_pos _) hh18 hw8
  have hWl : ofD wd (wDs (2 * hf)) < 2 ^ (wd * (2 * hf + 1)) := by have := ofD_lt wd _ (wDs_lt (top := 2 * hf) hw8); rwa [wDs_len] at this
  have hk64 : 2 * hf + 1 ≤ 64 := Nat.le_trans (Nat.succ_le_succ (Nat.mul_le_mul_left 2 hh18)) (by decide)
  have C : FnB 88 9 (.p (.i ((((ofD wd (wDs (2 * hf)) : Nat) : Int) ^ (3 : Int).toNat).fdiv (2 ^ (2 * ((2 * hf : Nat) : Int) * (wd : Int)).toNat))) (.p (.i (wd : Nat)) .nl)) (.li ((eDs (2 * hf)).map fun x : Nat => (x : Int))) := by
    have e1 : (((ofD wd (wDs (2 * hf)) : Nat) : Int) ^ (3 : Int).toNat).fdiv (2 ^ (2 * ((2 * hf : Nat) : Int) * (wd : Int)).toNat) = ((ofD wd (eDs (2 * hf)) : Nat) : Int) := by
      rw [show ((ofD wd (wDs (2 * hf)) : Nat) : Int) ^ (3 : Int).toNat = ((ofD wd (wDs (2 * hf)) ^ 3 : Nat) : Int) from (Int.natCast_pow _ 3).symm, show 2 * ((2 * hf : Nat) : Int) * (wd : Int) = ((2 * (2 * hf) * wd : Nat) : Int) by rw [Int.natCast_mul, Int.natCast_mul]; rfl, rsh_n, u1]
    rw [e1]
    have := fun ν0 us => dig_spec' (ofD wd (eDs (2 * hf))) wd (2 * hf + 1) u4 (Nat.le_trans (by decide) hw8) (Nat.le_trans hwd (by decide)) u3 hk64 (ν0 := ν0) (us := us)
    rw [u5] at this
    exact this
  refine tri_next (tri_one fun one3 => tri_asgX G (ex_callB G .nil ht3.1 at_88 is_88 (by decide : 9 ≤ 20) rfl ?c8 C) fun ν4 g => ?_)
  case c8 => exact ⟨by decide, (pw_ok (n := 3) hWl (Nat.le_trans (Nat.mul_le_mul_right 3 (by rw [Nat.mul_add, Nat.mul_left_comm]; lia : wd * (2 * hf + 1) ≤ 9000)) (by decide))).2, mul_l (by decide), mul_l (Nat.lt_of_le_of_lt (show (2 * ((2 * hf : Nat) : Int)).natAbs ≤ 72 by lia) (by decide)), (show 2 * ((2 * hf : Nat) : Int) * (wd : Int) = ((2 * (2 * hf) * wd : Nat) : Int) by rw [Int.natCast_mul, Int.natCast_mul]; rfl) ▸ Int.natCast_nonneg _, trivial⟩
  have ht4 := ht3.grw one3 g
  clear g ht3 C
  obtain ⟨wh, hwh1, hwh2⟩ := fmod_n x3 9 (by decide)
  obtain ⟨lg, hlg1, hlg2⟩ := fmod_n (x3.fdiv 9) 2 (by decide)
  obtain ⟨la, hla1, hla2⟩ := fmod_n (x3.fdiv 18) 2 (by decide)
  obtain ⟨sp, hsp1, hsp2⟩ := fmod_n (x3.fdiv 36) 3 (by decide)
  refine tri_unpO G H.own (ex_tup (exl_ev G .nil rfl ?c9) (Nat.le_of_ble_eq_true rfl)) rfl fun ν5 S5 => ?_
  case c9 => exact ⟨by decide, by decide, by decide, by decide, by decide, by decide, by decide, by decide, by decide, by decide, trivial⟩
  replace hwh1 : x3.fmod 9 = (wh : Int) := hwh1
  replace hlg1 : (x3.fdiv 9).fmod 2 = (lg : Int) := hlg1
  replace hla1 : (x3.fdiv 18).fmod 2 = (la : Int) := hla1
  replace hsp1 : (x3.fdiv 36).fmod 3 = (sp : Int) := hsp1
  refine tri_mono (σ' := [((Str.ofString "spin"), .i (sp : Nat)), ((Str.ofString "late"), .i (la : Nat)), ((Str.ofString "light"), .i (lg : Nat)), ((Str.ofString "white"), .i (wh : Nat)), ((Str.ofString "counts"), .li ((eDs (2 * hf)).map fun x : Nat => (x : Int))), ((Str.ofString "marks"), .li TRI), ((Str.ofString "top"), .i (2 * hf : Nat)), ((Str.ofString "n"), .i (n : Nat)), ((Str.ofString "draw"), .i x3)]) (ν' := ν5) (z' := false) (h wh lg la sp ν5 hwh2 hlg2 hla2 hsp2 (ht4.mono S5)) (fun h => nomatch h) (fun _ h => h) (sub_of (AllSub.get ⟨congrArg (fun t => some (SV.i t)) hsp1, congrArg (fun t => some (SV.i t)) hla1, congrArg (fun t => some (SV.i t)) hlg1, congrArg (fun t => some (SV.i t)) hwh1, AllSub.of rfl⟩))
end
end Mine
end
noncomputable section
open PySem PySem.W PyProof.Rows PySem.Spec PySem.Calls
namespace Mine
set_option genInjectivity false
set_option genSizeOf false
/-- how the arguments of a call are bound -/
noncomputable def BndH (f : Addr) (us : List Value) (kw binds : List (Str × Value)) : Prop := ∀ (P : Params) (fd : FuncData), (∃ oc od sl, (hd.heap_39 P).lookup f = some ⟨oc, od, .func fd, sl⟩) → ∀ s : Shared, (hd.heap_39 P).In s.heap → BindsTo s fd ⟨us, kw⟩ binds
theorem mid2 {x : Int} : x.fdiv 2 * 2 ≤ x ∧ x < x.fdiv 2 * 2 + 2 := by
  rw [Int.fdiv_eq_ediv_of_nonneg _ (by decide)]
  omega
theorem mids {a b : Int} {l : Nat} (ha : 0 ≤ a) (h : a < b) (hb : b ≤ l) (hl : l ≤ 1000) : (0 ≤ (a + b).fdiv 2 ∧ ((a + b).fdiv 2).toNat < l ∧ l ≤ 1048576) ∧ a ≤ (a + b).fdiv 2 ∧ (a + b).fdiv 2 < b := by
  have e := mid2 (x := a + b)
  generalize (a + b).fdiv 2 = m at e
  omega
/-- the room that is left: between a and b, c held within is what lo and hi give -/
noncomputable def BJ (l : Nat) (c : Nat) (v a b : Int) : Prop := 0 ≤ a ∧ b ≤ l ∧ max a (min (c : Int) b) = v
theorem meas {a b m : Int} (h2 : a ≤ m) (h3 : m < b) : (b - (m + 1)).toNat < (b - a).toNat ∧ (m - a).toNat < (b - a).toNat := by omega
theorem BJ.up {l c : Nat} {v a b m : Int} (h : BJ l c v a b) (h1 : 0 ≤ m) (h2 : a ≤ m) (h3 : m < b) (h4 : m.toNat < c) : (b - (m + 1)).toNat < (b - a).toNat ∧ BJ l c v (m + 1) b :=
  have h5 : m + 1 ≤ min (c : Int) b := Int.le_min.mpr ⟨(Int.toNat_lt h1).mp h4, h3⟩
  ⟨(meas h2 h3).1, Int.le_trans h1 (Int.le_of_lt (Int.lt_succ m)), h.2.1, (Int.max_eq_right h5).trans ((Int.max_eq_right (Int.le_trans h2 (Int.le_trans (Int.le_of_lt (Int.lt_succ m)) h5))).symm.trans h.2.2)⟩
theorem BJ.dn {l c : Nat} {v a b m : Int} (h : BJ l c v a b) (h1 : 0 ≤ m) (h2 : a ≤ m) (h3 : m < b) (h4 : ¬ m.toNat < c) : (m - a).toNat < (b - a).toNat ∧ BJ l c v a m :=
  have h5 : (c : Int) ≤ m := Int.not_lt.mp fun q => h4 ((Int.toNat_lt h1).mpr q)
  ⟨(meas h2 h3).2, h.1, Int.le_trans (Int.le_of_lt h3) h.2.1, ((congrArg (max a) ((Int.min_eq_left h5).trans (Int.min_eq_left (Int.le_trans h5 (Int.le_of_lt h3))).symm))).trans h.2.2⟩
theorem BJ.fin {l c : Nat} {v a b : Int} (h : BJ l c v a b) (h1 : ¬ a < b) : SV.i a = .i v := congrArg SV.i ((Int.max_eq_left (Int.le_trans (Int.min_le_right _ _) (Int.not_lt.mp h1))).symm.trans h.2.2)
/-- a key's contract, for the values of a list -/
noncomputable def KeyFn (kf : Addr) (vs : List Value) (κ : Value → UInt64) (ν : Lg) : Prop := FnIn ν kf ∧ ∀ u ∈ vs, MCk kf 1 [u] [] (fun n => ∀ p ∈ ν, p ∈ n) (Val (.f (κ u) false))
theorem getD_mem {vs : List Value} {n : Nat} (h : n < vs.length) : vs.getD n .none ∈ vs := by
  rw [List.getD_eq_getElem?_getD, List.getElem?_eq_getElem h]
  exact List.getElem_mem h
noncomputable def φkey (κ : Value → UInt64) (vs : List Value) : SV → R2 := one1 fun a => (vOf a).bind fun u => some (.f (κ u) false, [u ∈ vs])
theorem key_ok {kf : Addr} {vs : List Value} {κ : Value → UInt64} {ν : Lg} (h : KeyFn kf vs κ ν) (x : SV) (us : List Value) (hu : IsL ν x us) : OptP (fun r => All r.2 → MCk kf 1 us [] (fun n => ∀ p ∈ ν, p ∈ n) (Val r.1)) (φkey κ vs x) :=
  one1_is hu fun a u e ha => .bind (vOf_is ha) fun w e2 hc => e ▸ e2 ▸ h.2 w hc.1
theorem bisl_spec (ns : List Int) (x : Int) (lo hi : Int) (hiS : SV) (c : Nat) (hh : hiS = .i hi ∨ (hiS = .v .none ∧ hi = ns.length)) (hlen : ns.length ≤ 1000) (hlo : 0 ≤ lo) (hhi : hi ≤ ns.length) (hx : ∀ i, i < ns.length → (ns.getD i 0 < x ↔ i < c))
    {ν0 : Lg} {us : List Value} {kw : List (Str × Value)} {ua ux ulo uhi : Value} (i1 : Is ν0 (.li ns) ua) (i2 : Is ν0 (.i x) ux) (i3 : Is ν0 (.i lo) ulo) (i4 : Is ν0 hiS uhi) (H : BndH 67 us kw [((Str.ofString "a"), ua), ((Str.ofString "x"), ux), ((Str.ofString "lo"), ulo), ((Str.ofString "hi"), uhi), ((Str.ofString "key"), .none)]) :
    MCk 67 2 us kw (fun n => ∀ p ∈ ν0, p ∈ n) (Val (.i (max lo (min (c : Int) hi)))) := by
  unfold MCk
  k_fill
  k_dflt refine' mc_tri (lv := 1) [((Str.ofString "a"), ua), ((Str.ofString "x"), ux), ((Str.ofString "lo"), ulo), ((Str.ofString "hi"), uhi), ((Str.ofString "key"), .none)] [((Str.ofString "a"), (.li ns)), ((Str.ofString "x"), (.i x)), ((Str.ofString "lo"), .i lo), ((Str.ofString "hi"), hiS), ((Str.ofString "key"), (.v .none))] (fun P => ?ho) (fun P => ?hcd) (fun w s X => ?hb) ?hnd ?hkd ?hc0 ?h1 ?h2 ?h3 (fun ν hν => ?hs) (fun K ν s9 G hν lt hfz hcl hq => ?body)
  case ho => k_dflt k_is
  case hcd => k_dflt k_is
  case hb => exact H w.params _ ⟨_, _, _, by k_dflt k_is⟩ s X
  case hnd => exact (by decide : (["a", "x", "lo", "hi", "key"].map Str.ofString).Nodup)
  case hkd => rfl
  case hc0 => exact List.nodup_nil
  case h1 => rfl
  case h2 => rfl
  case h3 => rfl
  case hs => exact ⟨rfl, .inl rfl, Is.mono hν i1, rfl, .inl rfl, Is.mono hν i2, rfl, .inl rfl, Is.mono hν i3, rfl, .inl rfl, Is.mono hν i4, rfl, .inl rfl, rfl, trivial⟩
  have hl63 : ns.length < 2 ^ 63 := Nat.lt_of_le_of_lt hlen (by decide)
  refine tri_if G .nil rfl trivial (fun h => absurd (of_decide_eq_true h) (Int.not_lt.mpr hlo)) fun _ => tri_next ?_
  refine tri_meet [((Str.ofString "lo"), .i lo), ((Str.ofString "hi"), .i hi), ((Str.ofString "a"), (.li ns)), ((Str.ofString "x"), (.i x)), ((Str.ofString "key"), (.v .none))] (fun R' loop => ?_) ?_
  · rcases hh with rfl | ⟨rfl, rfl⟩
    · exact tri_if G .nil rfl trivial (fun h => nomatch h) fun _ => tri_next (tri_mono loop (fun h => nomatch h) (fun _ h => h) (sub_of (AllSub.get (.of rfl))))
    · exact tri_if G .nil rfl trivial (fun _ => tri_asg G (.cons (c_len G rfl) .nil) rfl ⟨hl63, trivial⟩ (tri_next (tri_mono loop (fun h => nomatch h) (fun _ h => h) (sub_of (AllSub.get (.of rfl)))))) fun h => nomatch h
  refine tri_if G .nil rfl trivial (fun _ => ?_) fun h => nomatch h
  refine tri_while (fun k σ ν' => ν' = ν ∧ ∃ a b, BJ ns.length c (max lo (min (c : Int) hi)) a b ∧ k = (b - a).toNat ∧ σ = [((Str.ofString "lo"), .i a), ((Str.ofString "hi"), .i b), ((Str.ofString "a"), (.li ns)), ((Str.ofString "x"), (.i x)), ((Str.ofString "key"), (.v .none))]) (hi - lo).toNat G ⟨rfl, lo, hi, ⟨hlo, hhi, rfl⟩, rfl, rfl⟩ fun k σ ν' hj => ?_
  obtain ⟨rfl, a, b, J, rfl, rfl⟩ := hj
  refine ⟨[], decide (a < b), _, _, .nil, rfl, trivial, fun h => ?_, fun h => ?_⟩
  rotate_left
  · exact tri_next (tri_retV G .nil rfl trivial (J.fin (of_decide_eq_false h)))
  obtain ⟨m0, m1, m2⟩ := mids J.1 (of_decide_eq_true h) J.2.1 hlen
  refine tri_asg G .nil rfl ⟨by decide, by decide, trivial⟩ (tri_if G .nil rfl ⟨m0, trivial⟩ (fun h => ?_) fun h => ?_)
  · exact tri_asg G .nil rfl trivial (tri_next (tri_wend _ _ _ (J.up m0.1 m1 m2 ((hx _ m0.2.1).1 (of_decide_eq_true h))).1 ⟨rfl, _, _, (J.up m0.1 m1 m2 ((hx _ m0.2.1).1 (of_decide_eq_true h))).2, rfl, rfl⟩ (fun _ h => h) (sub_of (AllSub.get (.of rfl)))))
  · exact tri_asg G .nil rfl trivial (tri_next (tri_wend _ _ _ (J.dn m0.1 m1 m2 (mt (hx _ m0.2.1).2 (of_decide_eq_false h))).1 ⟨rfl, _, _, (J.dn m0.1 m1 m2 (mt (hx _ m0.2.1).2 (of_decide_eq_false h))).2, rfl, rfl⟩ (fun _ h => h) (sub_of (AllSub.get (.of rfl)))))
theorem bislk_spec (vs : List Value) (κ : Value → UInt64) (x : UInt64) (kf ql : Addr) (lo hi : Int) (hiS : SV) (c : Nat) (hh : hiS = .i hi ∨ (hiS = .v .none ∧ hi = vs.length)) (hlen : vs.length ≤ 1000) (hlo : 0 ≤ lo) (hhi : hi ≤ vs.length) (hx : ∀ i, i < vs.length → ((Float64.cmp (κ (vs.getD i .none)) x == some Ordering.lt) = true ↔ i < c))
    {ν0 : Lg} {us : List Value} {kw : List (Str × Value)} {ua ux ulo uhi : Value} (hkf : KeyFn kf vs κ ν0) (i1 : Is ν0 (.lv ql vs) ua) (i2 : Is ν0 (.f x false) ux) (i3 : Is ν0 (.i lo) ulo) (i4 : Is ν0 hiS uhi) (H : BndH 67 us kw [((Str.ofString "a"), ua), ((Str.ofString "x"), ux), ((Str.ofString "lo"), ulo), ((Str.ofString "hi"), uhi), ((Str.ofString "key"), .ref kf)]) :
    MCk 67 2 us kw (fun n => ∀ p ∈ ν0, p ∈ n) (Val (.i (max lo (min (c : Int) hi)))) := by
  unfold MCk
  k_fill
  k_dflt refine' mc_tri (lv := 1) [((Str.ofString "a"), ua), ((Str.ofString "x"), ux), ((Str.ofString "lo"), ulo), ((Str.ofString "hi"), uhi), ((Str.ofString "key"), .ref kf)] [((Str.ofString "a"), (.lv ql vs)), ((Str.ofString "x"), (.f x false)), ((Str.ofString "lo"), .i lo), ((Str.ofString "hi"), hiS), ((Str.ofString "key"), (.v (.ref kf)))] (fun P => ?ho) (fun P => ?hcd) (fun w s X => ?hb) ?hnd ?hkd ?hc0 ?h1 ?h2 ?h3 (fun ν hν => ?hs) (fun K ν s9 G hν lt hfz hcl hq => ?body)
  case ho => k_dflt k_is
  case hcd => k_dflt k_is
  case hb => exact H w.params _ ⟨_, _, _, by k_dflt k_is⟩ s X
  case hnd => exact (by decide : (["a", "x", "lo", "hi", "key"].map Str.ofString).Nodup)
  case hkd => rfl
  case hc0 => exact List.nodup_nil
  case h1 => rfl
  case h2 => rfl
  case h3 => rfl
  case hs => exact ⟨rfl, .inl rfl, Is.mono hν i1, rfl, .inl rfl, Is.mono hν i2, rfl, .inl rfl, Is.mono hν i3, rfl, .inl rfl, Is.mono hν i4, rfl, .inl rfl, rfl, trivial⟩
  have hl63 : vs.length < 2 ^ 63 := Nat.lt_of_le_of_lt hlen (by decide)
  have hkf : KeyFn kf vs κ ν := ⟨hkf.1.imp fun _ h => h.imp fun _ h => h.imp fun _ h => h.imp fun _ h => hν _ h, fun u hu => mck_pre (hkf.2 u hu) fun n h p hp => h p (hν p hp)⟩
  have O : OraOK K _ ν [((Str.ofString "key"), fun σ x => bd2 (φkey κ vs x) fun u c => some (u, (σ.lookup (Str.ofString "key") = some (.v (.ref kf))) :: c))] := .consL (cal_loc G (key_ok hkf) hkf.1 (Nat.le_refl _)) .nil
  refine tri_if G .nil rfl trivial (fun h => absurd (of_decide_eq_true h) (Int.not_lt.mpr hlo)) fun _ => tri_next ?_
  refine tri_meet [((Str.ofString "lo"), .i lo), ((Str.ofString "hi"), .i hi), ((Str.ofString "a"), (.lv ql vs)), ((Str.ofString "x"), (.f x false)), ((Str.ofString "key"), (.v (.ref kf)))] (fun R' loop => ?_) ?_
  · rcases hh with rfl | ⟨rfl, rfl⟩
    · exact tri_if G .nil rfl trivial (fun h => nomatch h) fun _ => tri_next (tri_mono loop (fun h => nomatch h) (fun _ h => h) (sub_of (AllSub.get (.of rfl))))
    · exact tri_if G .nil rfl trivial (fun _ => tri_asg G (.cons (c_len G rfl) .nil) rfl ⟨hl63, trivial⟩ (tri_next (tri_mono loop (fun h => nomatch h) (fun _ h => h) (sub_of (AllSub.get (.of rfl)))))) fun h => nomatch h
  refine tri_if G .nil rfl trivial (fun h => nomatch h) fun _ => ?_
  refine tri_while (fun k σ ν' => ν' = ν ∧ ∃ a b, BJ vs.length c (max lo (min (c : Int) hi)) a b ∧ k = (b - a).toNat ∧ σ = [((Str.ofString "lo"), .i a), ((Str.ofString "hi"), .i b), ((Str.ofString "a"), (.lv ql vs)), ((Str.ofString "x"), (.f x false)), ((Str.ofString "key"), (.v (.ref kf)))]) (hi - lo).toNat G ⟨rfl, lo, hi, ⟨hlo, hhi, rfl⟩, rfl, rfl⟩ fun k σ ν' hj => ?_
  obtain ⟨rfl, a, b, J, rfl, rfl⟩ := hj
  refine ⟨[], decide (a < b), _, _, .nil, rfl, trivial, fun h => ?_, fun h => ?_⟩
  rotate_left
  · exact tri_next (tri_retV G .nil rfl trivial (J.fin (of_decide_eq_false h)))
  obtain ⟨m0, m1, m2⟩ := mids J.1 (of_decide_eq_true h) J.2.1 hlen
  refine tri_asg G .nil rfl ⟨by decide, by decide, trivial⟩ (tri_if G O rfl ⟨m0, rfl, getD_mem m0.2.1, trivial⟩ (fun h => ?_) fun h => ?_)
  · exact tri_asg G .nil rfl trivial (tri_next (tri_wend _ _ _ (J.up m0.1 m1 m2 ((hx _ m0.2.1).1 h)).1 ⟨rfl, _, _, (J.up m0.1 m1 m2 ((hx _ m0.2.1).1 h)).2, rfl, rfl⟩ (fun _ h => h) (sub_of (AllSub.get (.of rfl)))))
  · exact tri_asg G .nil rfl trivial (tri_next (tri_wend _ _ _ (J.dn m0.1 m1 m2 (mt (hx _ m0.2.1).2 (Bool.eq_false_iff.mp h))).1 ⟨rfl, _, _, (J.dn m0.1 m1 m2 (mt (hx _ m0.2.1).2 (Bool.eq_false_iff.mp h))).2, rfl, rfl⟩ (fun _ h => h) (sub_of (AllSub.get (.of rfl)))))
theorem bisrk_spec (vs : List Value) (κ : Value → UInt64) (x : UInt64) (kf ql : Addr) (lo hi : Int) (hiS : SV) (c : Nat) (hh : hiS = .i hi ∨ (hiS = .v .none ∧ hi = vs.length)) (hlen : vs.length ≤ 1000) (hlo : 0 ≤ lo) (hhi : hi ≤ vs.length) (hx : ∀ i, i < vs.length → ((Float64.cmp x (κ (vs.getD i .none)) == some Ordering.lt) = true ↔ ¬ i < c))
    {ν0 : Lg} {us : List Value} {kw : List (Str × Value)} {ua ux ulo uhi : Value} (hkf : KeyFn kf vs κ ν0) (i1 : Is ν0 (.lv ql vs) ua) (i2 : Is ν0 (.f x false) ux) (i3 : Is ν0 (.i lo) ulo) (i4 : Is ν0 hiS uhi) (H : BndH 49 us kw [((Str.ofString "a"), ua), ((Str.ofString "x"), ux), ((Str.ofString "lo"), ulo), ((Str.ofString "hi"), uhi), ((Str.ofString "key"), .ref kf)]) :
    MCk 49 2 us kw (fun n => ∀ p ∈ ν0, p ∈ n) (Val (.i (max lo (min (c : Int) hi)))) := by
  unfold MCk
  k_fill
  k_dflt refine' mc_tri (lv := 1) [((Str.ofString "a"), ua), ((Str.ofString "x"), ux), ((Str.ofString "lo"), ulo), ((Str.ofString "hi"), uhi), ((Str.ofString "key"), .ref kf)] [((Str.ofString "a"), (.lv ql vs)), ((Str.ofString "x"), (.f x false)), ((Str.ofString "lo"), .i lo), ((Str.ofString "hi"), hiS), ((Str.ofString "key"), (.v (.ref kf)))] (fun P => ?ho) (fun P => ?hcd) (fun w s X => ?hb) ?hnd ?hkd ?hc0 ?h1 ?h2 ?h3 (fun ν hν => ?hs) (fun K ν s9 G hν lt hfz hcl hq => ?body)
  case ho => k_dflt k_is
  case hcd => k_dflt k_is
  case hb => exact H w.params _ ⟨_, _, _, by k_dflt k_is⟩ s X
  case hnd => exact (by decide : (["a", "x", "lo", "hi", "key"].map Str.ofString).Nodup)
  case hkd => rfl
  case hc0 => exact List.nodup_nil
  case h1 => rfl
  case h2 => rfl
  case h3 => rfl
  case hs => exact ⟨rfl, .inl rfl, Is.mono hν i1, rfl, .inl rfl, Is.mono hν i2, rfl, .inl rfl, Is.mono hν i3, rfl, .inl rfl, Is.mono hν i4, rfl, .inl rfl, rfl, trivial⟩
  have hl63 : vs.length < 2 ^ 63 := Nat.lt_of_le_of_lt hlen (by decide)
  have hkf : KeyFn kf vs κ ν := ⟨hkf.1.imp fun _ h => h.imp fun _ h => h.imp fun _ h => h.imp fun _ h => hν _ h, fun u hu => mck_pre (hkf.2 u hu) fun n h p hp => h p (hν p hp)⟩
  have O : OraOK K _ ν [((Str.ofString "key"), fun σ x => bd2 (φkey κ vs x) fun u c => some (u, (σ.lookup (Str.ofString "key") = some (.v (.ref kf))) :: c))] := .consL (cal_loc G (key_ok hkf) hkf.1 (Nat.le_refl _)) .nil
  refine tri_if G .nil rfl trivial (fun h => absurd (of_decide_eq_true h) (Int.not_lt.mpr hlo)) fun _ => tri_next ?_
  refine tri_meet [((Str.ofString "lo"), .i lo), ((Str.ofString "hi"), .i hi), ((Str.ofString "a"), (.lv ql vs)), ((Str.ofString "x"), (.f x false)), ((Str.ofString "key"), (.v (.ref kf)))] (fun R' loop => ?_) ?_
  · rcases hh with rfl | ⟨rfl, rfl⟩
    · exact tri_if G .nil rfl trivial (fun h => nomatch h) fun _ => tri_next (tri_mono loop (fun h => nomatch h) (fun _ h => h) (sub_of (AllSub.get (.of rfl))))
    · exact tri_if G .nil rfl trivial (fun _ => tri_asg G (.cons (c_len G rfl) .nil) rfl ⟨hl63, trivial⟩ (tri_next (tri_mono loop (fun h => nomatch h) (fun _ h => h) (sub_of (AllSub.get (.of rfl)))))) fun h => nomatch h
  refine tri_if G .nil rfl trivial (fun h => nomatch h) fun _ => ?_
  refine tri_while (fun k σ ν' => ν' = ν ∧ ∃ a b, BJ vs.length c (max lo (min (c : Int) hi)) a b ∧ k = (b - a).toNat ∧ σ = [((Str.ofString "lo"), .i a), ((Str.ofString "hi"), .i b), ((Str.ofString "a"), (.lv ql vs)), ((Str.ofString "x"), (.f x false)), ((Str.ofString "key"), (.v (.ref kf)))]) (hi - lo).toNat G ⟨rfl, lo, hi, ⟨hlo, hhi, rfl⟩, rfl, rfl⟩ fun k σ ν' hj => ?_
  obtain ⟨rfl, a, b, J, rfl, rfl⟩ := hj
  refine ⟨[], decide (a < b), _, _, .nil, rfl, trivial, fun h => ?_, fun h => ?_⟩
  rotate_left
  · exact tri_next (tri_retV G .nil rfl trivial (J.fin (of_decide_eq_false h)))
  obtain ⟨m0, m1, m2⟩ := mids J.1 (of_decide_eq_true h) J.2.1 hlen
  refine tri_asg G .nil rfl ⟨by decide, by decide, trivial⟩ (tri_if G O rfl ⟨m0, rfl, getD_mem m0.2.1, trivial⟩ (fun h => ?_) fun h => ?_)
  · exact tri_asg G .nil rfl trivial (tri_next (tri_wend _ _ _ (J.dn m0.1 m1 m2 ((hx _ m0.2.1).1 h)).1 ⟨rfl, _, _, (J.dn m0.1 m1 m2 ((hx _ m0.2.1).1 h)).2, rfl, rfl⟩ (fun _ h => h) (sub_of (AllSub.get (.of rfl)))))
  · exact tri_asg G .nil rfl trivial (tri_next (tri_wend _ _ _ (J.up m0.1 m1 m2 (Decidable.not_not.mp (mt (hx _ m0.2.1).2 (Bool.eq_false_iff.mp h)))).1 ⟨rfl, _, _, (J.up m0.1 m1 m2 (Decidable.not_not.mp (mt (hx _ m0.2.1).2 (Bool.eq_false_iff.mp h)))).2, rfl, rfl⟩ (fun _ h => h) (sub_of (AllSub.get (.of rfl)))))
end Mine
end
noncomputable section
open PySem PySem.W PyProof.Rows PySem.Spec PySem.Calls
namespace Mine
set_option genInjectivity false
set_option genSizeOf false
theorem bnd_of {f : Addr} {us : List Value} {kw binds : List (Str × Value)} {oc : Value} {od : Option Addr} {fd : FuncData} {sl : Array (Option Value)} (h : ∀ P : Params, (hd.heap_39 P).lookup f = some ⟨oc, od, .func fd, sl⟩) (hb : ∀ (P : Params) (s : Shared), (hd.heap_39 P).In s.heap → BindsTo s fd ⟨us, kw⟩ binds) : BndH f us kw binds := fun P fd' ⟨_, _, _, hl⟩ s X => by
  have e := hl.symm.trans (h P)
  injection e with e
  injection e with _ _ e3 _
  injection e3 with e3
  exact e3 ▸ hb P s X
theorem bnd_l3 {a x lo : Value} : BndH 67 [a, x, lo] [] [((Str.ofString "a"), a), ((Str.ofString "x"), x), ((Str.ofString "lo"), lo), ((Str.ofString "hi"), .none), ((Str.ofString "key"), .none)] := by
  k_dflt refine' bnd_of (fun P => ?ho) (fun P s X => ?hb)
  case ho => k_dflt k_is
  k_dflt (refine' binds_K3 (by k_in) rfl (by k_is) rfl rfl (by k_is) (by simp) rfl ?hy; (case hy => (intro M9 A9 E9 Q9 n9 q9; ((refine wpAny_bind (wpAny_of_eq rfl ?_)); (refine wpAny_bind ?_); (refine wpAny_bind ?_); (refine wpAny_bind ?_); (refine nsGet_v n9 (show _ = some Value.none from rfl) ?_); (refine wpAny_pure ?_); (refine wpAny_pure ?_); exact wpAny_of_eq rfl q9))))
theorem bnd_l4 {a x lo hi : Value} : BndH 67 [a, x, lo, hi] [] [((Str.ofString "a"), a), ((Str.ofString "x"), x), ((Str.ofString "lo"), lo), ((Str.ofString "hi"), hi), ((Str.ofString "key"), .none)] := by
  k_dflt refine' bnd_of (fun P => ?ho) (fun P s X => ?hb)
  case ho => k_dflt k_is
  k_dflt (refine' binds_K3 (by k_in) rfl (by k_is) rfl rfl (by k_is) (by simp) rfl ?hy; (case hy => (intro M9 A9 E9 Q9 n9 q9; ((refine wpAny_bind (wpAny_of_eq rfl ?_)); (refine wpAny_bind ?_); (refine wpAny_bind ?_); (refine wpAny_bind ?_); (refine nsGet_v n9 (show _ = some Value.none from rfl) ?_); (refine wpAny_pure ?_); (refine wpAny_pure ?_); exact wpAny_of_eq rfl q9))))
theorem bnd_lk4 {a x lo hi k : Value} : BndH 67 [a, x, lo, hi] [((Str.ofString "key"), k)] [((Str.ofString "a"), a), ((Str.ofString "x"), x), ((Str.ofString "lo"), lo), ((Str.ofString "hi"), hi), ((Str.ofString "key"), k)] := by
  k_dflt refine' bnd_of (fun P => ?ho) (fun P s X => ?hb)
  case ho => k_dflt k_is
  k_dflt (refine' binds_K3 (by k_in) rfl (by k_is) rfl rfl (by k_is) (by simp) rfl ?hy; (case hy => (intro M9 A9 E9 Q9 n9 q9; exact wpAny_of_eq rfl q9)))
theorem bnd_rk4 {a x lo hi k : Value} : BndH 49 [a, x, lo, hi] [((Str.ofString "key"), k)] [((Str.ofString "a"), a), ((Str.ofString "x"), x), ((Str.ofString "lo"), lo), ((Str.ofString "hi"), hi), ((Str.ofString "key"), k)] := by
  k_dflt refine' bnd_of (fun P => ?ho) (fun P s X => ?hb)
  case ho => k_dflt k_is
  k_dflt (refine' binds_K3 (by k_in) rfl (by k_is) rfl rfl (by k_is) (by simp) rfl ?hy; (case hy => (intro M9 A9 E9 Q9 n9 q9; exact wpAny_of_eq rfl q9)))
theorem bnd_lk2 {a x k : Value} : BndH 67 [a, x] [((Str.ofString "key"), k)] [((Str.ofString "a"), a), ((Str.ofString "x"), x), ((Str.ofString "lo"), .int 0 324), ((Str.ofString "hi"), .none), ((Str.ofString "key"), k)] := by
  k_dflt refine' bnd_of (fun P => ?ho) (fun P s X => ?hb)
  case ho => k_dflt k_is
  k_dflt (refine' binds_K3 (by k_in) rfl (by k_is) rfl rfl (by k_is) (by simp) rfl ?hy; (case hy => (intro M9 A9 E9 Q9 n9 q9; exact wpAny_of_eq rfl q9)))
theorem bnd_il {a x k : Value} : BndH 58 [a, x] [((Str.ofString "key"), k)] [((Str.ofString "a"), a), ((Str.ofString "x"), x), ((Str.ofString "lo"), .int 0 311), ((Str.ofString "hi"), .none), ((Str.ofString "key"), k)] := by
  k_dflt refine' bnd_of (fun P => ?ho) (fun P s X => ?hb)
  case ho => k_dflt k_is
  k_dflt (refine' binds_K3 (by k_in) rfl (by k_is) rfl rfl (by k_is) (by simp) rfl ?hy; (case hy => (intro M9 A9 E9 Q9 n9 q9; exact wpAny_of_eq rfl q9)))
theorem bnd_ir {a x k : Value} : BndH 40 [a, x] [((Str.ofString "key"), k)] [((Str.ofString "a"), a), ((Str.ofString "x"), x), ((Str.ofString "lo"), .int 0 284), ((Str.ofString "hi"), .none), ((Str.ofString "key"), k)] := by
  k_dflt refine' bnd_of (fun P => ?ho) (fun P s X => ?hb)
  case ho => k_dflt k_is
  k_dflt (refine' binds_K3 (by k_in) rfl (by k_is) rfl rfl (by k_is) (by simp) rfl ?hy; (case hy => (intro M9 A9 E9 Q9 n9 q9; exact wpAny_of_eq rfl q9)))
end Mine
end
noncomputable section
open PySem PySem.W PyProof.Rows PySem.Spec PySem.Calls
namespace Mine
set_option genInjectivity false
set_option genSizeOf false
theorem at_bl : ∀ P, nsIn (hd.heap_39 P) mainGlobals (Str.ofString "bisect_left") = some (some (.ref 67)) := fun P => by k_dflt k_is
theorem is_bl : FnIs 67 := fun P => ⟨_, _, _, _, by k_dflt k_is⟩
theorem at_br : ∀ P, nsIn (hd.heap_39 P) mainGlobals (Str.ofString "bisect_right") = some (some (.ref 49)) := fun P => by k_dflt k_is
theorem is_br : FnIs 49 := fun P => ⟨_, _, _, _, by k_dflt k_is⟩
theorem ins_c {c n : Nat} (h : c ≤ n) : max (0 : Int) (min (c : Int) (n : Int)) = c := by rw [Int.min_eq_left (Int.ofNat_le.mpr h)]; exact Int.max_eq_right (Int.natCast_nonneg c)
theorem KeyFn.sub {kf : Addr} {vs ws : List Value} {κ : Value → UInt64} {ν ν' : Lg} (h : KeyFn kf vs κ ν) (hs : ∀ u ∈ ws, u ∈ vs) (hν : ∀ p ∈ ν, p ∈ ν') : KeyFn kf ws κ ν' := ⟨h.1.imp fun _ h => h.imp fun _ h => h.imp fun _ h => h.imp fun _ h => hν _ h, fun u hu => mck_pre (h.2 u (hs u hu)) fun _ h p hp => h p (hν p hp)⟩
theorem insl_spec (vs : List Value) (κ : Value → UInt64) (v : Value) (kf q : Addr) (n0 c : Nat) (hlen : vs.length ≤ 1000) (hc : c ≤ vs.length) (hx : ∀ i, i < vs.length → ((Float64.cmp (κ (vs.getD i .none)) (κ v) == some Ordering.lt) = true ↔ i < c)) {ν0 : Lg} (hq : (q, listO vs n0) ∈ ν0) (hkf : KeyFn kf (v :: vs) κ ν0) :
    MCk 58 3 [.ref q, v] [((Str.ofString "key"), .ref kf)] (fun n => ∀ p ∈ ν0, p ∈ n) (Mut q fun us => us = vs.take c ++ v :: vs.drop c) := by
  unfold MCk
  k_fill
  k_dflt refine' mc_tri (lv := 2) [((Str.ofString "a"), .ref q), ((Str.ofString "x"), v), ((Str.ofString "lo"), .int 0 311), ((Str.ofString "hi"), .none), ((Str.ofString "key"), .ref kf)] [((Str.ofString "a"), .lv q vs), ((Str.ofString "x"), .v v), ((Str.ofString "lo"), .i 0), ((Str.ofString "hi"), .v .none), ((Str.ofString "key"), .v (.ref kf))] (fun P => ?ho) (fun P => ?hcd) (fun w s X => ?hb) ?hnd ?hkd ?hc0 ?h1 ?h2 ?h3 (fun ν hν => ?hs) (fun K ν s9 G hν lt hfz hcl hq => ?body)
  case ho => k_dflt k_is
  case hcd => k_dflt k_is
  case hb => exact bnd_il w.params _ ⟨_, _, _, by k_dflt k_is⟩ s X
  case hnd => exact (by decide : (["a", "x", "lo", "hi", "key"].map Str.ofString).Nodup)
  case hkd => rfl
  case hc0 => exact List.nodup_nil
  case h1 => rfl
  case h2 => rfl
  case h3 => rfl
  case hs => exact ⟨rfl, .inl rfl, ⟨rfl, n0, hν _ hq⟩, rfl, .inl rfl, rfl, rfl, .inl rfl, ⟨_, rfl⟩, rfl, .inl rfl, rfl, rfl, .inl rfl, rfl, trivial⟩
  have hv := hkf.sub (ws := [v]) (fun u hu => List.mem_singleton.mp hu ▸ .head _) hν
  have hk := hkf.sub (ws := vs) (fun u hu => .tail _ hu) hν
  have O : OraOK K _ ν [((Str.ofString "key"), fun σ x => bd2 (φkey κ [v] x) fun u c => some (u, (σ.lookup (Str.ofString "key") = some (.v (.ref kf))) :: c))] := .consL (cal_loc G (key_ok hv) hv.1 (by decide)) .nil
  refine tri_if G .nil rfl trivial (fun h => nomatch h) fun _ => ?_
  refine tri_asgX (sv := .i c) (S := fun n => n = ν) G (ex_callK G O at_bl is_bl (Nat.le_refl 2) rfl ⟨rfl, .head _, trivial⟩ rfl trivial (fun us uk hu hk' => ?_) gives_val) fun ν' e => ?_
  · obtain ⟨ua, _, rfl, i1, ux, _, rfl, i2, ulo, _, rfl, i3, uhi, _, rfl, i4, rfl⟩ := hu
    cases hk'
    cases i4
    exact ins_c hc ▸ bislk_spec vs κ (κ v) kf q 0 vs.length (.v .none) c (.inr ⟨rfl, rfl⟩) hlen (Int.le_refl 0) (Int.le_refl _) hx hk i1 i2 i3 rfl bnd_lk4
  · subst e
    refine tri_next (tri_thaw (Str.ofString "a") rfl (σ' := [((Str.ofString "lo"), .i c), ((Str.ofString "x"), .v v)]) ⟨rfl, rfl, trivial⟩ rfl rfl ?_)
    exact tri_insert G .nil rfl rfl trivial rfl trivial hlen (Int.natCast_nonneg c) (Int.ofNat_le.mpr hc) fun u hu => by
      cases (show u = v from hu)
      exact tri_doneM (x := (Str.ofString "a")) (T := fun us => us = vs.take c ++ v :: vs.drop c) rfl rfl fun p hp hne => List.mem_filter.mpr ⟨hp, bne_iff_ne.mpr hne⟩
theorem insr_spec (vs : List Value) (κ : Value → UInt64) (v : Value) (kf q : Addr) (n0 c : Nat) (hlen : vs.length ≤ 1000) (hc : c ≤ vs.length) (hx : ∀ i, i < vs.length → ((Float64.cmp (κ v) (κ (vs.getD i .none)) == some Ordering.lt) = true ↔ ¬ i < c)) {ν0 : Lg} (hq : (q, listO vs n0) ∈ ν0) (hkf : KeyFn kf (v :: vs) κ ν0) :
    MCk 40 3 [.ref q, v] [((Str.ofString "key"), .ref kf)] (fun n => ∀ p ∈ ν0, p ∈ n) (Mut q fun us => us = vs.take c ++ v :: vs.drop c) := by
  unfold MCk
  k_fill
  k_dflt refine' mc_tri (lv := 2) [((Str.ofString "a"), .ref q), ((Str.ofString "x"), v), ((Str.ofString "lo"), .int 0 284), ((Str.ofString "hi"), .none), ((Str.ofString "key"), .ref kf)] [((Str.ofString "a"), .lv q vs), ((Str.ofString "x"), .v v), ((Str.ofString "lo"), .i 0), ((Str.ofString "hi"), .v .none), ((Str.ofString "key"), .v (.ref kf))] (fun P => ?ho) (fun P => ?hcd) (fun w s X => ?hb) ?hnd ?hkd ?hc0 ?h1 ?h2 ?h3 (fun ν hν => ?hs) (fun K ν s9 G hν lt hfz hcl hq => ?body)
  case ho => k_dflt k_is
  case hcd => k_dflt k_is
  case hb => exact bnd_ir w.params _ ⟨_, _, _, by k_dflt k_is⟩ s X
  case hnd => exact (by decide : (["a", "x", "lo", "hi", "key"].map Str.ofString).Nodup)
  case hkd => rfl
  case hc0 => exact List.nodup_nil
  case h1 => rfl
  case h2 => rfl
  case h3 => rfl
  case hs => exact ⟨rfl, .inl rfl, ⟨rfl, n0, hν _ hq⟩, rfl, .inl rfl, rfl, rfl, .inl rfl, ⟨_, rfl⟩, rfl, .inl rfl, rfl, rfl, .inl rfl, rfl, trivial⟩
  have hv := hkf.sub (ws := [v]) (fun u hu => List.mem_singleton.mp hu ▸ .head _) hν
  have hk := hkf.sub (ws := vs) (fun u hu => .tail _ hu) hν
  have O : OraOK K _ ν [((Str.ofString "key"), fun σ x => bd2 (φkey κ [v] x) fun u c => some (u, (σ.lookup (Str.ofString "key") = some (.v (.ref kf))) :: c))] := .consL (cal_loc G (key_ok hv) hv.1 (by decide)) .nil
  refine tri_if G .nil rfl trivial (fun h => nomatch h) fun _ => ?_
  refine tri_asgX (sv := .i c) (S := fun n => n = ν) G (ex_callK G O at_br is_br (Nat.le_refl 2) rfl ⟨rfl, .head _, trivial⟩ rfl trivial (fun us uk hu hk' => ?_) gives_val) fun ν' e => ?_
  · obtain ⟨ua, _, rfl, i1, ux, _, rfl, i2, ulo, _, rfl, i3, uhi, _, rfl, i4, rfl⟩ := hu
    cases hk'
    cases i4
    exact ins_c hc ▸ bisrk_spec vs κ (κ v) kf q 0 vs.length (.v .none) c (.inr ⟨rfl, rfl⟩) hlen (Int.le_refl 0) (Int.le_refl _) hx hk i1 i2 i3 rfl bnd_rk4
  · subst e
    refine tri_next (tri_thaw (Str.ofString "a") rfl (σ' := [((Str.ofString "lo"), .i c), ((Str.ofString "x"), .v v)]) ⟨rfl, rfl, trivial⟩ rfl rfl ?_)
    exact tri_insert G .nil rfl rfl trivial rfl trivial hlen (Int.natCast_nonneg c) (Int.ofNat_le.mpr hc) fun u hu => by
      cases (show u = v from hu)
      exact tri_doneM (x := (Str.ofString "a")) (T := fun us => us = vs.take c ++ v :: vs.drop c) rfl rfl fun p hp hne => List.mem_filter.mpr ⟨hp, bne_iff_ne.mpr hne⟩
end Mine
end
noncomputable section
open PySem PySem.W PyProof.Rows PySem.Spec PySem.Calls
namespace Mine
set_option genInjectivity false
set_option genSizeOf false
section
variable {K : PC} {sc : Scope} {lv : Nat} {ν ν' ν1 ν2 : Lg} {s0 : Shared} {σ σ' : Sg} {z z' : Bool} {s : Shared} {Φ : Ora} {R : Flow → Shared → Prop} {rest body : List Stmt} {E Q : Value → Shared → Prop} {x y a b sv : SV} {us : List Value} {S S' : Lg → Prop} {p pos p2 : Pos} {e e1 e2 : Expr} {es : List Expr} {c : List Prop} {X kl : Lg} {J : Sg → Lg → Prop}
/-- x, y = ([], []), the second kept aside -/
theorem tri_swapMM {x1 x2 : Str} {p1 p2 tp vp l1 l2 p : Pos} {k k' : Nat} (G : PGood K sc lv) (h : ∀ q1 q2, PGood (K.frs [(q2, listO [] 0)]) sc lv → Tri (K.frs [(q2, listO [] 0)]) sc s0 false ((x1, .m q1 []) :: (x2, .v (.ref q2)) :: σ) ν rest R)
    (hx1 : isLoc sc x1 = true := by rfl) (hx2 : isLoc sc x2 = true := by rfl) (hw : swappedStores [.Tuple [.Name x1 p1, .Name x2 p2] k tp] (.Tuple [.List [] l1, .List [] l2] k' vp) (K.env sc) = pure (some [x1, x2]) := by rfl) :
    Tri K sc s0 z σ ν (.Assign [.Tuple [.Name x1 p1, .Name x2 p2] k tp] (.Tuple [.List [] l1, .List [] l2] k' vp) p :: rest) R := fun s hs => by
  refine wpAny_execs_cons (Assign_Tuple_swapped ?_ rfl hw)
  refine Tuple_ (spliced_more (List_ (spliced_none (wpAny_newObj_type (spliced_more (List_ (spliced_none (wpAny_newObj_type (spliced_none ?_) (Nat.zero_le _)))) rfl) (Nat.zero_le _)))) rfl)
  refine PAt.el hs fun m cm κ D => ?_
  have D1 := (D.pushX (listO [] 0)).pushX (listO [] 0)
  have D2 : PAtD ((K.frs [((s.heap.push (listO [] 0)).objs.size, listO [] 0)]).frs [(s.heap.objs.size, listO [] 0)]) sc ν s0 σ z { s with heap := (s.heap.push (listO [] 0)).push (listO [] 0) } m cm κ := D1.perm (.swap _ _ _)
  have G2 := G.frs D2.out
  have G3 := G2.frs D2
  have P : PAt ((K.frs [((s.heap.push (listO [] 0)).objs.size, listO [] 0)]).frs [(s.heap.objs.size, listO [] 0)]) sc ν s0 σ z { s with heap := (s.heap.push (listO [] 0)).push (listO [] 0) } := ⟨_, _, _, D2⟩
  clear D D1 D2
  show wpAny _ _ (newTuple [.ref s.heap.objs.size, .ref (s.heap.push (listO [] 0)).objs.size]) _ _ { s with heap := (s.heap.push (listO [] 0)).push (listO [] 0) }
  generalize { s with heap := (s.heap.push (listO [] 0)).push (listO [] 0) } = s3 at P ⊢
  generalize (s.heap.push (listO [] 0)).objs.size = q2 at P G2 G3 ⊢
  generalize s.heap.objs.size = q1 at P G3 ⊢
  refine wpAny_newTuple ?_ (Nat.le_of_ble_eq_true rfl)
  refine unpackItems_tuple (items := #[.ref q1, .ref q2]) G.han ⟨_, Heap.get?_push_size _ rfl, rfl, 0, rfl⟩ fun h' he' => ?_
  have hs4 := P.grow (h' := h') fun b o e => he' b o (Nat.ne_of_lt (Nat.lt_of_lt_of_le (Heap.lt_size e) (by rw [Heap.size_push]; exact Nat.le_succ _))) (Heap.get?_push_of_some _ e)
  exact assignInOrder_cons (wpAny_bindName (st_loc (K := (K.frs [(q2, listO [] 0)]).frs [(q1, listO [] 0)]) (sv := .v (.ref q2)) G3 hx2 hs4 rfl fun s5 hs5 => assignInOrder_cons (wpAny_bindName (st_mX (K := K.frs [(q2, listO [] 0)]) G2 hx1 hs5 fun s6 hs6 => assignInOrder_nil (h q1 q2 G2 s6 hs6)))))
/-- what was kept aside, a list that changes -/
theorem tri_unhide {w : Str} {q : Addr} {us : List Value} {n : Nat} (hl : σ.lookup w = some (.v (.ref q))) (hw : isLoc sc w = true) (h : Tri K sc s0 false ((w, .m q us) :: σ) ν rest R) : Tri (K.frs [(q, listO us n)]) sc s0 z σ ν rest R := fun s hs => by
  refine PAt.el hs fun m cm κ D => ?_
  obtain ⟨u, hm, hu⟩ := D.locl hw hl rfl
  cases hu
  have pm : (K.hl (κ.1, (q, listO us n) :: κ.2)).Perm ((K.frs [(q, listO us n)]).hl κ) := (List.perm_middle.symm).append_left _
  exact h s ⟨m, cm, (κ.1, (q, listO us n) :: κ.2), D.e, D.F, fun p hp => D.N p ((List.mem_append.mp hp).elim (List.mem_append_left _) fun hp => List.mem_append_right _ (pm.mem_iff.mp hp)), D.Y, D.nodupX, fun p hp hq => D.O p hp (ha_frs.mem_iff.mpr hq), fun y sw hy => lk_set (P := Kn sc K m cm _ ν y) hy (fun e => .inr (.inr (.inr (.inr ⟨_, _, n, rfl, .inl ⟨by rw [e]; exact hw, by rw [e]; exact hm⟩, .head _⟩)))) fun e hy => (show Kn sc K m cm κ.2 ν y sw from D.a y sw hy).mono rfl rfl (fun _ h => h) fun _ _ n e h => ⟨e, n, .tail _ h⟩, nofun⟩
theorem tri_brk {bp : Pos} {r : List Stmt} (h : ∀ s, PAt K sc ν s0 σ z s → R .brk s) : Tri K sc s0 z σ ν (.Break bp :: r) R := fun s hs => wpAny_execs_cons (wpAny_Break (h s hs))
theorem PGood.room (G : PGood K sc lv) (h : 1 ≤ lv) : K.A.units + 64 < cLine := by
  refine G.el fun pp loose mean mg mb dp un gd outer A₀ base eA B X T hd' hu => ?_
  rw [eA]
  exact Nat.lt_of_le_of_lt (Nat.add_le_add_left (Nat.le_trans (by decide : 64 ≤ 100 * 1) (Nat.mul_le_mul_left 100 h)) un) hu
theorem cmp_li_eq {l l' : List Int} (G : PGood K sc lv) (h : 1 ≤ lv) : CmpK K sc s0 σ .Eq (.li l) (.li l') (decide (l = l')) := fun ν s u1 u2 E Q hs ⟨q1, us1, n1, e1, m1, c1⟩ ⟨q2, us2, n2, e2, m2, c2⟩ hq => by
  subst e1 e2
  exact ke_eq_ints ⟨_, hs.new m1, rfl, n1, rfl⟩ ⟨_, hs.new m2, rfl, n2, rfl⟩ c1.are c2.are (G.room h) (hq s hs)
theorem cmp_li_ne {l l' : List Int} (G : PGood K sc lv) (h : 1 ≤ lv) : CmpK K sc s0 σ .NotEq (.li l) (.li l') (!decide (l = l')) := fun ν s u1 u2 E Q hs ⟨q1, us1, n1, e1, m1, c1⟩ ⟨q2, us2, n2, e2, m2, c2⟩ hq => by
  subst e1 e2
  exact ke_ne_ints ⟨_, hs.new m1, rfl, n1, rfl⟩ ⟨_, hs.new m2, rfl, n2, rfl⟩ c1.are c2.are (G.room h) (hq s hs)
end
end Mine
end
noncomputable section
open PySem PySem.W PyProof.Rows PySem.Spec PySem.Calls
namespace Mine
set_option genInjectivity false
set_option genSizeOf false
noncomputable def cc (x : Int) : Nat := (TRI.filter fun y => decide (y < x)).length
noncomputable def restI (n b g : Nat) : Int := (n : Int) - TRI.getD b 0 - TRI.getD g 0
noncomputable def colR (n b g : Nat) : Nat := max b (cc (restI n b g))
noncomputable def itemF (n b g : Nat) : List (Nat × Nat × Nat) := if TRI.getD b 0 ≤ restI n b g ∧ TRI.getD (colR n b g) (-1) = restI n b g then [(colR n b g, g, b)] else []
noncomputable def rowF (n b k : Nat) : List (Nat × Nat × Nat) := (List.range k).flatMap fun j => itemF n b (b + j)
noncomputable def foundF (n k : Nat) : List (Nat × Nat × Nat) := (List.range k).flatMap fun b => rowF n b (9 - b)
theorem cc_le (x : Int) : cc x ≤ 9 := Nat.le_trans (List.length_filter_le _ _) (by decide)
noncomputable def okC (n : Nat) : Bool := (List.range 9).all fun b => (List.range (9 - b)).all fun j =>
  ((List.range 9).all fun i => (decide (TRI.getD i 0 < restI n b (b + j))) == (decide (i < cc (restI n b (b + j))))) &&
  (if restI n b (b + j) < TRI.getD b 0 then (List.range (9 - b)).all fun j' => decide (j' < j) || (itemF n b (b + j') == []) else true)
theorem okC_all : (List.range 36).all okC = true := by decide +kernel
theorem ok_at {n b j : Nat} (hn : n < 36) (hb : b < 9) (hj : j < 9 - b) : (∀ i, i < 9 → (TRI.getD i 0 < restI n b (b + j) ↔ i < cc (restI n b (b + j)))) ∧ (restI n b (b + j) < TRI.getD b 0 → ∀ j', j ≤ j' → j' < 9 - b → itemF n b (b + j') = []) := by
  have h1 := all_range okC_all hn
  have h2 := all_range (all_range h1 hb) hj
  rw [Bool.and_eq_true] at h2
  obtain ⟨h3, h4⟩ := h2
  refine ⟨fun i hi => ?_, fun hr j' h5 h6 => ?_⟩
  · have := eq_of_beq (all_range h3 hi)
    exact ⟨fun h => of_decide_eq_true (this ▸ decide_eq_true h), fun h => of_decide_eq_true (this.symm ▸ decide_eq_true h)⟩
  · rw [if_pos hr] at h4
    have := all_range h4 h6
    rw [Bool.or_eq_true] at this
    rcases this with h | h
    · have := of_decide_eq_true h; lia
    · exact eq_of_beq h
theorem rowF_succ (n b k : Nat) : rowF n b (k + 1) = rowF n b k ++ itemF n b (b + k) := by simp [rowF, List.range_succ]
theorem rowF_stop {n b j k : Nat} (hk : j ≤ k) (h : ∀ j', j ≤ j' → j' < k → itemF n b (b + j') = []) : rowF n b k = rowF n b j := by
  obtain ⟨d, rfl⟩ := Nat.exists_eq_add_of_le hk
  induction d with
  | zero => rfl
  | succ d ih =>
    rw [← Nat.add_assoc, rowF_succ, h (j + d) (by lia) (by lia), List.append_nil]
    exact ih (by lia) fun j' h1 h2 => h j' h1 (by lia)
theorem foundF_succ (n k : Nat) : foundF n (k + 1) = foundF n k ++ rowF n k (9 - k) := by simp [foundF, List.range_succ]
/-- a colour as a tuple -/
noncomputable def colS (c : Nat × Nat × Nat) : SV := .t (.p (.i (c.1 : Nat)) (.p (.i (c.2.1 : Nat)) (.p (.i (c.2.2 : Nat)) .nl)))
noncomputable def BisOk (v : Int) : Prop := ∀ i, i < TRI.length → (TRI.getD i 0 < v ↔ i < cc v)
noncomputable def φbis : SV → R2 := pOf fun a r => (liOf a).bind fun ns => pOf (fun b r2 => (iOf b).bind fun v => ((one1 fun l => (iOf l).bind fun lo => some (.i (max lo (min (cc v : Int) 9)), [ns = TRI, BisOk v, 0 ≤ lo])) r2).or (i2 (fun lo hi => some (.i (max lo (min (cc v : Int) hi)), [ns = TRI, BisOk v, 0 ≤ lo, hi ≤ 9])) r2)) r
theorem liOf_eq {x : SV} : OptP (fun l => x = .li l) (liOf x) := by cases x <;> first | rfl | trivial
theorem fn_bis : PureFn 67 2 φbis := fun ν us x hu => pOf_is hu fun a r u ur e h1 h2 => by
  cases hl : liOf a with
  | none => trivial
  | some ns =>
    cases liOf_eq.get hl
    refine pOf_is h2 fun b r2 v vr e2 h3 h4 => .bind (iOf_is h3) fun k hk => .or (one1_is h4 fun l w e3 h5 => .bind (iOf_is h5) fun lo hlo hc => ?_) (i2_is h4 fun lo hi t1 t2 e3 hc => ?_)
    · obtain ⟨t, rfl⟩ := hk
      obtain ⟨t', rfl⟩ := hlo
      subst e e2 e3
      obtain ⟨rfl, hx, h0, -⟩ := hc
      exact bisl_spec TRI k lo 9 (.v .none) (cc k) (.inr ⟨rfl, rfl⟩) (by decide) h0 (by decide) hx h1 ⟨t, rfl⟩ ⟨t', rfl⟩ rfl bnd_l3
    · obtain ⟨t, rfl⟩ := hk
      subst e e2 e3
      obtain ⟨rfl, hx, h0, hh, -⟩ := hc
      exact bisl_spec TRI k lo hi (.i hi) (cc k) (.inl rfl) (by decide) h0 hh hx h1 ⟨t, rfl⟩ ⟨t1, rfl⟩ ⟨t2, rfl⟩ bnd_l4
theorem pick_one : ∀ r : Nat, r < 10 → pickNums TRI (some (r : Int)) (some ((r : Int) + 1)) none = if r < 9 then [TRI.getD r (-1)] else [] := by decide +kernel
theorem colR_le {n b g : Nat} (hb : b < 9) : colR n b g < 10 := Nat.lt_succ_of_le (Nat.max_le.mpr ⟨Nat.le_of_lt hb, cc_le _⟩)
theorem tri_len {n b g : Nat} (h : TRI.getD (colR n b g) (-1) = restI n b g) (h0 : 0 ≤ restI n b g) : colR n b g < 9 := by
  refine Nat.lt_of_not_le fun h9 => ?_
  rw [List.getD_eq_getElem?_getD, List.getElem?_eq_none (show TRI.length ≤ _ from h9)] at h
  have h : (-1 : Int) = _ := h
  lia
theorem tri_nn : ∀ i : Nat, i < 9 → 0 ≤ TRI.getD i 0 := by decide
theorem rng9 : ∀ b : Nat, b < 9 → Builtin.Range.small (b : Int) 9 1 = true ∧ Builtin.Range.rangeSize (b : Int) 9 1 = ((9 - b : Nat) : Int) := by decide
theorem colR_i {n b g : Nat} (hb : b < 9) : max (b : Int) (min (cc (restI n b g) : Int) 9) = ((colR n b g : Nat) : Int) := by
  have := cc_le (restI n b g)
  unfold colR
  lia
theorem bis_ok {n b g : Nat} (hg : b ≤ g) : (decide (((colR n b g : Nat) : Int) < (b : Int)) || (max (b : Int) (min (cc (restI n b g) : Int) (g : Int)) != (if (g : Int) < ((colR n b g : Nat) : Int) then (g : Int) else ((colR n b g : Nat) : Int)))) = false := by
  have h1 : decide (((colR n b g : Nat) : Int) < (b : Int)) = false := decide_eq_false (Int.not_lt.mpr (Int.ofNat_le.mpr (Nat.le_max_left _ _)))
  rw [h1, Bool.false_or]
  refine bne_eq_false_iff_eq.mpr ?_
  unfold colR
  split <;> lia
theorem item_one {n b g : Nat} {x : Int} (hb : b < 9) (h0 : TRI.getD b 0 ≤ restI n b g) (hx : x = ((colR n b g : Nat) : Int)) : itemF n b g = if decide (pickNums TRI (some x) (some (x + 1)) none = [restI n b g]) = true then [(colR n b g, g, b)] else [] := by
  subst hx
  rw [pick_one _ (colR_le hb)]
  unfold itemF
  by_cases h9 : colR n b g < 9
  · rw [if_pos h9]
    by_cases h : TRI.getD (colR n b g) (-1) = restI n b g
    · rw [if_pos ⟨h0, h⟩, h, if_pos (decide_eq_true rfl)]
    · rw [if_neg fun q => h q.2, if_neg fun q => h (List.cons.inj (of_decide_eq_true q)).1]
  · rw [if_neg h9, if_neg fun q => h9 (tri_len q.2 (Int.le_trans (tri_nn b hb) h0)), if_neg (by simp)]
theorem foundF_len (n : Nat) : ∀ k, (foundF n k).length ≤ 9 * k := by
  have h1 : ∀ b g, (itemF n b g).length ≤ 1 := fun b g => by unfold itemF; split <;> simp
  have h2 : ∀ b k, (rowF n b k).length ≤ k := fun b k => by
    induction k with
    | zero => exact Nat.le_refl 0
    | succ k ih => rw [rowF_succ, List.length_append]; exact Nat.add_le_add ih (h1 _ _)
  intro k
  induction k with
  | zero => exact Nat.le_refl 0
  | succ k ih => rw [foundF_succ, List.length_append]; exact Nat.add_le_add ih (Nat.le_trans (h2 _ _) (Nat.sub_le _ _))
/-- what stays through the law's middle -/
noncomputable abbrev midS (n hf wh lg la sp : Nat) (x3 : Int) : Sg := [((Str.ofString "spin"), .i (sp : Nat)), ((Str.ofString "late"), .i (la : Nat)), ((Str.ofString "light"), .i (lg : Nat)), ((Str.ofString "white"), .i (wh : Nat)), ((Str.ofString "counts"), .li ((eDs (2 * hf)).map fun x : Nat => (x : Int))), ((Str.ofString "marks"), .li TRI), ((Str.ofString "top"), .i (2 * hf : Nat)), ((Str.ofString "n"), .i (n : Nat)), ((Str.ofString "draw"), .i x3)]
/-- where the search stands: the colours found, their places -/
noncomputable def FJ (n hf wh lg la sp : Nat) (x3 : Int) (qF qR : Addr) (fs : List (Nat × Nat × Nat)) (σ : Sg) (ν : Lg) : Prop := LT ν ∧ ∃ vs, IsL ν (chainOf (fs.map colS)) vs ∧ σ = ((Str.ofString "found"), .m qF vs) :: ((Str.ofString "row"), .v (.ref qR)) :: midS n hf wh lg la sp x3
noncomputable def FB (n hf wh lg la sp : Nat) (x3 : Int) (qF qR : Addr) (b : Nat) (fs : List (Nat × Nat × Nat)) (σ : Sg) (ν : Lg) : Prop := LT ν ∧ ∃ vs, IsL ν (chainOf (fs.map colS)) vs ∧ σ = ((Str.ofString "found"), .m qF vs) :: ((Str.ofString "row"), .v (.ref qR)) :: ((Str.ofString "b"), .i (b : Nat)) :: midS n hf wh lg la sp x3
section
variable {K : PC} {lv : Nat} {s0 : Shared} {σ : Sg} {ν : Lg} {R : Flow → Shared → Prop}
theorem law_C {n hf wh lg la sp : Nat} {x3 : Int} (H : LawK K) (G : PGood K lawSc 20) (ht : LT ν) (hn36 : n < 36)
    (h : ∀ qR ν', LT ν' → Tri K lawSc s0 false (((Str.ofString "row"), .m qR []) :: ((Str.ofString "found"), .l (chainOf ((foundF n 9).map colS))) :: midS n hf wh lg la sp x3) ν' (lawB 11) R) : Tri K lawSc s0 false (midS n hf wh lg la sp x3) ν (lawB 9) R := by
  have hk : PySem.Challenge.rw_uk0013_01 = PySem.Challenge.rw_uk0013_01 := rfl
  revert hk
  k_fill
  intro _
  show Tri _ _ _ _ _ _ (_ :: _ :: lawB 11) _
  refine tri_swapMM G fun qF qR G => ?_
  refine tri_forJ (n := 9) (fun b σ' ν' => FJ n hf wh lg la sp x3 qF qR (foundF n b) σ' ν') G (src_range G.env (ev_of G .nil) G (by rfl) (by trivial) (by rfl) (by rfl) (by rfl) (val := fun i => (i : Int)) (fun i => congrArg (· |> fun x : Int => x) (by lia))) (fun ν1 e => ⟨_, ⟨e ▸ ht, [], rfl, rfl⟩, AllSub.of rfl⟩) (fun X kl G b σ' ν' hb hj hkl => ?_) fun σ' ν' hj => ?_
  rotate_left
  · obtain ⟨h1, vs, h2, rfl⟩ := hj
    refine tri_freeze (x := (Str.ofString "found")) (.l (chainOf ((foundF n 9).map colS))) rfl (fun ν2 u hs ⟨m, e, hm⟩ => ⟨qF, vs, m, e, hm, h2.mono hs⟩) fun m => tri_unhide (w := (Str.ofString "row")) rfl rfl (tri_mono (h qR _ (h1.mono fun _ => .tail _)) (fun h => nomatch h) (fun _ h => h) (sub_of (AllSub.get (.of rfl))))
  obtain ⟨hlt, vs, hvs, rfl⟩ := hj
  have fin : ∀ σ2 ν2, FB n hf wh lg la sp x3 qF qR b (foundF n b ++ rowF n b (9 - b)) σ2 ν2 → (∀ p ∈ ν', p ∈ ν2) → Tri ((K.frs [(qR, listO [] 0)]).frs X) lawSc s0 false σ2 ν2 [] (FE (K.frs [(qR, listO [] 0)]) lawSc X kl s0 (fun σ' ν' => FJ n hf wh lg la sp x3 qF qR (foundF n (b + 1)) σ' ν') (lawB 11) R) := fun σ2 ν2 ⟨k1, vs2, k2, k3⟩ hs => by
    subst k3
    exact tri_fend (((Str.ofString "found"), .m qF vs2) :: ((Str.ofString "row"), .v (.ref qR)) :: midS n hf wh lg la sp x3) ν2 ⟨k1, vs2, foundF_succ n b ▸ k2, rfl⟩ (fun p hp => hs p (hkl p hp)) (fun _ h => h) (sub_of (AllSub.get (.of rfl)))
  refine tri_forJ (n := 9 - b) (fun j σ2 ν2 => FB n hf wh lg la sp x3 qF qR b (foundF n b ++ rowF n b j) σ2 ν2 ∧ ∀ p ∈ ν', p ∈ ν2) G (src_range G.env (ev_of G .nil) G (by rfl) (by trivial) (by rfl) (by exact (rng9 b hb).1) (by exact (rng9 b hb).2) (val := fun j => ((b + j : Nat) : Int)) (fun j => congrArg (_ + ·) (Int.mul_one _))) (fun ν1 e => ⟨_, ⟨⟨e ▸ hlt, vs, ?c1, rfl⟩, fun _ h => e ▸ h⟩, AllSub.of rfl⟩) (fun X2 kl2 G j σ2 ν2 hj hj2 hkl2 => ?_) fun σ2 ν2 hj2 => fin σ2 ν2 hj2.1 hj2.2
  case c1 =>
    show IsL _ (chainOf ((foundF n b ++ []).map colS)) vs
    rw [List.append_nil]
    exact e ▸ hvs
  obtain ⟨⟨hlt2, vs2, hvs2, rfl⟩, hsub2⟩ := hj2
  have hb9 : b + j < 9 := by lia
  obtain ⟨o1, o2⟩ := ok_at hn36 hb hj
  have ix : ∀ i : Nat, i < 9 → (0 : Int) ≤ i ∧ (i : Int).toNat < TRI.length ∧ TRI.length ≤ 1048576 := fun i h => ⟨Int.natCast_nonneg i, h, by decide⟩
  refine tri_asg G .nil rfl ⟨ix b hb, ix (b + j) hb9, trivial⟩ (tri_val (sv' := .i (restI n b (b + j))) rfl ?_)
  have O : OraOK (((K.frs [(qR, listO [] 0)]).frs X).frs X2) lawSc ν2 [((Str.ofString "bisect_left"), fun _ => φbis), ((Str.ofString "min"), fun _ => φmin)] := .cons (cal_fn G fn_bis at_bl is_bl (by decide)) (.cons (c_min G rfl) .nil)
  refine tri_asg G O rfl ⟨rfl, o1, Int.natCast_nonneg b, trivial⟩ (tri_val (congrArg SV.i (colR_i hb)) ?_)
  refine tri_if G O rfl ?c2 (fun h => ?_) fun _ => tri_next ?_
  case c2 => exact ⟨fun _ => ⟨rfl, o1, Int.natCast_nonneg b, Int.ofNat_le.mpr (Nat.le_of_lt hb9), trivial⟩, trivial⟩
  · cases (bis_ok (Nat.le_add_right b j)).symm.trans h
  refine tri_if G .nil rfl ⟨ix b hb, trivial⟩ (fun h => ?_) fun hge => tri_next ?_
  · refine tri_brk fun s hs => ?_
    refine PAt.el hs fun m cm κ D => ?_
    exact fin _ ν2 ⟨hlt2, vs2, (rowF_stop (Nat.le_of_lt hj) (o2 (of_decide_eq_true h))).symm ▸ hvs2, rfl⟩ hsub2 s (PAt.sub ⟨m, cm, κ, D.out⟩ (AllSub.of rfl))
  have hit := item_one hb (Int.not_lt.mp (of_decide_eq_false hge)) (rfl : ((colR n b (b + j) : Nat) : Int) = _)
  have hlen : vs2.length ≤ sizeLine := by
    rw [chain_len hvs2, List.length_map, List.length_append]
    have h1 := foundF_len n b
    have h2 := foundF_len n 9
    have h3 : (rowF n b j).length ≤ 9 := by
      have : ∀ k, (rowF n b k).length ≤ k := fun k => by
        induction k with
        | zero => exact Nat.le_refl 0
        | succ k ih => rw [rowF_succ, List.length_append]; exact Nat.add_le_add ih (by unfold itemF; split <;> simp)
      exact Nat.le_trans (this j) (by lia)
    exact Nat.le_trans (Nat.add_le_add h1 h3) (Nat.le_trans (show 9 * b + 9 ≤ 90 by lia) (by decide))
  have done : ∀ ν5 vs5, (∀ p ∈ ν2, p ∈ ν5) → IsL ν5 (chainOf ((foundF n b ++ rowF n b (j + 1)).map colS)) vs5 → FB n hf wh lg la sp x3 qF qR b (foundF n b ++ rowF n b (j + 1)) (((Str.ofString "found"), .m qF vs5) :: ((Str.ofString "row"), .v (.ref qR)) :: ((Str.ofString "b"), .i (b : Nat)) :: midS n hf wh lg la sp x3) ν5 ∧ ∀ p ∈ ν', p ∈ ν5 := fun ν5 vs5 h1 h2 => ⟨⟨hlt2.mono h1, vs5, h2, rfl⟩, fun p hp => h1 p (hsub2 p hp)⟩
  refine tri_ifE (SL := Ext ν2) (SR := Ext) (exE_slice (ev_of G .nil) (by rfl) (by rfl) (by rfl) (by trivial) (by rfl) (by trivial) (by rfl) (by trivial) (by decide) (fun u hu => ints_pick (by decide) hu) (fun l n => ⟨_, rfl⟩)) (fun ν3 _ => ex_sv (sv' := .li [restI n b (b + j)]) (ex_list (exl_ev G .nil rfl trivial) (Nat.le_of_ble_eq_true rfl)) fun ν' u ⟨q, us, k, e, hm, hu⟩ => ⟨q, us, k, e, hm, chain_li (l := [restI n b (b + j)]) hu⟩) (fun _ _ u _ S h => h.mono S) (cmp_li_eq G (by decide)) (fun h ν3 ν4 S3 S4 => ?_) (fun h ν3 ν4 S3 S4 => tri_next ?_)
  · rw [if_pos h] at hit
    refine tri_appendX (x := (Str.ofString "found")) G (ex_tup (exl_ev G .nil rfl trivial) (Nat.le_of_ble_eq_true rfl)) rfl hlen fun ν5 u S5 hu => tri_next ?_
    have hs : ∀ p ∈ ν2, p ∈ ν5 := fun p hp => S5 p (S4 p (S3 p hp))
    refine tri_fend (((Str.ofString "found"), .m qF (vs2 ++ [u])) :: ((Str.ofString "row"), .v (.ref qR)) :: ((Str.ofString "b"), .i (b : Nat)) :: midS n hf wh lg la sp x3) ν5 (done ν5 (vs2 ++ [u]) hs ?_) (fun p hp => hs p (hkl2 p hp)) (fun _ h => h) (sub_of (AllSub.get (.of rfl)))
    rw [rowF_succ, ← List.append_assoc, hit, List.map_append]
    exact chain_snoc hu (hvs2.mono hs)
  · rw [if_neg (Bool.eq_false_iff.mp h)] at hit
    refine tri_fend (((Str.ofString "found"), .m qF vs2) :: ((Str.ofString "row"), .v (.ref qR)) :: ((Str.ofString "b"), .i (b : Nat)) :: midS n hf wh lg la sp x3) ν4 (done ν4 vs2 (fun p hp => S4 p (S3 p hp)) (by rw [rowF_succ, hit, List.append_nil]; exact hvs2.mono fun p hp => S4 p (S3 p hp))) (fun p hp => S4 p (S3 p (hkl2 p hp))) (fun _ h => h) (sub_of (AllSub.get (.of rfl)))
end
end Mine
end
noncomputable section
open PySem PySem.W PyProof.Rows PySem.Spec PySem.Calls
namespace Mine
set_option genInjectivity false
set_option genSizeOf false
/-- what is needed ahead of a division -/
theorem div_ok {b : Int} (h : 0 < b ∧ b ≤ 1000) : b ≠ 0 ∧ b.natAbs < 1073741824 := by lia
theorem place1 {r b : Int} (h : b ≤ r ∧ r ≤ 8) (hb : 0 ≤ b) : 0 < (if 1 > r - b then 1 else r - b) ∧ (if 1 > r - b then 1 else r - b) ≤ 1000 := by split <;> lia
theorem place2 {r g b : Int} (h : ¬ g ≤ r) (hr : b ≤ r) (hg : g ≤ 8) (hb : 0 ≤ b) : 0 < g - b ∧ g - b ≤ 1000 := by lia
theorem place_spec' (r g b : Int) (hb : 0 ≤ b ∧ b ≤ 8) (hr : b ≤ r ∧ r ≤ 8) (hg : b ≤ g ∧ g ≤ 8) : Fn 197 1 (.p (.t (.p (.i r) (.p (.i g) (.p (.i b) .nl)))) .nl) (Val (.i (placeF r g b))) := by
  intro ν0 us hu
  refine IsL.e1 hu fun u1 i1 => ?_
  unfold MCk
  k_fill
  k_dflt refine' mc_tri (lv := 0) [((Str.ofString "colour"), u1)] [((Str.ofString "colour"), (.t (.p (.i r) (.p (.i g) (.p (.i b) .nl)))))] (fun P => ?ho) (fun P => ?hcd) (fun w s X => ?hb) ?hnd ?hkd ?hc0 ?h1 ?h2 ?h3 (fun ν hν => ?hs) (fun K ν s9 G hν lt hfz hcl hq => ?body)
  case ho => k_dflt k_is
  case hcd => k_dflt k_is
  case hb => exact BindsTo.of_eq rfl
  case hnd => exact (by decide : (["colour"].map Str.ofString).Nodup)
  case hkd => rfl
  case hc0 => exact List.nodup_nil
  case h1 => rfl
  case h2 => rfl
  case h3 => rfl
  case hs => exact ⟨rfl, .inl rfl, Is.mono hν i1, trivial⟩
  have O : OraOK K _ ν [(Str.ofString "max", fun _ => φmax)] := .cons (c_max G rfl) .nil
  refine tri_unp G .nil rfl trivial rfl ?_
  refine tri_if G .nil rfl trivial (fun h => ?_) fun h => tri_next ?_
  · exact tri_retV G O rfl ⟨mul_l (by decide), (div_ok (place1 hr hb.1)).1, (div_ok (place1 hr hb.1)).2, trivial⟩ (congrArg SV.i (if_pos (of_decide_eq_true h)).symm)
  · exact tri_retV G .nil rfl ⟨mul_l (by decide), (div_ok (place2 (of_decide_eq_false h) hr.1 hg.2 hb.1)).1, (div_ok (place2 (of_decide_eq_false h) hr.1 hg.2 hb.1)).2, trivial⟩ (congrArg SV.i (if_neg (of_decide_eq_false h)).symm)
noncomputable def fterm (w b a : Int) : Int := if (w.fmod a == 0 && decide (a * a ≤ w)) = true then (if (a == b || a * a == w) = true then 1 else 2) else 0
noncomputable def fsum (w b : Int) : Nat → Int
  | 0 => 0
  | i + 1 => fsum w b i + fterm w b (b + i)
noncomputable def fwhole (n b : Int) : Int := (b * b + 8 * n + 3).fdiv 4
noncomputable def ftot (n : Int) : Nat → Int
  | 0 => 0
  | i + 1 => ftot n i + fsum (fwhole n (1 + i * 2)) (1 + i * 2) (9 - 2 * i)
theorem forms0 {i : Nat} (h : i < 5) : (Builtin.Range.rangeSize (1 + (i : Int) * 2) 10 1 = ((9 - 2 * i : Nat) : Int) ∧ Builtin.Range.small (1 + (i : Int) * 2) 10 1 = true) ∧ (1 + (i : Int) * 2).natAbs < 2 ^ 64 := by
  obtain rfl | rfl | rfl | rfl | rfl : i = 0 ∨ i = 1 ∨ i = 2 ∨ i = 3 ∨ i = 4 := by lia
  all_goals exact ⟨⟨rfl, rfl⟩, by decide⟩
theorem forms1 {i k : Nat} (hi : i < 5) (hk : k < 9 - 2 * i) : (1 + (i : Int) * 2 + k) ≠ 0 ∧ (1 + (i : Int) * 2 + k).natAbs < 2 ^ 64 := by lia
theorem forms2 {a b c d : Int} (h : c = d) : some (SV.i (a + b + c)) = some (SV.i (a + (b + d))) := by rw [h, Int.add_assoc]
theorem forms_spec' (n : Int) (hn : 0 ≤ n ∧ n ≤ 35) : Fn 204 1 (.p (.i n) .nl) (Val (.i (ftot n 5))) := by
  intro ν0 us hu
  refine IsL.e1 hu fun u1 i1 => ?_
  unfold MCk
  k_fill
  k_dflt refine' mc_tri (lv := 0) [((Str.ofString "n"), u1)] [((Str.ofString "n"), (.i n))] (fun P => ?ho) (fun P => ?hcd) (fun w s X => ?hb) ?hnd ?hkd ?hc0 ?h1 ?h2 ?h3 (fun ν hν => ?hs) (fun K ν s9 G hν lt hfz hcl hq => ?body)
  case ho => k_dflt k_is
  case hcd => k_dflt k_is
  case hb => exact BindsTo.of_eq rfl
  case hnd => exact (by decide : (["n"].map Str.ofString).Nodup)
  case hkd => rfl
  case hc0 => exact List.nodup_nil
  case h1 => rfl
  case h2 => rfl
  case h3 => rfl
  case hs => exact ⟨rfl, .inl rfl, Is.mono hν i1, trivial⟩
  refine tri_asg G .nil rfl trivial ?_
  refine tri_forN (n := 5) (fun i => [((Str.ofString "count"), .i (ftot n i)), ((Str.ofString "n"), .i (n))]) G (src_range G.env (ev_of G .nil) G (by rfl) (by trivial) (by rfl) (by rfl) (by rfl) (val := fun i => 1 + i * 2) (fun i => rfl)) ⟨rfl, rfl, trivial⟩ (fun ν1 hν X kl G hl i hi => ?_) (fun ν1 hν => by subst hν; exact tri_retV G .nil rfl trivial rfl)
  subst hν
  have hsz := forms0 hi
  refine tri_asg G .nil rfl ⟨mul_l hsz.2, mul_l (by decide), by decide, by decide, trivial⟩ ?_
  refine tri_forN (n := 9 - 2 * i) (fun k => [((Str.ofString "count"), .i (ftot n i + fsum (fwhole n (1 + i * 2)) (1 + i * 2) k)), ((Str.ofString "n"), .i (n)), ((Str.ofString "b"), .i (1 + i * 2)), ((Str.ofString "whole"), .i (fwhole n (1 + i * 2)))]) G (src_range G.env (ev_of G .nil) G (by rfl) (by trivial) (by rfl) (by exact hsz.1.2) (by exact hsz.1.1) (val := fun k => 1 + i * 2 + k) (fun k => by exact congrArg _ (Int.mul_one _))) ⟨congrArg (fun t => some (SV.i t)) (Int.add_zero _).symm, rfl, rfl, rfl, trivial⟩ (fun ν2 hν2 X2 kl2 G hk2 k hk => ?_) fun ν2 hν2 => ?_
  · subst hν2
    have hf := forms1 hi hk
    refine tri_if G .nil rfl ⟨hf.1, fun _ => ⟨mul_l hf.2, trivial⟩, trivial⟩ (fun h => tri_aug G .nil rfl rfl ⟨fun _ => ⟨mul_l hf.2, trivial⟩, fun _ => trivial, fun _ => trivial, trivial⟩ rfl trivial (tri_next ?_)) fun h => tri_next ?_
    · exact tri_fends hk2 ⟨forms2 (if_pos h).symm, rfl, rfl, rfl, trivial⟩
    · exact tri_fends hk2 ⟨(congrArg (fun t => some (SV.i (_ + t))) ((congrArg (_ + ·) (if_neg (Bool.eq_false_iff.mp h))).trans (Int.add_zero _))).symm, rfl, rfl, rfl, trivial⟩
  · subst hν2
    exact tri_fends hl ⟨rfl, rfl, trivial⟩
end Mine
end
noncomputable section
open PySem PySem.W PyProof.Rows PySem.Spec PySem.Calls
namespace Mine
noncomputable abbrev Col : Type := Nat × Nat × Nat
noncomputable def plC (c : Col) : Int := placeF c.1 c.2.1 c.2.2
noncomputable def hueC (wh lg : Nat) (c : Col) : UInt64 := (readF c.1 c.2.1 c.2.2 wh lg).1
/-- where the colour of index k goes in a row of indexes -/
noncomputable def insI (la : Nat) (pl : List Int) (row : List Nat) (k : Nat) : Nat := (row.filter fun i => if la = 0 then decide (pl.getD i 0 < pl.getD k 0) else decide (pl.getD i 0 ≤ pl.getD k 0)).length
noncomputable def rowI (la : Nat) (pl : List Int) : Nat → List Nat
  | 0 => []
  | k + 1 => (rowI la pl k).take (insI la pl (rowI la pl k) k) ++ k :: (rowI la pl k).drop (insI la pl (rowI la pl k) k)
noncomputable def plsN (n : Nat) : List Int := (foundF n 9).map plC
theorem found_len : ∀ n : Nat, n < 36 → (foundF n 9).length ≤ 7 := by decide +kernel
theorem found_in : ∀ n : Nat, n < 36 → ∀ c ∈ foundF n 9, c.2.2 ≤ c.1 ∧ c.1 ≤ 8 ∧ c.2.2 ≤ c.2.1 ∧ c.2.1 ≤ 8 := by decide +kernel
theorem row_len (la : Nat) (pl : List Int) : ∀ k, (rowI la pl k).length = k
  | 0 => rfl
  | k + 1 => by
    have := row_len la pl k
    have h : insI la pl (rowI la pl k) k ≤ (rowI la pl k).length := List.length_filter_le _ _
    show (_ ++ _ :: _ : List Nat).length = _
    rw [List.length_append, List.length_cons, List.length_take, List.length_drop]; lia
noncomputable def rowOk (n la k : Nat) : Bool := decide (insI la (plsN n) (rowI la (plsN n) k) k ≤ k) && (List.range k).all fun i => decide ((rowI la (plsN n) k).getD i 0 < k) &&
  (if la = 0 then decide ((plsN n).getD ((rowI la (plsN n) k).getD i 0) 0 < (plsN n).getD k 0) == decide (i < insI la (plsN n) (rowI la (plsN n) k) k) else decide ((plsN n).getD k 0 < (plsN n).getD ((rowI la (plsN n) k).getD i 0) 0) == decide (insI la (plsN n) (rowI la (plsN n) k) k ≤ i))
theorem row_okAll : ((List.range 36).all fun n => (List.range 2).all fun la => (List.range (foundF n 9).length).all fun k => rowOk n la k) = true := by decide +kernel
theorem row_at {n la k : Nat} (hn : n < 36) (hl : la < 2) (hk : k < (foundF n 9).length) : insI la (plsN n) (rowI la (plsN n) k) k ≤ k ∧ ∀ i : Nat, i < k → (rowI la (plsN n) k).getD i 0 < k ∧
    (la = 0 → ((plsN n).getD ((rowI la (plsN n) k).getD i 0) 0 < (plsN n).getD k 0 ↔ i < insI la (plsN n) (rowI la (plsN n) k) k)) ∧ (la ≠ 0 → ((plsN n).getD k 0 < (plsN n).getD ((rowI la (plsN n) k).getD i 0) 0 ↔ insI la (plsN n) (rowI la (plsN n) k) k ≤ i)) := by
  have h := List.all_eq_true.mp (List.all_eq_true.mp (List.all_eq_true.mp row_okAll n (List.mem_range.mpr hn)) la (List.mem_range.mpr hl)) k (List.mem_range.mpr hk)
  unfold rowOk at h
  rw [Bool.and_eq_true, decide_eq_true_eq] at h
  refine ⟨h.1, fun i hi => ?_⟩
  have h2 := List.all_eq_true.mp h.2 i (List.mem_range.mpr hi)
  rw [Bool.and_eq_true, decide_eq_true_eq] at h2
  refine ⟨h2.1, fun e => ?_, fun e => ?_⟩
  · have h3 := h2.2
    rw [if_pos e, beq_iff_eq, decide_eq_decide] at h3; exact h3
  · have h3 := h2.2
    rw [if_neg e, beq_iff_eq, decide_eq_decide] at h3; exact h3
/-- a hue from the distances to the greatest part -/
noncomputable def hueX (dr dg db d : Nat) : UInt64 :=
  if d = 0 then 0 else
  let rc := Float64.div (q16 dr) (q16 d)
  let gc := Float64.div (q16 dg) (q16 d)
  let bc := Float64.div (q16 db) (q16 d)
  let h := if dr = 0 then Float64.sub bc gc else if dg = 0 then Float64.sub (Float64.add f2 rc) bc else Float64.sub (Float64.add f4 gc) rc
  (Float64.divmod (Float64.div h f6) f1).snd
section
variable {a b c : Nat}
theorem q_eq {x y : Nat} (hx : x ≤ 16) (hy : y ≤ 16) : ((Float64.cmp (q16 x) (q16 y) == some Ordering.eq) = true) ↔ x = y := by
  rw [q16_cmp x y hx hy]
  simp [Nat.compare_eq_eq]
theorem hsv_hue (ha : a ≤ 16) (hb : b ≤ 16) (hc : c ≤ 16) : (hsvOf (q16 a) (q16 b) (q16 c)).1 = hueX (max (max a b) c - a) (max (max a b) c - b) (max (max a b) c - c) (max (max a b) c - min (min a b) c) := by
  have hM : max (max a b) c ≤ 16 := Nat.max_le.mpr ⟨Nat.max_le.mpr ⟨ha, hb⟩, hc⟩
  have hm : min (min a b) c ≤ 16 := Nat.le_trans (Nat.min_le_right _ c) hc
  have la : a ≤ max (max a b) c := Nat.le_trans (Nat.le_max_left a b) (Nat.le_max_left _ c)
  have lb : b ≤ max (max a b) c := Nat.le_trans (Nat.le_max_right a b) (Nat.le_max_left _ c)
  have lm : min (min a b) c ≤ max (max a b) c := Nat.le_trans (Nat.min_le_right _ c) (Nat.le_max_right _ c)
  unfold hsvOf hueX
  dsimp only
  rw [max_q a b c ha hb hc, min_q a b c ha hb hc]
  rw [q16_sub _ a hM la, q16_sub _ b hM lb, q16_sub _ c hM (Nat.le_max_right _ c), q16_sub _ _ hM lm]
  have z : ∀ {p q : Nat}, p = q → q - p = 0 := fun e => Nat.sub_eq_zero_of_le (Nat.le_of_eq e.symm)
  have nz : ∀ {p q : Nat}, p ≤ q → ¬ p = q → ¬ q - p = 0 := fun l h e => h (Nat.le_antisymm l (Nat.le_of_sub_eq_zero e))
  by_cases h0 : min (min a b) c = max (max a b) c
  · rw [if_pos ((q_eq hm hM).mpr h0), if_pos (z h0)]
  · rw [if_neg (fun h => h0 ((q_eq hm hM).mp h)), if_neg (nz lm h0)]
    dsimp only
    congr 2
    by_cases h1 : a = max (max a b) c
    · rw [if_pos ((q_eq ha hM).mpr h1), if_pos (z h1)]
    · rw [if_neg (fun h => h1 ((q_eq ha hM).mp h)), if_neg (nz la h1)]
      by_cases h2 : b = max (max a b) c
      · rw [if_pos ((q_eq hb hM).mpr h2), if_pos (z h2)]
      · rw [if_neg (fun h => h2 ((q_eq hb hM).mp h)), if_neg (nz lb h2)]
theorem hls_hue (ha : a ≤ 16) (hb : b ≤ 16) (hc : c ≤ 16) : (hlsOf (q16 a) (q16 b) (q16 c)).1 = (hsvOf (q16 a) (q16 b) (q16 c)).1 := by
  unfold hlsOf hsvOf
  dsimp only
  split <;> rfl
end
noncomputable def HUE : List UInt64 := [0, 4599676419421066581, 4599676419421066581, 4599676419421066581, 4599676419421066581, 4599676419421066581, 4599676419421066581, 4599676419421066581, 4599676419421066581, 0, 4595172819793696085, 4598175219545276416, 4598675619503873137, 4598925819483171499, 4599075939470750515, 4599176019462469860, 4599247505170840820, 4599301119452119040, 0, 4590669220166325589, 4595172819793696085, 4597174419628082973, 4598175219545276416, 4598475459520434449, 4598675619503873137, 4598818590920615059, 4598925819483171499, 0, 4588167220373341981, 4592670820000712477, 4595172819793696085, 4596674019669486251, 4597574739594960349, 4598175219545276416, 4598389676670389296, 4598550519514223957, 0, 4586165620538955093, 4590669220166325589, 4593671619917905920, 4595172819793696085, 4596373779694328219, 4597174419628082973, 4597746305295050653, 4598175219545276416, 0, 4584964660638322960, 4589468260265693457, 4591870180066957721, 4593971859893063953, 4595172819793696085, 4596173619710889528, 4596888476794599131, 4597424619607381333, 0, 4583663620745971483, 4588167220373341981, 4590669220166325589, 4592670820000712477, 4594172019876502642, 4595172819793696085, 4596030648294147608, 4596674019669486251, 0, 4582519849412036123, 4587023449039406616, 4589811391665874067, 4591527048666777112, 4593242705667680159, 4594314991293244563, 4595172819793696085, 4595923419731591168, 0, 4581662020911584597, 4586165620538955093, 4589168020290535424, 4590669220166325589, 4592170420042115755, 4593671619917905920, 4594422219855801003, 4595172819793696085]
noncomputable def hueT (x y : Nat) : UInt64 := hueX (max x y - x) (max x y - y) (max x y) (max x y)
theorem hueT_lit : ∀ x : Fin 9, ∀ y : Fin 9, hueT x.1 y.1 = HUE.getD (9 * x.1 + y.1) 0 := by decide +kernel
noncomputable def plT (x y : Nat) : Int := if y ≤ x then ((420 * y / max x 1 : Nat) : Int) else 840 - ((420 * x / y : Nat) : Int)
theorem lit_lt : ((List.range 9).all fun x => (List.range 9).all fun y => (List.range 9).all fun z => (List.range 9).all fun w => (Float64.cmp (HUE.getD (9 * x + y) 0) (HUE.getD (9 * z + w) 0) == some Ordering.lt) == decide (plT x y < plT z w)) = true := by decide +kernel
theorem mx_add (b w x y : Nat) : max (max (b + x + w) (b + y + w)) (b + 0 + w) = b + w + max x y ∧ min (min (b + x + w) (b + y + w)) (b + 0 + w) = b + w := by
  constructor
  · rw [Nat.add_max_add_right, Nat.add_max_add_left, Nat.add_max_add_right, Nat.add_max_add_left, Nat.max_zero, Nat.add_right_comm]
  · rw [Nat.add_min_add_right, Nat.add_min_add_left, Nat.add_min_add_right, Nat.add_min_add_left, Nat.min_zero, Nat.add_zero]
theorem hueC_T {wh lg : Nat} {c : Col} (hw : wh ≤ 8) (h1 : c.2.2 ≤ c.1) (h2 : c.1 ≤ 8) (h3 : c.2.2 ≤ c.2.1) (h4 : c.2.1 ≤ 8) : hueC wh lg c = hueT (c.1 - c.2.2) (c.2.1 - c.2.2) := by
  obtain ⟨r, g, b⟩ := c
  dsimp only at *
  obtain ⟨x, rfl⟩ := Nat.exists_eq_add_of_le h1
  obtain ⟨y, rfl⟩ := Nat.exists_eq_add_of_le h3
  have ba := Nat.add_le_add h2 hw
  have bb := Nat.add_le_add h4 hw
  have bc := Nat.add_le_add (Nat.le_trans h1 h2) hw
  have e : hueC wh lg (b + x, b + y, b) = (hsvOf (q16 (b + x + wh)) (q16 (b + y + wh)) (q16 (b + wh))).1 := by
    unfold hueC readF
    split
    · exact hls_hue ba bb bc
    · rfl
  have m := mx_add b wh x y
  rw [Nat.add_zero] at m
  rw [e, hsv_hue ba bb bc, m.1, m.2, Nat.add_right_comm b x, Nat.add_right_comm b y, Nat.add_sub_add_left, Nat.add_sub_add_left, Nat.add_sub_cancel_left, Nat.add_sub_cancel_left, Nat.add_sub_cancel_left]
  rfl
theorem mx_one (x : Nat) : (if (1 : Int) > (x : Int) then (1 : Int) else (x : Int)) = ((max x 1 : Nat) : Int) := by split <;> lia
theorem sub_i (b x : Nat) : ((b + x : Nat) : Int) - (b : Int) = (x : Int) := by lia
theorem plC_T {c : Col} (h1 : c.2.2 ≤ c.1) (h3 : c.2.2 ≤ c.2.1) : plC c = plT (c.1 - c.2.2) (c.2.1 - c.2.2) := by
  obtain ⟨r, g, b⟩ := c
  dsimp only at *
  obtain ⟨x, rfl⟩ := Nat.exists_eq_add_of_le h1
  obtain ⟨y, rfl⟩ := Nat.exists_eq_add_of_le h3
  unfold plC placeF plT
  dsimp only
  rw [sub_i, sub_i, Nat.add_sub_cancel_left, Nat.add_sub_cancel_left]
  by_cases h : y ≤ x
  · rw [if_pos (Int.ofNat_le.mpr (Nat.add_le_add_left h b)), if_pos h, mx_one, Int.fdiv_eq_ediv_of_nonneg _ (Int.natCast_nonneg _), Int.natCast_ediv, Int.natCast_mul]
    rfl
  · rw [if_neg fun q => h (Nat.le_of_add_le_add_left (Int.ofNat_le.mp q)), if_neg h, Int.fdiv_eq_ediv_of_nonneg _ (Int.natCast_nonneg _), Int.natCast_ediv, Int.natCast_mul]
    rfl
theorem hue_lt {wh lg : Nat} {c d : Col} (hw : wh ≤ 8) (h1 : c.2.2 ≤ c.1 ∧ c.1 ≤ 8 ∧ c.2.2 ≤ c.2.1 ∧ c.2.1 ≤ 8) (h2 : d.2.2 ≤ d.1 ∧ d.1 ≤ 8 ∧ d.2.2 ≤ d.2.1 ∧ d.2.1 ≤ 8) : (Float64.cmp (hueC wh lg c) (hueC wh lg d) == some Ordering.lt) = decide (plC c < plC d) := by
  rw [hueC_T hw h1.1 h1.2.1 h1.2.2.1 h1.2.2.2, hueC_T hw h2.1 h2.2.1 h2.2.2.1 h2.2.2.2, plC_T h1.1 h1.2.2.1, plC_T h2.1 h2.2.2.1]
  have u : ∀ {p q : Nat}, p ≤ 8 → p - q < 9 := fun h => Nat.lt_succ_of_le (Nat.le_trans (Nat.sub_le _ _) h)
  have x1 := u (q := c.2.2) h1.2.1
  have y1 := u (q := c.2.2) h1.2.2.2
  have x2 := u (q := d.2.2) h2.2.1
  have y2 := u (q := d.2.2) h2.2.2.2
  have h := List.all_eq_true.mp (List.all_eq_true.mp (List.all_eq_true.mp (List.all_eq_true.mp lit_lt _ (List.mem_range.mpr x1)) _ (List.mem_range.mpr y1)) _ (List.mem_range.mpr x2)) _ (List.mem_range.mpr y2)
  rw [← hueT_lit ⟨_, x1⟩ ⟨_, y1⟩, ← hueT_lit ⟨_, x2⟩ ⟨_, y2⟩] at h
  exact beq_iff_eq.mp h
end Mine
end
noncomputable section
open PySem PySem.W PyProof.Rows PySem.Spec PySem.Calls
namespace Mine
/-! the list's sort on indexes, pure -/
noncomputable abbrev SP (α : Type) : Type := StateT (Array Nat) Option α
section
variable (κ : Nat → Int)
noncomputable def ltP (i j : Nat) : SP Bool := fun a => match a[i]?, a[j]? with
  | some x, some y => some (decide (κ x < κ y), a)
  | _, _ => none
noncomputable def revP (i j : Nat) : SP Unit := fun a => some ((), mirror a i j ((j - i) / 2))
noncomputable def movP (i j : Nat) : SP Unit := fun a => some ((), bubble a i (i - j))
noncomputable def forP {β : Type} (a b : Nat) (c : β) (f : Nat → β → SP (ForInStep β)) : SP β := forIn (List.range' a (b - a) 1) c f
noncomputable def ascP (a n : Nat) : SP AscSt := forP a n ((none, a) : AscSt) fun _ s => do
  let r ← ltP κ s.snd (s.snd - 1)
  if r = true then pure (.done (none, s.snd)) else pure (.yield (none, s.snd + 1))
noncomputable def descP (a n : Nat) : SP DescSt := forP a n ((none, a, 0) : DescSt) fun _ s => do
  let r ← ltP κ s.snd.fst (s.snd.fst - 1)
  if r = true then
    if s.snd.snd > 0 then do
      revP (s.snd.fst - (s.snd.snd + 1)) s.snd.fst
      pure (.yield (none, s.snd.fst + 1, 0))
    else pure (.yield (none, s.snd.fst + 1, 0))
  else do
    let q ← ltP κ (s.snd.fst - 1) s.snd.fst
    if q = true then pure (.done (none, s.snd.fst, s.snd.snd)) else pure (.yield (none, s.snd.fst + 1, s.snd.snd + 1))
noncomputable def endP (s : Option (Option Nat)) (n : Nat) : SP (Option Nat) := match s with
  | some r => pure r
  | none => pure (some n)
noncomputable def tailP (a n : Nat) : SP (Option Nat) := do
  revP 0 a
  let s ← ascP κ a n
  match s.fst with
  | some r => pure r
  | none => pure (some s.snd)
noncomputable def partP (a n : Nat) : SP (Option Nat) := do
  let s ← descP κ (a + 1) n
  match s.fst with
  | some r => pure r
  | none =>
    if s.snd.snd > 0 then do
      revP (s.snd.fst - (s.snd.snd + 1)) s.snd.fst
      tailP κ s.snd.fst n
    else tailP κ s.snd.fst n
noncomputable def countP (n : Nat) : SP (Option Nat) := do
  let s ← ascP κ 1 n
  match s.fst with
  | some r => pure r
  | none =>
    if (s.snd == n) = true then pure (some s.snd)
    else if s.snd > 1 then do
      let x ← ltP κ 0 (s.snd - 1)
      if x = true then pure (some s.snd) else do
        revP 0 s.snd
        partP κ s.snd n
    else partP κ s.snd n
noncomputable def binP (n ok : Nat) : SP Bool := do
  let s ← forP (max ok 1) n ((none, ()) : Option Bool × Unit) fun k _ => do
    let s ← forP 0 k ((none, 0, k) : Option Bool × Nat × Nat) fun _ s =>
      if s.snd.fst ≥ s.snd.snd then pure (.done (none, s.snd.fst, s.snd.snd))
      else do
        let r ← ltP κ k ((s.snd.fst + s.snd.snd) / 2)
        if r = true then pure (.yield (none, s.snd.fst, (s.snd.fst + s.snd.snd) / 2)) else pure (.yield (none, (s.snd.fst + s.snd.snd) / 2 + 1, s.snd.snd))
    match s.fst with
    | some r => pure (.done (some r, ()))
    | none => do
      movP k s.snd.fst
      pure (.yield (none, ()))
  match s.fst with
  | some r => pure r
  | none => pure true
noncomputable def runP (n : Nat) : SP Unit := do
  let m ← countP κ n
  match m with
  | none => fun _ => none
  | some m =>
    if m < n then do
      let b ← binP κ n m
      if b = true then pure () else fun _ => none
    else if m = n then pure () else fun _ => none
end
theorem map_swapIB {f : Nat → Keyed} (a : Array Nat) (i j : Nat) : (a.map f).swapIfInBounds i j = (a.swapIfInBounds i j).map f := by
  rw [Array.swapIfInBounds_def, Array.swapIfInBounds_def]
  by_cases hi : i < a.size
  · by_cases hj : j < a.size
    · rw [dif_pos (by rw [Array.size_map]; exact hi), dif_pos (by rw [Array.size_map]; exact hj), dif_pos hi, dif_pos hj]
      refine Array.ext_getElem? fun k => ?_
      rw [Array.getElem?_swap, Array.getElem?_map, Array.getElem?_map, Array.getElem?_swap, Array.getElem_map, Array.getElem_map]
      repeat' split
      all_goals rfl
    · rw [dif_pos (by rw [Array.size_map]; exact hi), dif_neg (by rw [Array.size_map]; exact hj), dif_pos hi, dif_neg hj]
  · rw [dif_neg (by rw [Array.size_map]; exact hi), dif_neg hi]
theorem map_foldl {f : Nat → Keyed} (p q : Nat → Nat) : ∀ (l : List Nat) (a : Array Nat), l.foldl (fun a k => a.swapIfInBounds (p k) (q k)) (a.map f) = (l.foldl (fun a k => a.swapIfInBounds (p k) (q k)) a).map f
  | [], a => rfl
  | k :: l, a => by rw [List.foldl_cons, List.foldl_cons, map_swapIB, map_foldl p q l]
section
variable {prog : Program} {w : World} {A : Around} {E : Value → Shared → Prop} {s : Shared} {κ : Nat → Int} {el : Nat → Keyed} {α β : Type}
structure Rel (el : Nat → Keyed) (st : SortSt) (arr : Array Nat) : Prop where
  kind : kindOf st = oneType'
  failed : failedOf st = none
  pend : pendingOf st = #[]
  arr : arrOf st = arr.map el
variable (prog w A E s el) in
noncomputable def Sim (m : StateT SortSt Sem α) (p : SP α) : Prop := ∀ (st : SortSt) (arr : Array Nat) (a : α) (arr' : Array Nat), Rel el st arr → p arr = some (a, arr') → ∀ Q : α → SortSt → Prop, (∀ st', Rel el st' arr' → Q a st') → wpS (model prog w) A E s m Q st
theorem Sim.pure {a : α} : Sim prog w A E s el (Pure.pure a) (Pure.pure a) := fun st arr a' arr' hR e Q h => by
  have e' : some (a, arr) = some (a', arr') := e
  cases e'
  exact wpS_pure (h st hR)
theorem Sim.bind {m : StateT SortSt Sem α} {p : SP α} {f : α → StateT SortSt Sem β} {g : α → SP β} (h1 : Sim prog w A E s el m p) (h2 : ∀ a, Sim prog w A E s el (f a) (g a)) : Sim prog w A E s el (m >>= f) (p >>= g) := fun st arr b arr' hR e Q h => by
  have e' : ((p arr).bind fun x => g x.1 x.2) = some (b, arr') := e
  cases q : p arr with
  | none => rw [q] at e'; cases e'
  | some x =>
    obtain ⟨a, arr1⟩ := x
    rw [q] at e'
    exact wpS_bind (h1 st arr a arr1 hR q _ fun st1 hR1 => h2 a st1 arr1 b arr' hR1 e' Q h)
theorem Sim.lt (hel : ∀ i, ∃ t v, el i = (.int (κ i) t, v)) {i j : Nat} {f : Option Bool → StateT SortSt Sem β} {g : Bool → SP β} (h : ∀ b, Sim prog w A E s el (f (some b)) (g b)) : Sim prog w A E s el (ltAt' i j >>= f) (ltP κ i j >>= g) := fun st arr b arr' hR e Q hQ => by
  have e' : ((ltP κ i j arr).bind fun x => g x.1 x.2) = some (b, arr') := e
  unfold ltP at e'
  cases hx : arr[i]? with
  | none => rw [hx] at e'; cases e'
  | some x =>
    cases hy : arr[j]? with
    | none => rw [hx, hy] at e'; cases e'
    | some y =>
      rw [hx, hy] at e'
      obtain ⟨t, v, ex⟩ := hel x
      obtain ⟨u, v2, ey⟩ := hel y
      refine wpS_bind (wpS_ltAt (a := κ x) (b := κ y) (t := t) (u := u) (p := v) (q := v2) hR.kind ?_ ?_ (h _ st arr b arr' hR e' Q hQ))
      · rw [hR.arr, Array.getElem?_map, hx, ← ex]; rfl
      · rw [hR.arr, Array.getElem?_map, hy, ← ey]; rfl
theorem Sim.rev {i j : Nat} {f : Unit → StateT SortSt Sem β} {g : Unit → SP β} (h : Sim prog w A E s el (f ()) (g ())) : Sim prog w A E s el (reverseSlice' i j >>= f) (revP i j >>= g) := fun st arr b arr' hR e Q hQ => by
  refine wpS_bind (wpS_reverse ?_)
  refine h (setArr st (mirror (arrOf st) i j ((j - i) / 2))) (mirror arr i j ((j - i) / 2)) b arr' ⟨hR.kind, hR.failed, hR.pend, ?_⟩ e Q hQ
  show mirror (arrOf st) i j ((j - i) / 2) = _
  rw [hR.arr]; exact map_foldl _ _ _ _
theorem Sim.mov {i j : Nat} {f : Unit → StateT SortSt Sem β} {g : Unit → SP β} (h : Sim prog w A E s el (f ()) (g ())) : Sim prog w A E s el (moveDown' i j >>= f) (movP i j >>= g) := fun st arr b arr' hR e Q hQ => by
  rw [moveDown'_eq]
  refine wpS_bind (wpS_modify ?_)
  refine h (setArr st (bubble (arrOf st) i (i - j))) (bubble arr i (i - j)) b arr' ⟨hR.kind, hR.failed, hR.pend, ?_⟩ e Q hQ
  show bubble (arrOf st) i (i - j) = _
  rw [hR.arr]; exact map_foldl _ _ _ _
theorem Sim.rule {x : String} {m : StateT SortSt Sem β} {p : SP β} (h : Sim prog w A E s el m p) : Sim prog w A E s el (do liftM (PySem.rule x); m) p := fun st arr b arr' hR e Q hQ =>
  wpS_bind (wpS_lift (wpAny_rule ⟨rfl, h st arr b arr' hR e Q hQ⟩))
theorem Sim.ite {P : Prop} [Decidable P] {m1 m2 : StateT SortSt Sem α} {p1 p2 : SP α} (h1 : P → Sim prog w A E s el m1 p1) (h2 : ¬ P → Sim prog w A E s el m2 p2) : Sim prog w A E s el (if P then m1 else m2) (if P then p1 else p2) := by
  by_cases h : P
  · rw [if_pos h, if_pos h]; exact h1 h
  · rw [if_neg h, if_neg h]; exact h2 h
theorem Sim.forL {f : Nat → β → StateT SortSt Sem (ForInStep β)} {g : Nat → β → SP (ForInStep β)} (h : ∀ i c, Sim prog w A E s el (f i c) (g i c)) : ∀ (l : List Nat) (c : β), Sim prog w A E s el (forIn l c f) (forIn l c g)
  | [], c => by rw [List.forIn_nil, List.forIn_nil]; exact Sim.pure
  | x :: l, c => by
    rw [List.forIn_cons, List.forIn_cons]
    refine Sim.bind (h x c) fun r => ?_
    cases r with
    | done b => exact Sim.pure
    | yield b => exact Sim.forL h l b
theorem Sim.forR {f : Nat → β → StateT SortSt Sem (ForInStep β)} {g : Nat → β → SP (ForInStep β)} {a b : Nat} {c : β} (h : ∀ i c, Sim prog w A E s el (f i c) (g i c)) : Sim prog w A E s el (forIn [a:b] c f) (forP a b c g) := by
  rw [Std.Legacy.Range.forIn_eq_forIn_range']
  have hsz : ([a:b] : Std.Legacy.Range).size = b - a := by simp [Std.Legacy.Range.size]
  show Sim prog w A E s el (forIn (List.range' a ([a:b] : Std.Legacy.Range).size 1) c f) _
  rw [hsz]
  exact Sim.forL h _ c
theorem wpS_neg {P : Prop} [Decidable P] {m1 m2 : StateT SortSt Sem α} {Q : α → SortSt → Prop} {st : SortSt} (h : ¬ P) (k : wpS (model prog w) A E s m2 Q st) : wpS (model prog w) A E s (if P then m1 else m2) Q st := by
  rw [if_neg h]; exact k
theorem wpS_pos {P : Prop} [Decidable P] {m1 m2 : StateT SortSt Sem α} {Q : α → SortSt → Prop} {st : SortSt} (h : P) (k : wpS (model prog w) A E s m1 Q st) : wpS (model prog w) A E s (if P then m1 else m2) Q st := by
  rw [if_pos h]; exact k
theorem spb {p : SP α} {f : α → SP β} {arr arr' : Array Nat} {b : β} {P : Prop} (h : (p >>= f) arr = some (b, arr')) (k : ∀ a arr1, p arr = some (a, arr1) → f a arr1 = some (b, arr') → P) : P := by
  have e' : ((p arr).bind fun x => f x.1 x.2) = some (b, arr') := h
  cases q : p arr with
  | none => rw [q] at e'; cases e'
  | some x => rw [q] at e'; exact k x.1 x.2 q e'
theorem spi {p q : SP α} {c : Prop} [Decidable c] {arr : Array Nat} {r : Option (α × Array Nat)} {P : Prop} (h : (if c then p else q) arr = r) (k1 : c → p arr = r → P) (k2 : ¬ c → q arr = r → P) : P := by
  by_cases hc : c
  · rw [if_pos hc] at h; exact k1 hc h
  · rw [if_neg hc] at h; exact k2 hc h
theorem spp {a b : α} {arr arr' : Array Nat} (h : (Pure.pure a : SP α) arr = some (b, arr')) : arr = arr' := by
  have e : some (a, arr) = some (b, arr') := h
  cases e; rfl
theorem no_some {r : α} {P : Prop} (h : none = some r) : P := by cases h
inductive RunI (el : Nat → Keyed) (arr' : Array Nat) (n : Nat) (st : SortSt) : Nat → Option Unit × Nat → SortSt → Prop
  | a : RunI el arr' n st 0 (none, 0) st
  | b {x : Nat} {st' : SortSt} : arrOf st' = arr'.map el → failedOf st' = none → (pendingOf st').size = 1 → RunI el arr' n st (x + 1) (none, n) st'
theorem RunI.fin {arr' : Array Nat} {n : Nat} {st st' : SortSt} {x : Nat} {c : Option Unit × Nat} (h : RunI el arr' n st x c st') (hx : x ≠ 0) : c = (none, n) ∧ arrOf st' = arr'.map el ∧ failedOf st' = none ∧ (pendingOf st').size = 1 := by
  cases h with
  | a => exact absurd rfl hx
  | b a b c => exact ⟨rfl, a, b, c⟩
variable (hel : ∀ i, ∃ t v, el i = (.int (κ i) t, v))
include hel
theorem Sim.asc {a n : Nat} : Sim prog w A E s el (ascLoop a n) (ascP κ a n) := by
  unfold ascLoop ascP
  refine Sim.forR fun i c => Sim.lt hel fun b => ?_
  exact Sim.ite (fun _ => Sim.pure) fun _ => Sim.pure
theorem Sim.desc {a n : Nat} : Sim prog w A E s el (descLoop a n) (descP κ a n) := by
  unfold descLoop descP
  refine Sim.forR fun i c => Sim.lt hel fun b => ?_
  refine Sim.ite (fun _ => ?_) fun _ => ?_
  · exact Sim.ite (fun _ => Sim.rev Sim.pure) fun _ => Sim.pure
  · exact Sim.lt hel fun b => Sim.ite (fun _ => Sim.pure) fun _ => Sim.pure
theorem Sim.tail {a n : Nat} : Sim prog w A E s el (tail3 a n) (tailP κ a n) := by
  unfold tail3 tailP
  refine Sim.rev (Sim.bind (Sim.asc hel) fun c => ?_)
  obtain ⟨r, m⟩ := c
  cases r with
  | none => exact Sim.pure
  | some r => exact Sim.pure
theorem Sim.part {a n : Nat} : Sim prog w A E s el (descPart a n) (partP κ a n) := by
  unfold descPart partP
  refine Sim.rule (Sim.bind (Sim.desc hel) fun c => ?_)
  obtain ⟨r, m, q⟩ := c
  cases r with
  | some r => exact Sim.pure
  | none => exact Sim.ite (fun _ => Sim.rev (Sim.tail hel)) fun _ => Sim.tail hel
theorem Sim.count {n : Nat} : Sim prog w A E s el (countRun' 0 n) (countP κ n) := by
  rw [countRun0_eq]
  unfold countP
  refine Sim.bind (Sim.asc hel) fun c => ?_
  obtain ⟨r, m⟩ := c
  cases r with
  | some r => exact Sim.pure
  | none =>
    refine Sim.ite (fun _ => Sim.pure) fun _ => Sim.ite (fun _ => Sim.lt hel fun b => ?_) fun _ => Sim.part hel
    exact Sim.ite (fun _ => Sim.pure) fun _ => Sim.rev (Sim.part hel)
theorem Sim.bin {n ok : Nat} : Sim prog w A E s el (binarySort' 0 n ok) (binP κ n ok) := by
  rw [binarySort'_eq]
  simp only [Nat.zero_add]
  unfold binP
  refine Sim.bind (Sim.forR fun k c => Sim.bind (Sim.forR fun i c => ?_) fun c => ?_) fun c => ?_
  · exact Sim.ite (fun _ => Sim.pure) fun _ => Sim.lt hel fun b => Sim.ite (fun _ => Sim.pure) fun _ => Sim.pure
  · obtain ⟨r, m, q⟩ := c
    cases r with
    | some r => exact Sim.pure
    | none => exact Sim.mov Sim.pure
  · obtain ⟨r, u⟩ := c
    cases r with
    | some r => exact Sim.pure
    | none => exact Sim.pure
theorem wpS_run {st : SortSt} {arr arr' : Array Nat} {Q : Unit → SortSt → Prop} (hR : Rel el st arr) (hrun : runP κ arr.size arr = some ((), arr')) (h2 : 2 ≤ arr.size) (h64 : arr.size < 64)
    (h : ∀ st', arrOf st' = arr'.map el → failedOf st' = none → Q () st') : wpS (model prog w) A E s sortRuns' Q st := by
  rw [sortRuns'_eq]
  refine wpS_bind (wpS_get ?_)
  dsimp only
  generalize hn : arr.size = n at *
  have hsz : (arrOf st).size = n := by rw [hR.arr, Array.size_map, hn]
  have hmr : minRun' n n 0 = n := by
    obtain ⟨f, hf⟩ : ∃ f, n = f + 1 := ⟨n - 1, by lia⟩
    have : minRun' (f + 1) n 0 = n := by rw [minRun'_succ, if_pos h64]; rfl
    rwa [← hf] at this
  rw [hsz, hmr]
  refine wpS_bind (wpS_mono (wpS_forRange
    (I := RunI el arr' n st)
    (Q := fun c st' => c = (none, n) ∧ arrOf st' = arr'.map el ∧ failedOf st' = none ∧ (pendingOf st').size = 1) ?step ?fin .a) ?post)
  case fin =>
    exact fun c st' h => h.fin (by lia)
  case step =>
    intro x c st' _ hx hI
    refine RunI.casesOn hI ?_ fun a b c => wpS_pos (Nat.le_refl _) (wpS_pure ⟨rfl, a, b, c⟩)
    · refine wpS_neg (by show ¬ 0 ≥ n; lia) ?_
      dsimp only
      rw [Nat.sub_zero, Nat.min_self, Nat.zero_add]
      refine spb hrun fun r arr1 q hrun2 => wpS_bind (Sim.count hel _ arr r arr1 hR q _ fun st2 hR2 => ?_)
      cases r with
      | none => exact no_some hrun2
      | some m =>
        refine spi hrun2 (fun hlt hrun2 => wpS_pos hlt ?_) fun hlt hrun2 => wpS_neg hlt (spi hrun2 (fun hm hrun2 => ?_) fun _ hrun2 => no_some hrun2)
        · refine spb hrun2 fun b arr2 q3 hrun3 => spi hrun3 (fun hb hrun3 => ?_) fun _ hrun3 => no_some hrun3
          have e2 := spp hrun3
          refine wpS_bind (wpS_lift (wpAny_rule ⟨rfl, wpS_bind (Sim.bin hel st2 arr1 b arr2 hR2 q3 _ fun st3 hR3 => ?_)⟩))
          refine wpS_neg (by rw [hb]; exact Bool.false_ne_true) (wpS_bind (wpS_get ?_))
          have hb : (pendingOf st3).back? = none := by rw [hR3.pend]; rfl
          rw [hb]
          exact wpS_bind (wpS_modify (wpS_pure (.b (e2 ▸ hR3.arr) hR3.failed (by show ((pendingOf st3).push _).size = 1; rw [hR3.pend]; rfl))))
        · have e2 := spp hrun2
          refine wpS_bind (wpS_get ?_)
          have hb : (pendingOf st2).back? = none := by rw [hR2.pend]; rfl
          rw [hb]
          exact wpS_bind (wpS_modify (wpS_pure ((Nat.zero_add m).symm ▸ hm ▸ .b (e2 ▸ hR2.arr) hR2.failed (by show ((pendingOf st2).push _).size = 1; rw [hR2.pend]; rfl))))
  case post =>
    rintro c st' ⟨rfl, hD⟩
    refine wpS_bind (wpS_mono (wpS_forRange (I := fun _ c st'' => st'' = st' ∧ c = (none, ())) (Q := fun c st'' => st'' = st' ∧ c = (none, ())) ?_ (fun _ _ hh => hh) ⟨rfl, rfl⟩) ?_)
    · rintro x c st'' _ _ ⟨rfl, rfl⟩
      exact wpS_bind (wpS_get (wpS_pos (by rw [hD.2.2]; exact Nat.le_refl 1) (wpS_pure ⟨rfl, rfl⟩)))
    · rintro c st'' ⟨rfl, rfl⟩
      exact wpS_pure (h _ hD.1 hD.2.1)
end
end Mine
end
noncomputable section
open PySem PySem.W PyProof.Rows PySem.Spec PySem.Calls
namespace Mine
/-- the indexes' order that the sort leaves -/
noncomputable def Ordered (kz : List Int) (n : Nat) (js : List Nat) : Prop := (2 ≤ n → runP (fun i => kz.getD i 0) n (Array.range n) = some ((), js.toArray)) ∧ (n < 2 → js = List.range n)
noncomputable def tokOf (keys : List Value) (i : Nat) : Tok := match keys.getD i .none with
  | .int _ t => t
  | _ => 0
noncomputable def elOf (keys : List Value) (kz : List Int) (vs : List Value) (i : Nat) : Keyed := (.int (kz.getD i 0) (tokOf keys i), vs.getD i .none)
theorem zip_el {keys : Array Value} {kz : List Int} {vs : List Value} (hk : IntsAre keys.toList kz) (hl : kz.length = vs.length) : keys.zip vs.toArray = (Array.range vs.length).map (elOf keys.toList kz vs) := by
  have hs : keys.size = vs.length := by
    have := hk.length
    rw [Array.length_toList] at this; lia
  refine Array.ext (by simp [hs]) fun i h1 h2 => ?_
  have hi : i < vs.length := by simpa [hs] using h1
  obtain ⟨t, e⟩ := hk.get i kz[i] (List.getElem?_eq_getElem (by lia))
  rw [Array.getElem_zip, Array.getElem_map, Array.getElem_range]
  unfold elOf tokOf
  rw [show keys.toList.getD i .none = .int kz[i] t by rw [List.getD_eq_getElem?_getD, e]; rfl, show kz.getD i 0 = kz[i] by rw [List.getD_eq_getElem?_getD, List.getElem?_eq_getElem]; rfl, show vs.getD i .none = vs[i] by rw [List.getD_eq_getElem?_getD, List.getElem?_eq_getElem]; rfl]
  have e2 : keys[i]? = some (.int kz[i] t) := by rw [← Array.getElem?_toList]; exact e
  refine Prod.ext ?_ ?_
  · show keys[i] = _
    rw [Array.getElem?_eq_getElem (by lia)] at e2
    exact Option.some.inj e2
  · show vs.toArray[i] = _
    rw [List.getElem_toArray]
section
variable {prog : Program} {w : World} {A : Around} {E : Value → Shared → Prop} {s : Shared} {h₀ : Heap} {L : Addr} {m : Str → Option Value} {news : List (Addr × Obj)} {a kS : Addr} {vs : List Value} {kz : List Int} {js : List Nat} {keys : Array Value} {e e1 : Nat} {P : PySem.Fin → Shared → Prop}
theorem srt_tail {st : SortSt} (F : Fr h₀ L s.heap m) (N : News h₀ L s.heap (news ++ [(kS, seqObj "list" keys e), (a, seqObj "list" #[] e1)])) (hka : kS ≠ a) (hnk : ∀ p ∈ news, p.1 ≠ kS) (hna : ∀ p ∈ news, p.1 ≠ a)
    (hks : keys.size < 64) (hst : (arrOf st).size < 64) (hfl : failedOf st = none)
    (h : ∀ h' tk c, Fr h₀ L h' m → News h₀ L h' ((a, seqObj "list" ((arrOf st).map (·.2)) c) :: news) → P (.done (.ret .none)) { s with heap := h', toks := tk }) :
    wpAny (model prog w) A (ksk_tail a false e1 (.ref kS) st) P E s := by
  have nk := N (kS, seqObj "list" keys e) (List.mem_append_right _ (.head _))
  have na := N (a, seqObj "list" #[] e1) (List.mem_append_right _ (.tail _ (.head _)))
  have s1 := Heap.SameBut.update s.heap kS (Obj.mapSeq fun _ => (#[] : Array Value))
  have na1 : (s.heap.update kS (Obj.mapSeq fun _ => (#[] : Array Value))).get? a = some (seqObj "list" #[] e1) := (s1.2 a hka.symm).trans na.1
  have s2 := Heap.SameBut.update (s.heap.update kS (Obj.mapSeq fun _ => (#[] : Array Value))) a (Obj.mapSeq fun _ => (arrOf st).map (·.2))
  obtain ⟨c2, hc2⟩ : ∃ c2, ((s.heap.update kS (Obj.mapSeq fun _ => (#[] : Array Value))).update a (Obj.mapSeq fun _ => (arrOf st).map (·.2))).get? a = some (seqObj "list" ((arrOf st).map (·.2)) c2) :=
    ⟨_, get?_update_seq na1 fun _ => (arrOf st).map (·.2)⟩
  have N2 := ksk_news (ksk_news (fun p hp => N p (List.mem_append_left _ hp)) s1 hnk) s2 hna
  unfold ksk_tail
  simp only [Bool.false_eq_true, if_false]
  refine wpAny_bind (listUpdate_at nk.1 rfl ?_ (by rw [sizeLine_eq]; lia) (Nat.zero_le _))
  refine wpAny_bind (wpAny_letGo ?_)
  refine wpAny_bind (seqEpoch_at na1 rfl ?_)
  refine wpAny_bind (listUpdate_at na1 rfl ?_ (Nat.zero_le _) (by rw [Array.size_map, sizeLine_eq]; lia))
  rw [hfl]
  simp only [bne_self_eq_false, Bool.false_eq_true, if_false]
  refine wpAny_pure (h _ _ c2 (ksk_fr (ksk_fr F s1 nk.2.1 nk.2.2) s2 na.2.1 na.2.2) (fun p hp => ?_))
  refine mem_c hp ?_ fun hp => ?_
  · exact ⟨hc2, na.2⟩
  · exact N2 p hp
theorem srt_end (F : Fr h₀ L s.heap m) (N : News h₀ L s.heap (news ++ [(kS, seqObj "list" keys e), (a, seqObj "list" #[] e1)])) (hka : kS ≠ a) (hnk : ∀ p ∈ news, p.1 ≠ kS) (hna : ∀ p ∈ news, p.1 ≠ a)
    (hk : IntsAre keys.toList kz) (hlen : kz.length = vs.length) (h64 : vs.length < 64) (hjl : js.length = vs.length) (ho : Ordered kz vs.length js)
    (h : ∀ h' tk c, Fr h₀ L h' m → News h₀ L h' ((a, seqObj "list" (js.map (vs.getD · .none)).toArray c) :: news) → P (.done (.ret .none)) { s with heap := h', toks := tk }) :
    wpAny (model prog w) A (ksk_end a false vs.toArray e1 (.ref kS) keys) P E s := by
  have hsz : keys.size = vs.length := by
    have := hk.length
    rw [Array.length_toList] at this; lia
  have hz := zip_el hk hlen
  have out : ∀ js' : List Nat, ((js'.toArray.map (elOf keys.toList kz vs)).map fun x => x.2) = (js'.map (vs.getD · .none)).toArray := fun js' => by
    rw [Array.map_map, List.map_toArray]; rfl
  unfold ksk_end
  simp only [Bool.false_eq_true, if_false]
  by_cases h2 : vs.toArray.size < 2
  · rw [if_pos h2, if_pos h2]
    rw [List.size_toArray] at h2
    refine wpAny_bind (wpAny_pure ?_)
    rw [StateT.run_pure]
    refine wpAny_bind (wpAny_pure ?_)
    refine srt_tail (st := SortSt.mk' general' (keys.zip vs.toArray) #[] 7 none) F N hka hnk hna (by lia) ?_ rfl fun h' tk c F' N' => h h' tk c F' ?_
    · show (keys.zip vs.toArray).size < 64
      rw [Array.size_zip, hsz, List.size_toArray]; lia
    · have e : (keys.zip vs.toArray).map (fun x : Keyed => x.2) = (js.map (vs.getD · .none)).toArray := by
        rw [hz, ho.2 h2, ← out, List.toArray_range]
      rw [← e]; exact N'
  · rw [if_neg h2, if_neg h2]
    rw [List.size_toArray] at h2
    rw [ksk_kind hk (by rw [hsz]; lia)]
    refine wpAny_bind (wpAny_pure ?_)
    refine wpAny_bind (wpAny_mono (wpS_run (el := elOf keys.toList kz vs) (κ := fun i => kz.getD i 0) (fun i => ⟨_, _, rfl⟩) (st := SortSt.mk' oneType' (keys.zip vs.toArray) #[] 7 none) (arr := Array.range vs.length) (arr' := js.toArray)
      (Q := fun _ st' => arrOf st' = js.toArray.map (elOf keys.toList kz vs) ∧ failedOf st' = none) ⟨rfl, rfl, rfl, hz⟩ (by rw [Array.size_range]; exact ho.1 (by lia)) (by rw [Array.size_range]; lia) (by rw [Array.size_range]; lia) fun st' a1 a2 => ⟨a1, a2⟩) ?_ fun _ _ e => e)
    rintro ⟨⟨⟩, st'⟩ s' ⟨rfl, hp, hf⟩
    refine srt_tail F N hka hnk hna (by lia) ?_ hf fun h' tk c F' N' => h h' tk c F' ?_
    · rw [hp, Array.size_map, List.size_toArray]; lia
    · rw [hp, out] at N'; exact N'
theorem srt_rest {f : Value} (F : Fr h₀ L s.heap m) (N : News h₀ L s.heap (news ++ [(kS, seqObj "list" #[] 0), (a, seqObj "list" #[] e1)])) (hka : kS ≠ a) (hnk : ∀ p ∈ news, p.1 ≠ kS) (hna : ∀ p ∈ news, p.1 ≠ a)
    (hlen : kz.length = vs.length) (h64 : vs.length < 64) (hjl : js.length = vs.length) (ho : Ordered kz vs.length js)
    (turn : ∀ (i : Nat) (v : Value) (k : Int), vs[i]? = some v → kz[i]? = some k → ∀ (h : Heap) (tk : Nat) (own : List (Addr × Obj)), Fr h₀ L h m → News h₀ L h (news ++ own) →
      wpAny (model prog w) A (call f [v]) (KskEnd h₀ L m (news ++ own) k { s with heap := h, toks := tk }) (fun _ _ => False) { s with heap := h, toks := tk })
    (h : ∀ h' tk c, Fr h₀ L h' m → News h₀ L h' ((a, seqObj "list" (js.map (vs.getD · .none)).toArray c) :: news) → P (.done (.ret .none)) { s with heap := h', toks := tk }) :
    wpAny (model prog w) A (ksk_rest a f false vs.toArray e1 (.ref kS)) P E s := by
  unfold ksk_rest
  refine wpAny_bind (wpAny_rule ?_)
  rw [List.forIn_toArray]
  refine wpAny_bind (ksk_fold (fun i s' => ∃ h' tk kA e, s' = { s with heap := h', toks := tk } ∧ Fr h₀ L h' m ∧ News h₀ L h' (news ++ [(kS, seqObj "list" kA e), (a, seqObj "list" #[] e1)]) ∧ IntsAre kA.toList (kz.take i)) vs 0 s
    ⟨s.heap, s.toks, #[], 0, rfl, F, N, .nil⟩ ?step ?done)
  case step =>
    rintro j x s' hx ⟨h', tk, kA, e, rfl, F', N', hk⟩
    rw [Nat.zero_add] at hk ⊢
    have hj : j < vs.length := (List.getElem?_eq_some_iff.mp hx).1
    have hkj : kz[j]? = some kz[j] := List.getElem?_eq_getElem (by lia)
    have hz : kA.size ≤ vs.length := by
      have h1 := hk.length
      rw [Array.length_toList, List.length_take] at h1; lia
    refine wpAny_bind (wpAny_attempt (wpAny_mono (turn j x kz[j] hx hkj h' tk _ F' N') (fun v s'' he => ?_) fun _ _ hF => hF.elim))
    obtain ⟨g, tk2, t2, rfl, rfl, F2, N2⟩ := he
    dsimp only
    have nk := N2 (kS, seqObj "list" kA e) (List.mem_append_right _ (.head _))
    have na := N2 (a, seqObj "list" #[] e1) (List.mem_append_right _ (.tail _ (.head _)))
    have s1 := Heap.SameBut.update g kS (Obj.mapSeq (·.push (.int kz[j] t2)))
    obtain ⟨c2, hc2⟩ : ∃ c2, (g.update kS (Obj.mapSeq (·.push (.int kz[j] t2)))).get? kS = some (seqObj "list" (kA.push (.int kz[j] t2)) c2) := ⟨_, get?_update_seq nk.1 (·.push (.int kz[j] t2))⟩
    refine wpAny_bind (listUpdate_at nk.1 rfl ?_ (by rw [sizeLine_eq]; lia) (by rw [Array.size_push, sizeLine_eq]; lia))
    refine wpAny_pure ⟨rfl, _, _, kA.push (.int kz[j] t2), c2, rfl, ksk_fr F2 s1 nk.2.1 nk.2.2, fun p hp => ?_, ?_⟩
    · rcases List.mem_append.mp hp with hp | hp
      · exact ksk_news (fun q hq => N2 q (List.mem_append_left _ hq)) s1 hnk p hp
      refine mem_c hp ?_ fun hp => ?_
      · exact ⟨hc2, nk.2⟩
      · rw [List.mem_singleton.mp hp]
        exact ⟨(s1.2 a hka.symm).trans na.1, na.2⟩
    · rw [List.take_add_one, hkj, Array.toList_push]
      exact ksk_snoc hk
  case done =>
    rintro s' ⟨h', tk, kA, e, rfl, F', N', hk⟩
    rw [Nat.zero_add, ← hlen, List.take_length] at hk
    refine wpAny_bind (listItems_at (N' (kS, seqObj "list" kA e) (List.mem_append_right _ (.head _))).1 rfl ?_)
    exact srt_end F' N' hka hnk hna hk hlen h64 hjl ho fun h3 tk3 c F3 N3 => h h3 tk3 c F3 N3
theorem srt_sort {f : Value} {n : Nat} (F : Fr h₀ L s.heap m) (N : News h₀ L s.heap news) (hv : s.heap.get? a = some (seqObj "list" vs.toArray n)) (haL : a ≠ L) (ha0 : h₀.get? a = none) (hna : ∀ p ∈ news, p.1 ≠ a)
    (hlen : kz.length = vs.length) (h64 : vs.length < 64) (hjl : js.length = vs.length) (ho : Ordered kz vs.length js)
    (turn : ∀ (i : Nat) (v : Value) (k : Int), vs[i]? = some v → kz[i]? = some k → ∀ (h : Heap) (tk : Nat) (own : List (Addr × Obj)), Fr h₀ L h m → News h₀ L h (news ++ own) →
      wpAny (model prog w) A (call f [v]) (KskEnd h₀ L m (news ++ own) k { s with heap := h, toks := tk }) (fun _ _ => False) { s with heap := h, toks := tk })
    (h : ∀ h' tk c, Fr h₀ L h' m → News h₀ L h' ((a, seqObj "list" (js.map (vs.getD · .none)).toArray c) :: news) → P (.done (.ret .none)) { s with heap := h', toks := tk }) :
    wpAny (model prog w) A (ksk_tree a f false) P E s := by
  have ha : a < s.heap.objs.size := Heap.lt_size hv
  have s1 := Heap.SameBut.update s.heap a (Obj.mapSeq fun _ => (#[] : Array Value))
  obtain ⟨e1, ho1⟩ : ∃ e1, (s.heap.update a (Obj.mapSeq fun _ => (#[] : Array Value))).get? a = some (seqObj "list" #[] e1) := ⟨_, get?_update_seq hv fun _ => #[]⟩
  have F1 := ksk_fr F s1 haL ha0
  have N1 := ksk_news N s1 hna
  have hkS : ((s.heap.update a (Obj.mapSeq fun _ => (#[] : Array Value))).push (seqObj "tuple" vs.toArray 0)).objs.size = s.heap.objs.size + 1 := by rw [size_push', Heap.size_update]
  have hLk : L < ((s.heap.update a (Obj.mapSeq fun _ => (#[] : Array Value))).push (seqObj "tuple" vs.toArray 0)).objs.size := (F1.push _).ns.lt
  unfold ksk_tree
  refine wpAny_bind (listItems_at hv rfl ?_)
  refine wpAny_bind (listUpdate_at hv rfl ?_ (by rw [List.size_toArray, sizeLine_eq]; lia) (Nat.zero_le _))
  refine wpAny_bind (seqEpoch_at ho1 rfl ?_)
  refine wpAny_bind (wpAny_newTuple ?_ (by show vs.length ≤ _; rw [sizeLine_eq]; lia))
  refine wpAny_bind (wpAny_newList ?_ (Nat.zero_le _))
  refine wpAny_holding ?_
  refine srt_rest (s := { s with heap := ((s.heap.update a (Obj.mapSeq fun _ => (#[] : Array Value))).push (seqObj "tuple" vs.toArray 0)).push (seqObj "list" #[] 0) }) (kS := ((s.heap.update a (Obj.mapSeq fun _ => (#[] : Array Value))).push (seqObj "tuple" vs.toArray 0)).objs.size)
    ((F1.push _).push _) (fun p hp => ?_) (by rw [hkS]; exact Nat.ne_of_gt (Nat.lt_succ_of_lt ha)) (fun p hp => by rw [hkS]; exact Nat.ne_of_lt (Nat.lt_succ_of_lt (Heap.lt_size (N p hp).1))) hna hlen h64 hjl ho turn h
  rcases List.mem_append.mp hp with hp | hp
  · exact ⟨Heap.get?_push_of_some _ (Heap.get?_push_of_some _ (N1 p hp).1), (N1 p hp).2⟩
  refine mem_c hp ?_ fun hp => ?_
  · exact ⟨Heap.get?_push_size _ rfl, Nat.ne_of_gt hLk, Heap.get?_none_of_le (Nat.le_trans F.above (Nat.le_of_lt hLk))⟩
  · rw [List.mem_singleton.mp hp]
    exact ⟨Heap.get?_push_of_some _ (Heap.get?_push_of_some _ ho1), haL, ha0⟩
end
section
variable {prog : Program} {w : World} {A : Around} {E : Value → Shared → Prop} {s : Shared} {h₀ : Heap} {L l q : Addr} {m : Str → Option Value} {news : List (Addr × Obj)} {vs : List Value} {js : List Nat} {Q : Value → Shared → Prop}
theorem srt_sorted {kz : List Int} (F : Fr h₀ L s.heap m) (N : News h₀ L s.heap news) (hl : s.heap.IsList l vs.toArray) (hlen : kz.length = vs.length) (h64 : vs.length < 64) (hjl : js.length = vs.length) (ho : Ordered kz vs.length js)
    (turn : ∀ (i : Nat) (v : Value) (k : Int), vs[i]? = some v → kz[i]? = some k → ∀ (h : Heap) (tk : Nat) (own : List (Addr × Obj)), Fr h₀ L h m → News h₀ L h (news ++ own) →
      wpAny (model prog w) A.in1.in1 (call (.ref q) [v]) (KskEnd h₀ L m (news ++ own) k { s with heap := h, toks := tk }) (fun _ _ => False) { s with heap := h, toks := tk })
    (h : ∀ D h' tk c, Fr h₀ L h' m → News h₀ L h' ((D, seqObj "list" (js.map (vs.getD · .none)).toArray c) :: news) → (∀ q ∈ news, @LT.lt Nat _ q.1 D) → Q (.ref D) { s with heap := h', toks := tk }) :
    wpAny (model prog w) A (call (.builtin "sorted") [.ref l] [(Str.ofString "key", .ref q)]) Q E s := by
  refine call_function_entry_kw kind_sorted plain_sorted entry_sorted (ksk_s1 _ _) ?_
  unfold Builtin.«sorted»
  refine wpAny_bind (m := checkCount "sorted" 1 1 _) (wpAny_pure ?_)
  refine wpAny_bind (collect_list hl ?_ (by rw [sizeLine_eq]; lia))
  refine wpAny_bind (wpAny_newList ?_ (by rw [sizeLine_eq]; lia))
  have hsz : ((s.heap.push (seqObj "list" #[] 0)).update s.heap.objs.size (Obj.mapSeq (· ++ vs.toArray))).objs.size = s.heap.objs.size + 1 := by
    rw [Heap.size_update, size_push']
  have hoL : (((s.heap.push (seqObj "list" #[] 0)).update s.heap.objs.size (Obj.mapSeq (· ++ vs.toArray))).push (seqObj "list" vs.toArray 0)).get? (s.heap.objs.size + 1) = some (seqObj "list" vs.toArray 0) := by
    rw [← hsz]; exact Heap.get?_push_size _ rfl
  have keep : ∀ b o, s.heap.get? b = some o → (((s.heap.push (seqObj "list" #[] 0)).update s.heap.objs.size (Obj.mapSeq (· ++ vs.toArray))).push (seqObj "list" vs.toArray 0)).get? b = some o := fun b o q => by
    have hlt : b < s.heap.objs.size := Heap.lt_size q
    rw [Heap.get?_push_ne _ _ _ (by rw [hsz]; exact Nat.ne_of_lt (Nat.lt_succ_of_lt hlt)), Heap.get?_update_ne _ _ _ _ (Nat.ne_of_lt hlt), Heap.get?_push_ne _ _ _ (Nat.ne_of_lt hlt)]
    exact q
  have hL : L < s.heap.objs.size := F.ns.lt
  show wpAny _ _ _ _ _ { s with heap := ((s.heap.push (seqObj "list" #[] 0)).update s.heap.objs.size (Obj.mapSeq (· ++ vs.toArray))).push (seqObj "list" vs.toArray 0) }
  rw [hsz]
  refine wpAny_bind (wpAny_holding (wpAny_call_entry_kw slot_list_sort ⟨_, hoL, rfl⟩ entry_list_sort ?body (ksk_l1 _ _)))
  case body =>
    show wpAny (model prog w) A.in1.in1 (Builtin.«list.sort» ⟨[.ref (s.heap.objs.size + 1)], _⟩) _ _ _
    rw [ksk_t1]
    refine srt_sort (s := { s with heap := ((s.heap.push (seqObj "list" #[] 0)).update s.heap.objs.size (Obj.mapSeq (· ++ vs.toArray))).push (seqObj "list" vs.toArray 0) })
      (F.kept keep) (N.grown keep) hoL (Nat.ne_of_gt (Nat.lt_succ_of_lt hL)) (Heap.get?_none_of_le (Nat.le_trans F.above (Nat.le_succ_of_le (Nat.le_of_lt hL))))
      (fun p hp => Nat.ne_of_lt (Nat.lt_succ_of_lt (Heap.lt_size (N p hp).1))) hlen h64 hjl ho turn fun h' tk c F' N' => ⟨_, rfl, ?_⟩
    exact wpAny_pure ⟨_, rfl, h _ h' tk c F' N' (fun q hq => Nat.lt_succ_of_lt (Heap.lt_size (N q hq).1))⟩
end
end Mine
end
noncomputable section
open PySem PySem.W PyProof.Rows PySem.Spec PySem.Calls
namespace Mine
set_option genInjectivity false
set_option genSizeOf false
/-- an entry of the row: what stands first in its second part -/
noncomputable def EntK (ν : Lg) (k : UInt64) (u : Value) : Prop := ∃ a y z, Is ν (.t (.p a (.p (.t (.p (.f k z) y)) .nl))) u
theorem EntK.keep {ν ν' : Lg} {k : UInt64} {u : Value} (h : EntK ν k u) (hk : Keep ν ν') : EntK ν' k u := h.imp fun a h => h.imp fun y h => h.imp fun z h => (hk.isX _).1 u h
theorem key_fn {f c' : Addr} {ν : Lg} {vs : List Value} {κ : Value → UInt64} {p0 p1 p2 p3 p4 p5 : Pos} {k1 k2 : Nat} {pm ctv : Value} {oc : Obj} {vcs : Array Value} {t : Tok} (hf : (f, kla_obj (Str.ofString "<lambda>") qL (lamA p0) (lamB p1 p2 p3 p4 p5 k1 k2) lamS [] pm c' ctv) ∈ ν) (hc : (c', oc) ∈ ν) (hdd : oc.data = .fields vcs) (hv : vcs[1]? = some (.str qL t)) (hE : ∀ u ∈ vs, EntK ν (κ u) u) : KeyFn f vs κ ν := by
  refine ⟨⟨_, _, _, _, hf⟩, fun u hu => ?_⟩
  obtain ⟨a, y, z, hi⟩ := hE u hu
  refine mc_lam [(Str.ofString "one", u)] ν (fun _ h => h) hf hc hdd hv rfl (by decide : (["one"].map Str.ofString).Nodup) (locs rfl) rfl rfl rfl (by decide) (Nat.le_refl 1) ?_
  intro w p loose mean mg mb news dp un gd outer A₀ base g L' s B X T hP hdp hun F N
  have G : PGood ⟨w, ktrTop dp un gd qL lamS L' f (.ref c') [] outer, qL, L', f, .ref c', [], [], g, [], []⟩ lamS 0 := ⟨rfl, .nil, fun _ h => h, .nil, fun _ _ h => h, p, loose, mean, mg, mb, dp, un, gd, outer, A₀, base, rfl, B, X, T, room1 hdp, room2 hun⟩
  have hs : PAt ⟨w, ktrTop dp un gd qL lamS L' f (.ref c') [] outer, qL, L', f, .ref c', [], [], g, [], []⟩ lamS news s [(Str.ofString "one", .t (.p a (.p (.t (.p (.f (κ u) z) y)) .nl)))] false s := ⟨_, fun _ => none, ([], []), rfl, F, fun p hp => N p ((List.mem_append.mp hp).elim id fun hp => (List.not_mem_nil hp).elim), .nil, .nil, (fun p hp q => (List.not_mem_nil q).elim), fun x sv hx => lk_set (P := fun sv => Kn lamS ⟨w, ktrTop dp un gd qL lamS L' f (.ref c') [] outer, qL, L', f, .ref c', [], [], g, [], []⟩ (ofL [(Str.ofString "one", u)]) (fun _ => none) [] news x sv) hx (fun e => .inl ⟨by rw [e]; rfl, u, by rw [e]; rfl, hi.mono hP⟩) fun _ hx => (nomatch hx), nofun⟩
  exact ev_ok (ev_of G .nil) (show ev [] [(Str.ofString "one", .t (.p a (.p (.t (.p (.f (κ u) z) y)) .nl)))] false (lamB p1 p2 p3 p4 p5 k1 k2) = some (.f (κ u) z, true, []) from rfl) trivial hs fun v s' hs' hv => done_ok hs' (fun _ h => h) ⟨rfl, by obtain ⟨t, e, _⟩ := hv; exact ⟨t, e, nofun⟩⟩
section
variable {K : PC} {ν : Lg} {s0 : Shared} {σ : Sg} {z : Bool} {s : Shared} {E Q : Value → Shared → Prop}
/-- a lambda made by the law -/
theorem lam_ok {p0 p1 p2 p3 p4 p5 pos : Pos} {k1 k2 : Nat} (G : PGood K lawSc 20) (H : LawK K) (ht : LT ν) (hs : PAt K lawSc ν s0 σ z s)
    (h : ∀ f ν' s', Keep ν ν' → LT ν' → (∀ vs κ, (∀ u ∈ vs, EntK ν' (κ u) u) → KeyFn f vs κ ν') → PAt K lawSc ν' s0 σ false s' → Q (.ref f) s') : wpAny (PM K.w) K.A (eval (.Lambda (lamA p0) (lamB p1 p2 p3 p4 p5 k1 k2) lamS pos) (K.env lawSc)) Q E s := by
  refine PAt.el hs fun m cm κ D => ?_
  obtain ⟨htb, ps, hP, hT⟩ := ht
  have one := D.one
  refine G.el fun pp loose mean mg mb dp un gd outer A₀ base eA B X T _ _ => ?_
  have hoff := D.O _ hP
  have isT : ∀ p ∈ ν, p.1 = 206 → isTab p.2 := fun p hp e => hT.isTab (one p hp _ hP e)
  have kp : ∀ p ∈ ν, ¬ isTab p.2 → p ∈ ν.filter fun p => p.1 != 206 := fun p hp hn => mem_but hp fun e => hn (isT p hp e)
  have hne : ∀ p ∈ K.hl κ ++ ν.filter (fun p => p.1 != 206), p.1 ≠ 206 := fun p hp => (List.mem_append.mp hp).elim (fun hp e => hoff (show 206 ∈ K.ha κ from e ▸ D.hid_of hp)) fun hp => bne_iff_ne.mp (List.mem_filter.mp hp).2
  have N : News K.g K.L s.heap ((206, tabObj ps) :: (K.hl κ ++ ν.filter fun p => p.1 != 206)) := fun p hp => (List.mem_cons.mp hp).elim (fun e => e ▸ D.N _ (List.mem_append_left _ hP)) fun hp => (List.mem_append.mp hp).elim (fun hp => D.N p (List.mem_append_right _ hp)) fun hp => D.N p (List.mem_append_left _ (List.mem_filter.mp hp).1)
  have hT' : LTab qL ps (ν.filter fun p => p.1 != 206) := by
    obtain ⟨es, e, he⟩ := hT
    exact ⟨es, e, fun x hx => by obtain ⟨oc, vs, t, a, b, c⟩ := he x hx; exact ⟨oc, vs, t, kp _ a (code_not_tab b c), b, c⟩⟩
  refine kla_eval rfl ?_
  rw [show (K.env lawSc).qual ++ (Str.ofString "<lambda>") = qL by unfold PC.env; rw [H.cn]; rfl]
  refine lam_any (clos := []) D.F N T H.cd H.ccd hne hT' rfl fun f c' oc vs t ctv pm ps' tl' h' tk F' N' hc hd hv hT2 h1 h2 h3 => ?_
  have hmem : ∀ p ∈ ν, ¬ isTab p.2 → p ∈ (f, kla_obj (Str.ofString "<lambda>") qL (lamA p0) (lamB p1 p2 p3 p4 p5 k1 k2) lamS [] pm c' ctv) :: (206, tabObj ps') :: tl' := fun p hp hn => .tail _ (.tail _ (h1 p (kp p hp hn)))
  refine h f ((f, kla_obj (Str.ofString "<lambda>") qL (lamA p0) (lamB p1 p2 p3 p4 p5 k1 k2) lamS [] pm c' ctv) :: (206, tabObj ps') :: tl') _ hmem ⟨?_, ps', .tail _ (.head _), hT2.mono fun _ h => .tail _ (.tail _ h)⟩ (fun vs2 κ2 hE => key_fn (.head _) (.tail _ (.tail _ hc)) hd hv hE) ⟨m, cm, κ, D.heap tk F' (fun p hp => N' p ?_) (fun p hp => ?_) fun sv u hu => (Keep.isX hmem sv).1 u hu⟩
  · intro T' hT3
    obtain ⟨ps2, t1, t2⟩ := htb T' hT3
    have hn206 : T'.1 ≠ 206 := by
      refine mem_c hT3 ?_ fun hT3 => ?_
      · decide
      · cases List.mem_singleton.mp hT3
        decide
    exact ⟨ps2, .tail _ (.tail _ (h1 _ (mem_but t1 hn206))), t2.keep hmem⟩
  · rcases List.mem_append.mp hp with hp | hp
    · refine mem_c hp ?_ fun hp => ?_
      · exact .head _
      refine mem_c hp ?_ fun hp => ?_
      · exact .tail _ (.head _)
      · exact .tail _ (.tail _ (List.mem_append_right _ hp))
    · exact .tail _ (.tail _ (List.mem_append_left _ hp))
  · intro hq
    obtain ⟨o, ho⟩ := D.hidden hq
    rcases List.mem_cons.mp hp with rfl | hp
    · exact Nat.lt_irrefl _ (h3 (f, o) (.tail _ (List.mem_append_left _ ho)))
    rcases List.mem_cons.mp hp with rfl | hp
    · exact hoff hq
    · rcases h2 p hp with hp | hp
      · exact D.O p (List.mem_filter.mp hp).1 hq
      · exact Nat.lt_irrefl _ (hp (p.1, o) (.tail _ (List.mem_append_left _ ho)))
theorem EntK.uniq {k k' : UInt64} {u : Value} (one : One ν) (h : EntK ν k u) (h' : EntK ν k' u) : k = k' := by
  obtain ⟨a, y, z, P, us, rfl, m1, v1, _, rfl, -, v2, _, rfl, ⟨D, ws, rfl, m2, w1, _, rfl, ⟨t, rfl, -⟩, -⟩, rfl⟩ := h
  obtain ⟨a', y', z', P', us', e, m1', v1', _, rfl, -, v2', _, rfl, ⟨D', ws', rfl, m2', w1', _, rfl, ⟨t', rfl, -⟩, -⟩, rfl⟩ := h'
  cases e
  have q := one _ m1 _ m1' rfl
  cases q
  have q := one _ m2 _ m2' rfl
  cases q
  rfl
/-- an entry's key, from what is known -/
noncomputable def keyOf (ν : Lg) (u : Value) : UInt64 := Classical.epsilon fun k => EntK ν k u
theorem keyOf_at {u : Value} {k : UInt64} (h : EntK ν k u) : EntK ν (keyOf ν u) u := Classical.epsilon_spec (p := fun k => EntK ν k u) ⟨k, h⟩
variable {R : Flow → Shared → Prop} {rest : List Stmt} {x y a sv : SV} {es : List Expr} {e : Expr} {lv' : Nat} {vs : List Value}
/-- f(x, e, key=lambda ..), which changes x -/
theorem tri_ins {f w : Str} {fa q : Addr} {np p kp pos p2 p0 p1 p3 p4 p5 p6 p7 : Pos} {k1 k2 : Nat} {T : Value → List Value → Prop} (G : PGood K lawSc 20) (H : LawK K) (ht : LT ν) (ha : ∀ P, nsIn (hd.heap_39 P) mainGlobals f = some (some (.ref fa))) (hfn : FnIs fa) (hlv : lv' ≤ 20) (hl : σ.lookup w = some (.m q vs)) (X : Ex K lawSc s0 z σ ν e sv (Ext ν)) (hvs : ∀ u ∈ vs, ∃ k, EntK ν k u) (hsv : ∀ ν' v, Is ν' sv v → ∃ k, EntK ν' k v)
    (C : ∀ ν' v κ, Keep ν ν' → Is ν' sv v → (∀ u k, EntK ν' k u → κ u = k) → ∀ kf n0 ν0, (q, listO vs n0) ∈ ν0 → KeyFn kf (v :: vs) κ ν0 → MCk fa lv' [.ref q, v] [(Str.ofString "key", .ref kf)] (fun n => ∀ p ∈ ν0, p ∈ n) (Mut q (T v)))
    (h : ∀ ν' v us, Keep ν ν' → LT ν' → Is ν' sv v → T v us → Tri K lawSc s0 false ((w, .m q us) :: σ) ν' rest R) (hn : noM w σ = true := by rfl) (hf : isGlo lawSc f = true := by rfl) (hst : noStar [e] = true := by rfl) (hi : interactive (K.env lawSc) = false := by rfl) (hsw : swapsWith (.Call (.Name f p) [.Name w np, e] [⟨some (Str.ofString "key"), .Lambda (lamA p0) (lamB p1 p3 p4 p5 p6 k1 k2) lamS p7, kp⟩] pos) none p2.line (K.env lawSc) = pure false := by rfl) :
    Tri K lawSc s0 z σ ν (.Expr (.Call (.Name f p) [.Name w np, e] [⟨some (Str.ofString "key"), .Lambda (lamA p0) (lamB p1 p3 p4 p5 p6 k1 k2) lamS p7, kp⟩] pos) p2 :: rest) R := fun s hs => by
  refine wpAny_execs_cons (wpAny_Expr (wpAny_Call_Name_kw (name_glob G.env G hf ha hs (callWith_of (P := FnAt fa) ?_ keeps_F (evalArgs_kw2 rfl (spliced_more (name_m G hs hl (spliced_more (X s _ _ hs fun v ν1 s1 hs1 S1 hv => spliced_none ?_) (star_cons (env := K.env lawSc) hst).1)) rfl) rfl)))) hi hsw)
  · show ((false || (backTo pos (starEach [e] (K.env lawSc))).any (·.1)) || false) = false
    rw [star_plain hst]
    rfl
  · refine wpAny_evalAll_cons (wpAny_bind (lam_ok G H (ht.mono S1) hs1 fun kf ν2 s2 kp lt2 kf2 hs2 => wpAny_bind (wpAny_standAt (wpAny_pure (wpAny_pure ⟨hs2.fnAt G hfn, ?_⟩)))))
    have kp' : Keep ν ν2 := fun p hp hn => kp p (S1 p hp) hn
    have hv2 : Is ν2 sv v := (kp.isX sv).1 v hv
    have hE : ∀ u ∈ v :: vs, EntK ν2 (keyOf ν2 u) u := fun u hu => (List.mem_cons.mp hu).elim (fun e => e ▸ (hsv ν2 v hv2).elim fun k hk => keyOf_at hk) fun hu => (hvs u hu).elim fun k hk => keyOf_at (hk.keep kp')
    have hK := kf2 (v :: vs) (keyOf ν2) hE
    refine call_M (T := T v) G hlv hl hn (fun m cm κ D => ?_) hs2 fun us hT s3 hs3 => h ν2 v us kp' lt2 hv2 hT s3 hs3
    obtain ⟨-, n0, hq⟩ := D.isM hl
    refine ⟨_, C ν2 v (keyOf ν2) kp' hv2 (fun u k hk => (keyOf_at hk).uniq D.one hk) kf n0 (ν2 ++ K.hl κ) (List.mem_append_right _ (List.mem_append_right _ (List.mem_append_left _ hq))) ⟨?_, fun u hu => mck_pre (hK.2 u hu) fun n hn p hp => hn p (List.mem_append_left _ hp)⟩, fun _ h => h⟩
    exact hK.1.imp fun _ h => h.imp fun _ h => h.imp fun _ h => h.imp fun _ h => List.mem_append_left _ h
end
end Mine
end
noncomputable section
open PySem PySem.W PyProof.Rows PySem.Spec PySem.Calls
namespace Mine
set_option genInjectivity false
set_option genSizeOf false
noncomputable abbrev colAt (fs : List Col) (j : Nat) : Col := fs.getD j (0, 0, 0)
theorem pls_at {n j : Nat} (hj : j < (foundF n 9).length) : (plsN n).getD j 0 = plC (colAt (foundF n 9) j) := by
  unfold plsN colAt
  rw [List.getD_eq_getElem?_getD, List.getElem?_map, List.getD_eq_getElem?_getD, List.getElem?_eq_getElem hj]; rfl
theorem col_in {n j : Nat} (hn : n < 36) (hj : j < (foundF n 9).length) : (colAt (foundF n 9) j).2.2 ≤ (colAt (foundF n 9) j).1 ∧ (colAt (foundF n 9) j).1 ≤ 8 ∧ (colAt (foundF n 9) j).2.2 ≤ (colAt (foundF n 9) j).2.1 ∧ (colAt (foundF n 9) j).2.1 ≤ 8 := by
  refine found_in n hn _ ?_
  unfold colAt
  rw [List.getD_eq_getElem?_getD, List.getElem?_eq_getElem hj]
  exact List.getElem_mem hj
/-- the hue of the row's place i -/
noncomputable def hueR (n la wh lg k i : Nat) : UInt64 := hueC wh lg (colAt (foundF n 9) ((rowI la (plsN n) k).getD i 0))
theorem key_r0 {n la k wh lg : Nat} (hn : n < 36) (hla : la < 2) (h0 : la = 0) (hw : wh ≤ 8) (hk : k < (foundF n 9).length) {i : Nat} (hi : i < k) : (Float64.cmp (hueR n la wh lg k i) (hueC wh lg (colAt (foundF n 9) k)) == some Ordering.lt) = true ↔ i < insI la (plsN n) (rowI la (plsN n) k) k := by
  have r := (row_at hn hla hk).2 i hi
  rw [hueR, hue_lt hw (col_in hn (Nat.lt_trans r.1 hk)) (col_in hn hk), ← pls_at (Nat.lt_trans r.1 hk), ← pls_at hk, decide_eq_true_eq]
  exact r.2.1 h0
theorem key_r1 {n la k wh lg : Nat} (hn : n < 36) (hla : la < 2) (h0 : la ≠ 0) (hw : wh ≤ 8) (hk : k < (foundF n 9).length) {i : Nat} (hi : i < k) : (Float64.cmp (hueC wh lg (colAt (foundF n 9) k)) (hueR n la wh lg k i) == some Ordering.lt) = true ↔ ¬ i < insI la (plsN n) (rowI la (plsN n) k) k := by
  have r := (row_at hn hla hk).2 i hi
  rw [hueR, hue_lt hw (col_in hn hk) (col_in hn (Nat.lt_trans r.1 hk)), ← pls_at (Nat.lt_trans r.1 hk), ← pls_at hk, decide_eq_true_eq, Nat.not_lt]
  exact r.2.2 h0
section
variable {ν ν' : Lg}
theorem chain_at : ∀ {l : List SV} {us : List Value} {i : Nat} {a : SV}, IsL ν (chainOf l) us → l[i]? = some a → ∃ u, us[i]? = some u ∧ Is ν a u
  | x :: r, _, 0, a, ⟨u, ur, e, h1, h2⟩, hi => by subst e; cases hi; exact ⟨u, rfl, h1⟩
  | x :: r, _, i + 1, a, ⟨u, ur, e, h1, h2⟩, hi => by subst e; exact (chain_at (l := r) (us := ur) (i := i) h2 hi : ∃ v, ur[i]? = some v ∧ Is ν a v)
theorem chain_app : ∀ {l l' : List SV} {us us' : List Value}, IsL ν (chainOf l) us → IsL ν (chainOf l') us' → IsL ν (chainOf (l ++ l')) (us ++ us')
  | [], _, _, _, h, h' => by cases (show _ = [] from h); exact h'
  | x :: r, _, _, _, ⟨u, ur, e, h1, h2⟩, h' => by subst e; exact ⟨u, _, rfl, h1, chain_app h2 h'⟩
theorem chain_cut : ∀ {l : List SV} {us : List Value} (c : Nat), IsL ν (chainOf l) us → IsL ν (chainOf (l.take c)) (us.take c) ∧ IsL ν (chainOf (l.drop c)) (us.drop c)
  | [], _, c, h => by cases (show _ = [] from h); rw [List.take_nil, List.drop_nil, List.take_nil, List.drop_nil]; exact ⟨rfl, rfl⟩
  | x :: r, _, 0, h => ⟨rfl, h⟩
  | x :: r, _, c + 1, ⟨u, ur, e, h1, h2⟩ => by subst e; exact ⟨⟨u, _, rfl, h1, (chain_cut c h2).1⟩, (chain_cut c h2).2⟩
theorem chain_ins {l : List SV} {us : List Value} {a : SV} {u : Value} (c : Nat) (h : IsL ν (chainOf l) us) (hu : Is ν a u) : IsL ν (chainOf (l.take c ++ a :: l.drop c)) (us.take c ++ u :: us.drop c) := chain_app (chain_cut c h).1 ⟨u, _, rfl, hu, (chain_cut c h).2⟩
/-- an entry of the row -/
noncomputable def entS (wh lg : Nat) (c : Col) : SV := .t (.p (colS c) (.p (.t (c3 (readF c.1 c.2.1 c.2.2 wh lg) true)) .nl))
theorem entS_key {wh lg : Nat} {c : Col} {u : Value} (h : Is ν (entS wh lg c) u) : EntK ν (hueC wh lg c) u := ⟨_, _, _, h⟩
/-- the row after k colours -/
noncomputable def rowS (n la wh lg k : Nat) : List SV := (rowI la (plsN n) k).map fun j => entS wh lg (colAt (foundF n 9) j)
theorem rowS_len {n la wh lg k : Nat} : (rowS n la wh lg k).length = k := (List.length_map ..).trans (row_len _ _ _)
theorem rowS_at {n la wh lg k i : Nat} (h : i < k) : (rowS n la wh lg k)[i]? = some (entS wh lg (colAt (foundF n 9) ((rowI la (plsN n) k).getD i 0))) := by
  have h' : i < (rowI la (plsN n) k).length := (row_len _ _ _).symm ▸ h
  rw [rowS, List.getElem?_map, List.getD_eq_getElem?_getD, List.getElem?_eq_getElem h']
  rfl
theorem row_key {n la wh lg k i : Nat} {vs : List Value} (h : IsL ν (chainOf (rowS n la wh lg k)) vs) (hi : i < k) : EntK ν (hueR n la wh lg k i) (vs.getD i .none) := by
  obtain ⟨u, h1, h2⟩ := chain_at h (rowS_at hi)
  rw [List.getD_eq_getElem?_getD, h1]
  exact entS_key h2
theorem row_vlen {n la wh lg k : Nat} {vs : List Value} (h : IsL ν (chainOf (rowS n la wh lg k)) vs) : vs.length = k := (chain_len h).trans rowS_len
theorem row_keys {n la wh lg k : Nat} {vs : List Value} (h : IsL ν (chainOf (rowS n la wh lg k)) vs) : ∀ u ∈ vs, ∃ q, EntK ν q u := fun u hu => by
  obtain ⟨i, hi, rfl⟩ := List.getElem_of_mem hu
  have := row_key h (row_vlen h ▸ hi)
  rw [List.getD_eq_getElem?_getD, List.getElem?_eq_getElem hi] at this
  exact ⟨_, this⟩
theorem rowS_succ {n la wh lg k : Nat} : rowS n la wh lg (k + 1) = (rowS n la wh lg k).take (insI la (plsN n) (rowI la (plsN n) k) k) ++ entS wh lg (colAt (foundF n 9) k) :: (rowS n la wh lg k).drop (insI la (plsN n) (rowI la (plsN n) k) k) := by
  unfold rowS
  rw [rowI, List.map_append, List.map_cons, List.map_take, List.map_drop]
end
end Mine
end
noncomputable section
open PySem PySem.W PyProof.Rows PySem.Spec PySem.Calls
namespace Mine
noncomputable def colD (c : Col) : PyData := .tuple [.int c.1, .int c.2.1, .int c.2.2]
theorem colD_lay : ∀ cs : List Col, PyData.canLayAll0 (cs.map colD) = true
  | [] => rfl
  | _ :: cs => by
    rw [List.map_cons, PyData.canLayAll0, colD_lay cs]; rfl
theorem colD_depth : ∀ cs : List Col, PyData.depthAll (cs.map colD) ≤ 1
  | [] => Nat.zero_le _
  | _ :: cs => by
    have := colD_depth cs
    rw [List.map_cons, PyData.depthAll]
    exact Nat.max_le.mpr ⟨by simp [colD, PyData.depth, PyData.depthAll], this⟩
theorem reads_cols {h : Heap} : ∀ {us : List Value} {cs : List Col}, us.length = cs.length → (∀ i, i < us.length → ∃ T t1 t2 t3, us[i]? = some (.ref T) ∧ h.get? T = some (tupO [.int ((cs.getD i (0, 0, 0)).1 : Int) t1, .int ((cs.getD i (0, 0, 0)).2.1 : Int) t2, .int ((cs.getD i (0, 0, 0)).2.2 : Int) t3])) → ∃ as, ReadsAll h us (cs.map colD) as
  | [], [], _, _ => ⟨_, .nil⟩
  | [], _ :: _, e, _ => by simp at e
  | _ :: _, [], e, _ => by simp at e
  | u :: us, c :: cs, e, H => by
    obtain ⟨as, ha⟩ := reads_cols (h := h) (us := us) (cs := cs) (by simpa using e) fun i hi => H (i + 1) (by simpa using hi)
    obtain ⟨T, t1, t2, t3, e1, e2⟩ := H 0 (by simp)
    have e1' : u = .ref T := Option.some.inj e1
    subst e1'
    exact ⟨_, .cons (reads_tuple_at e2 rfl rfl (.cons (.int _ _) (.cons (.int _ _) (.cons (.int _ _) .nil)))) ha⟩
noncomputable def ordJ (n la : Nat) : List Nat := (rowI la (plsN n) (foundF n 9).length).map fun i => if la = 0 then (foundF n 9).length - 1 - i else i
noncomputable def ordK (n la : Nat) : List Int := if la = 0 then (plsN n).reverse else plsN n
noncomputable def ordOk (n la : Nat) : Bool := (decide ((foundF n 9).length < 2) || ((runP (fun i => (ordK n la).getD i 0) (foundF n 9).length (Array.range (foundF n 9).length)).map fun x => x.2.toList) == some (ordJ n la)) && (decide (2 ≤ (foundF n 9).length) || ordJ n la == List.range (foundF n 9).length) && (rowI la (plsN n) (foundF n 9).length).all fun i => decide (i < (foundF n 9).length)
theorem ord_all : ((List.range 36).all fun n => (List.range 2).all fun la => ordOk n la) = true := by decide +kernel
theorem ord_at {n la : Nat} (hn : n < 36) (hl : la < 2) : Ordered (ordK n la) (foundF n 9).length (ordJ n la) ∧ ∀ i ∈ rowI la (plsN n) (foundF n 9).length, i < (foundF n 9).length := by
  have h := List.all_eq_true.mp (List.all_eq_true.mp ord_all n (List.mem_range.mpr hn)) la (List.mem_range.mpr hl)
  unfold ordOk at h
  rw [Bool.and_eq_true, Bool.and_eq_true, Bool.or_eq_true, Bool.or_eq_true, decide_eq_true_eq, decide_eq_true_eq] at h
  obtain ⟨⟨h1, h2⟩, h3⟩ := h
  refine ⟨⟨fun k => ?_, fun k => ?_⟩, fun i hi => by have := List.all_eq_true.mp h3 i hi; exact of_decide_eq_true this⟩
  · rcases h1 with h1 | h1
    · omega
    · have h1 := beq_iff_eq.mp h1
      cases q : runP (fun i => (ordK n la).getD i 0) (foundF n 9).length (Array.range (foundF n 9).length) with
      | none => rw [q] at h1; cases h1
      | some x =>
        obtain ⟨u, x⟩ := x
        rw [q] at h1
        have e : x.toList = ordJ n la := Option.some.inj h1
        rw [← e]
  · rcases h2 with h2 | h2
    · omega
    · exact beq_iff_eq.mp h2
theorem ord_vals {n la : Nat} (hn : n < 36) (hl : la < 2) {vs : List Value} (hv : vs.length = (foundF n 9).length) : (ordJ n la).map ((if la = 0 then vs.reverse else vs).getD · .none) = (rowI la (plsN n) (foundF n 9).length).map (vs.getD · .none) := by
  unfold ordJ
  rw [List.map_map]
  refine List.map_congr_left fun i hi => ?_
  have hi := (ord_at hn hl).2 i hi
  by_cases h : la = 0
  · simp only [h, if_true, Function.comp]
    rw [List.getD_eq_getElem?_getD, List.getElem?_reverse (by omega), List.getD_eq_getElem?_getD]
    congr 2; omega
  · simp only [h, if_false, Function.comp]
theorem ordK_len {n la : Nat} : (ordK n la).length = (foundF n 9).length := by unfold ordK plsN; split <;> simp
theorem ordJ_len {n la : Nat} : (ordJ n la).length = (foundF n 9).length := by unfold ordJ; rw [List.length_map, row_len]
theorem ordK_at {n la i : Nat} (hi : i < (foundF n 9).length) : (ordK n la)[i]? = some (plC (colAt (foundF n 9) (if la = 0 then (foundF n 9).length - 1 - i else i))) := by
  unfold ordK plsN colAt
  by_cases h : la = 0
  · rw [if_pos h, if_pos h, List.getElem?_reverse (by simpa using hi), List.getElem?_map, List.length_map, List.getD_eq_getElem?_getD, List.getElem?_eq_getElem (by omega)]; rfl
  · rw [if_neg h, if_neg h, List.getElem?_map, List.getD_eq_getElem?_getD, List.getElem?_eq_getElem hi]; rfl
end Mine
end
noncomputable section
open PySem PySem.W PyProof.Rows PySem.Spec PySem.Calls
namespace Mine
/-- the found colours sorted by place -/
theorem sorted_place {w : World} {p : Program} {loose : List Str} {mean : ExcName → Option Value} {mg mb : Str → Option Value} {news : List (Addr × Obj)} {dp un : Nat} {gd : Option (List Code)} {cn : Str} {cs : Scope} {a : Addr} {ccd : Value} {cl : List (Str × Addr)} {outer : List Env} {A₀ : Around} {base h₀ : Heap} {L : Addr} {m : Str → Option Value} {s : Shared} {Q E : Value → Shared → Prop}
    {n la c : Nat} {l : Addr} {vs : List Value} (hn : n < 36) (hla : la < 2) (hv : vs.length = (foundF n 9).length)
    (hc : ∀ i, i < (foundF n 9).length → ∃ T t1 t2 t3, vs[i]? = some (.ref T) ∧ (T, tupO [.int ((colAt (foundF n 9) i).1 : Int) t1, .int ((colAt (foundF n 9) i).2.1 : Int) t2, .int ((colAt (foundF n 9) i).2.2 : Int) t3]) ∈ news)
    (hl : (l, W.listOf (if la = 0 then vs.reverse else vs).toArray c) ∈ news)
    (B : Below A₀ base outer h₀) (F : Fr h₀ L s.heap m) (X : (hd.heap_39 w.params).In h₀) (N : News h₀ L s.heap news) (T : Top p loose mean mg mb h₀) (hk : cs.kind = .function) (hd : dp + 10 < recursionLimit) (hu : un + 102 < cLine)
    (h : ∀ D h' tk c, Fr h₀ L h' m → News h₀ L h' ((D, W.listOf ((rowI la (plsN n) (foundF n 9).length).map (vs.getD · .none)).toArray c) :: news) → (∀ q ∈ news, @LT.lt Nat _ q.1 D) → Q (.ref D) { s with heap := h', toks := tk }) :
    wpAny (model PySem.Challenge.rw_uk0013_01.row.prog w) (ktrTop dp un gd cn cs L a ccd cl outer) (call (.builtin "sorted") [.ref l] [(Str.ofString "key", .ref 197)]) Q E s := by
  have hl7 := found_len n hn
  have hvl : (if la = 0 then vs.reverse else vs).length = (foundF n 9).length := by split <;> simp [hv]
  refine srt_sorted (vs := if la = 0 then vs.reverse else vs) (kz := ordK n la) (js := ordJ n la) F N ⟨_, (N _ hl).1, rfl, _, rfl⟩ (by rw [ordK_len, hvl]) (by rw [hvl]; omega) (by rw [ordJ_len, hvl]) (by rw [hvl]; exact (ord_at hn hla).1) (fun i v k hvi hki h2 tk2 own F2 N2 => ?_) fun D h' tk c F' N' lt => h D h' tk c F' ?_ lt
  · have hi : i < (foundF n 9).length := by rw [← hvl]; exact (List.getElem?_eq_some_iff.mp hvi).1
    rw [ordK_at hi] at hki
    have hj : (if la = 0 then (foundF n 9).length - 1 - i else i) < (foundF n 9).length := by split <;> omega
    have hvj : vs[if la = 0 then (foundF n 9).length - 1 - i else i]? = some v := by
      by_cases q : la = 0
      · rw [if_pos q] at hvi ⊢
        rw [List.getElem?_reverse (by omega), hv] at hvi
        exact hvi
      · rw [if_neg q] at hvi ⊢; exact hvi
    generalize (if la = 0 then (foundF n 9).length - 1 - i else i) = j at hki hj hvj
    obtain rfl := Option.some.inj hki
    obtain ⟨Tc, t1, t2, t3, e1, e2⟩ := hc j hj
    rw [hvj] at e1
    obtain rfl := Option.some.inj e1
    have hci := col_in hn hj
    have nn : ∀ x : Nat, x ≤ 8 → (0 : Int) ≤ x ∧ (x : Int) ≤ 8 := fun x h => ⟨Int.natCast_nonneg x, Int.ofNat_le.mpr h⟩
    obtain ⟨b1, b2, b3, b4⟩ := hci
    refine mck_use (un := un + 1 + 1) (place_spec' (colAt (foundF n 9) j).1 (colAt (foundF n 9) j).2.1 (colAt (foundF n 9) j).2.2 (nn _ (Nat.le_trans b1 b2)) ⟨Int.ofNat_le.mpr b1, Int.ofNat_le.mpr b2⟩ ⟨Int.ofNat_le.mpr b3, Int.ofNat_le.mpr b4⟩ news [.ref Tc] ⟨_, _, rfl, ⟨Tc, _, rfl, e2, _, _, rfl, ⟨t1, rfl⟩, _, _, rfl, ⟨t2, rfl⟩, _, _, rfl, ⟨t3, rfl⟩, rfl⟩, rfl⟩) B F2 X N2 T hk (fun p hp => List.mem_append_left _ hp) (by omega) (by omega) ?_
    rintro v' n' h' tk' ⟨rfl, t, rfl⟩ F3 N3
    exact KskEnd.intro F3 N3 fun p hp => hp
  · rw [ord_vals hn hla hv] at N'; exact N'
end Mine
end
noncomputable section
open PySem PySem.W PyProof.Rows PySem.Spec PySem.Calls
namespace Mine
set_option genInjectivity false
set_option genSizeOf false
theorem at_185 : ∀ P, nsIn (hd.heap_39 P) mainGlobals (Str.ofString "_law_read") = some (some (.ref 185)) := fun P => by k_dflt k_is
theorem is_185 : FnIs 185 := fun P => ⟨_, _, _, _, by k_dflt k_is⟩
theorem at_il : ∀ P, nsIn (hd.heap_39 P) mainGlobals (Str.ofString "insort_left") = some (some (.ref 58)) := fun P => by k_dflt k_is
theorem is_il : FnIs 58 := fun P => ⟨_, _, _, _, by k_dflt k_is⟩
theorem at_ir : ∀ P, nsIn (hd.heap_39 P) mainGlobals (Str.ofString "insort_right") = some (some (.ref 40)) := fun P => by k_dflt k_is
theorem is_ir : FnIs 40 := fun P => ⟨_, _, _, _, by k_dflt k_is⟩
theorem found_col {n k : Nat} (h : k < (foundF n 9).length) : ((nth (chainOf ((foundF n 9).map colS)) k).getD .nl) = colS (colAt (foundF n 9) k) := by
  have go : ∀ (l : List Col) (k : Nat), k < l.length → ((nth (chainOf (l.map colS)) k).getD .nl) = colS (colAt l k) := fun l => by
    induction l with
    | nil => exact fun k h => absurd h (Nat.not_lt_zero k)
    | cons a r ih =>
      intro k h
      cases k with
      | zero => rfl
      | succ k => exact ih k (Nat.lt_of_succ_lt_succ h)
  exact go _ k h
theorem found_clen (n : Nat) : len (chainOf ((foundF n 9).map colS)) = (foundF n 9).length := by
  have go : ∀ l : List Col, len (chainOf (l.map colS)) = l.length := fun l => by
    induction l with
    | nil => rfl
    | cons a r ih => exact congrArg Nat.succ ih
  exact go _
noncomputable def RJ (n hf wh lg la sp : Nat) (x3 : Int) (qR : Addr) (k : Nat) (σ : Sg) (ν : Lg) : Prop := LT ν ∧ ∃ ws, IsL ν (chainOf (rowS n la wh lg k)) ws ∧ σ = (((Str.ofString "row"), .m qR ws) :: ((Str.ofString "found"), .l (chainOf ((foundF n 9).map colS))) :: midS n hf wh lg la sp x3)
section
variable {K : PC} {lv : Nat} {s0 : Shared} {σ : Sg} {ν : Lg} {R : Flow → Shared → Prop}
theorem law_D {n hf wh lg la sp : Nat} {x3 : Int} {qR : Addr} (H : LawK K) (G : PGood K lawSc 20) (ht : LT ν) (hn36 : n < 36) (hwh9 : wh < 9) (hla : la < 2) (hσ : σ = (((Str.ofString "row"), .m qR []) :: ((Str.ofString "found"), .l (chainOf ((foundF n 9).map colS))) :: midS n hf wh lg la sp x3))
    (h : ∀ σ' ν', RJ n hf wh lg la sp x3 qR (foundF n 9).length σ' ν' → Tri K lawSc s0 false σ' ν' (lawB 12) R) : Tri K lawSc s0 false σ ν (lawB 11) R := by
  have hk : PySem.Challenge.rw_uk0013_01 = PySem.Challenge.rw_uk0013_01 := rfl
  revert hk
  k_fill
  intro _
  show Tri _ _ _ _ _ _ (_ :: lawB 12) _
  subst hσ
  have hw8 : wh ≤ 8 := Nat.le_of_lt_succ hwh9
  have hl7 := found_len n hn36
  refine tri_forJK (n := (foundF n 9).length) (fun k σ' ν' => RJ n hf wh lg la sp x3 qR k σ' ν') G (src_list G.han (ex_ev G .nil rfl trivial) (by show some (_, _) = some (_, _); rw [found_clen]) (.inl ⟨_, _, rfl⟩)) (fun ν1 e => ⟨_, ⟨e ▸ ht, [], rfl, rfl⟩, AllSub.of rfl⟩) (fun X kl hq G k σ' ν' hk hj hkl => ?_) fun σ' ν' hj => h σ' ν' hj
  rw [found_col hk]
  obtain ⟨hlt, ws, hws, rfl⟩ := hj
  obtain ⟨b1, b2, b3, b4⟩ := col_in hn36 hk
  have hB8 := Nat.le_trans b1 b2
  have nn : ∀ x : Nat, x ≤ 8 → (0 : Int) ≤ x ∧ (x : Int) ≤ 8 := fun x h => ⟨Int.natCast_nonneg x, Int.ofNat_le.mpr h⟩
  refine tri_asgX G (ex_call G .nil at_185 is_185 (by decide) rfl trivial (read_spec' _ _ _ wh lg (nn _ b2) (nn _ b4) (nn _ hB8) (nn _ hw8)) gives_new) fun ν2 S2 => ?_
  have fin : ∀ ν3 ws3 v, Keep ν2 ν3 → LT ν3 → Is ν3 (entS wh lg (colAt (foundF n 9) k)) v → ws3 = ws.take (insI la (plsN n) (rowI la (plsN n) k) k) ++ v :: ws.drop (insI la (plsN n) (rowI la (plsN n) k) k) → RJ n hf wh lg la sp x3 qR (k + 1) (((Str.ofString "row"), .m qR ws3) :: ((Str.ofString "found"), .l (chainOf ((foundF n 9).map colS))) :: midS n hf wh lg la sp x3) ν3 ∧ ∀ p ∈ kl, p ∈ ν3 := fun ν3 ws3 v k3 l3 v3 e3 => by
    have k2 : Keep ν' ν3 := fun p hp hn => k3 p (S2 p hp) hn
    refine ⟨⟨l3, ws3, ?_, rfl⟩, fun p hp => k2 p (hkl p hp) fun ⟨ps, _, e⟩ => ?_⟩
    · rw [rowS_succ, e3]
      exact chain_ins _ ((k2.isX _).2 _ hws) v3
    · have := hq p hp
      unfold seqO at this
      rw [e] at this
      cases this
  have lt2 := hlt.mono S2
  have hwl := row_vlen hws
  have hl1000 : k ≤ 1000 := Nat.le_trans (Nat.le_of_lt hk) (Nat.le_trans hl7 (by decide))
  have hins := (row_at hn36 hla hk).1
  refine tri_if G .nil rfl trivial (fun hc => tri_ins (T := fun v us => us = ws.take (insI la (plsN n) (rowI la (plsN n) k) k) ++ v :: ws.drop (insI la (plsN n) (rowI la (plsN n) k) k)) (sv := entS wh lg (colAt (foundF n 9) k)) G H.frs lt2 at_ir is_ir (by decide) rfl (ex_tup (exl_ev G .nil rfl trivial) (Nat.le_of_ble_eq_true rfl)) (row_keys (hws.mono S2)) (fun ν' v h => ⟨_, entS_key h⟩) (fun ν4 v κ kp hv hκ kf n0 ν0 hq hkf => insr_spec ws κ v kf qR n0 _ (hwl ▸ hl1000) (hwl ▸ hins) (fun i hi => ?a1) hq hkf) (fun ν3 v us kp l3 hv hT => tri_next (tri_fend (((Str.ofString "row"), .m qR us) :: ((Str.ofString "found"), .l (chainOf ((foundF n 9).map colS))) :: midS n hf wh lg la sp x3) ν3 (fin ν3 us v kp l3 hv hT).1 (fin ν3 us v kp l3 hv hT).2 (fun _ h => h) (sub_of (AllSub.get (.of rfl)))))) (fun hc => tri_ins (T := fun v us => us = ws.take (insI la (plsN n) (rowI la (plsN n) k) k) ++ v :: ws.drop (insI la (plsN n) (rowI la (plsN n) k) k)) (sv := entS wh lg (colAt (foundF n 9) k)) G H.frs lt2 at_il is_il (by decide) rfl (ex_tup (exl_ev G .nil rfl trivial) (Nat.le_of_ble_eq_true rfl)) (row_keys (hws.mono S2)) (fun ν' v h => ⟨_, entS_key h⟩) (fun ν4 v κ kp hv hκ kf n0 ν0 hq hkf => insl_spec ws κ v kf qR n0 _ (hwl ▸ hl1000) (hwl ▸ hins) (fun i hi => ?a2) hq hkf) (fun ν3 v us kp l3 hv hT => tri_next (tri_fend (((Str.ofString "row"), .m qR us) :: ((Str.ofString "found"), .l (chainOf ((foundF n 9).map colS))) :: midS n hf wh lg la sp x3) ν3 (fin ν3 us v kp l3 hv hT).1 (fin ν3 us v kp l3 hv hT).2 (fun _ h => h) (sub_of (AllSub.get (.of rfl))))))
  case a1 =>
    rw [hwl] at hi
    rw [hκ v _ (entS_key hv), hκ _ _ ((row_key (hws.mono S2) hi).keep kp)]
    exact key_r1 hn36 hla (fun e => by rw [e] at hc; cases hc) hw8 hk hi
  case a2 =>
    rw [hwl] at hi
    rw [hκ v _ (entS_key hv), hκ _ _ ((row_key (hws.mono S2) hi).keep kp)]
    exact key_r0 hn36 hla (Int.ofNat.inj (bne_eq_false_iff_eq.mp hc)) hw8 hk hi
end
end Mine
end
noncomputable section
open PySem PySem.W PyProof.Rows PySem.Spec PySem.Calls
namespace Mine
set_option genInjectivity false
set_option genSizeOf false
theorem at_197 : ∀ P, nsIn (hd.heap_39 P) mainGlobals (Str.ofString "_law_place") = some (some (.ref 197)) := fun P => by k_dflt k_is
theorem is_197 : FnIs 197 := fun P => ⟨_, _, _, _, by k_dflt k_is⟩
theorem no_sorted : ∀ P, nsIn (hd.heap_39 P) mainGlobals (Str.ofString "sorted") = some none := fun _ => rfl
theorem bt_sorted : bootBuiltins (Str.ofString "sorted") = some (.builtin "sorted") := by decide +kernel
section
variable {ν : Lg}
theorem chain_rev : ∀ {l : List SV} {us : List Value}, IsL ν (chainOf l) us → IsL ν (chainOf l.reverse) us.reverse
  | [], _, h => by cases (show _ = [] from h); exact rfl
  | x :: r, _, ⟨u, ur, e, h1, h2⟩ => by subst e; rw [List.reverse_cons, List.reverse_cons]; exact chain_app (chain_rev h2) ⟨u, [], rfl, h1, rfl⟩
theorem chain_pick {l : List SV} {us : List Value} {d : SV} (h : IsL ν (chainOf l) us) : ∀ js : List Nat, (∀ j ∈ js, j < l.length) → IsL ν (chainOf (js.map fun j => l.getD j d)) (js.map (us.getD · .none))
  | [], _ => rfl
  | j :: r, hj => by
    obtain ⟨u, h1, h2⟩ := chain_at h (List.getElem?_eq_getElem (hj j (.head _)))
    refine ⟨u, _, ?_, ?_, chain_pick h r fun k hk => hj k (.tail _ hk)⟩
    · show us.getD j .none :: _ = _
      rw [List.getD_eq_getElem?_getD, h1]
      rfl
    · show Is ν (l.getD j d) u
      rw [List.getD_eq_getElem?_getD, List.getElem?_eq_getElem (hj j (.head _))]
      exact h2
theorem col_at {cs : List Col} {us : List Value} {i : Nat} (h : IsL ν (chainOf (cs.map colS)) us) (hi : i < cs.length) : ∃ T t1 t2 t3, us[i]? = some (.ref T) ∧ (T, tupO [.int ((cs.getD i (0, 0, 0)).1 : Nat) t1, .int ((cs.getD i (0, 0, 0)).2.1 : Nat) t2, .int ((cs.getD i (0, 0, 0)).2.2 : Nat) t3]) ∈ ν := by
  obtain ⟨u, h1, T, us, rfl, hm, _, _, rfl, ⟨t1, rfl⟩, _, _, rfl, ⟨t2, rfl⟩, _, _, rfl, ⟨t3, rfl⟩, rfl⟩ := chain_at h (show (cs.map colS)[i]? = some (colS (cs.getD i (0, 0, 0))) by rw [List.getElem?_map, List.getD_eq_getElem?_getD, List.getElem?_eq_getElem hi]; rfl)
  exact ⟨T, t1, t2, t3, h1, hm⟩
theorem range_getD {α β : Type} {d : α} (f : α → β) (l : List α) : (List.range l.length).map (fun i => f (l.getD i d)) = l.map f := by
  refine List.ext_getElem (by rw [List.length_map, List.length_map, List.length_range]) fun i h1 h2 => ?_
  rw [List.length_map] at h2
  rw [List.getElem_map, List.getElem_map, List.getElem_range, List.getD_eq_getElem?_getD, List.getElem?_eq_getElem h2]
  rfl
end
section
variable {K : PC} {lv : Nat} {s0 : Shared} {σ : Sg} {ν : Lg} {R : Flow → Shared → Prop}
theorem ex_sorted {n la : Nat} {z : Bool} {e : Expr} {p pos kp kq : Pos} (G : PGood K lawSc 20) (hn : n < 36) (hla : la < 2) (X : Ex K lawSc s0 z σ ν e (.l (chainOf ((if la = 0 then (foundF n 9).reverse else foundF n 9).map colS))) (Ext ν)) (hst : noStar [e] = true := by rfl) : Ex K lawSc s0 z σ ν (.Call (.Name (Str.ofString "sorted") p) [e] [⟨some (Str.ofString "key"), .Name (Str.ofString "_law_place") kp, kq⟩] pos) (.l (chainOf (((rowI la (plsN n) (foundF n 9).length).map (colAt (foundF n 9))).map colS))) (Ext ν) := fun s E Q hs h => by
  refine wpAny_Call_Name_kw (name_built G.env G rfl no_sorted bt_sorted (by decide) hs (callWith_builtin_kwB ?_ rfl (evalArgs_kw2 rfl (spliced_more (X s _ _ hs fun u ν1 s1 hs1 S1 hu => spliced_none ?_) (star_cons (env := K.env lawSc) hst).1) (star_cons (env := K.env lawSc) hst).1)))
  · exact star_plain hst
  refine wpAny_evalAll_cons (wpAny_bind (name_glob G.env G rfl at_197 hs1 (wpAny_bind (wpAny_standAt (wpAny_pure (wpAny_pure ?_))))))
  obtain ⟨l, us, c, rfl, hm, hu⟩ := hu
  have hvs : ∃ vs : List Value, (if la = 0 then vs.reverse else vs) = us ∧ IsL ν1 (chainOf ((foundF n 9).map colS)) vs := by
    by_cases q : la = 0
    · rw [if_pos q] at hu
      refine ⟨us.reverse, by rw [if_pos q, List.reverse_reverse], ?_⟩
      have := chain_rev hu
      rwa [← List.map_reverse, List.reverse_reverse] at this
    · rw [if_neg q] at hu
      exact ⟨us, by rw [if_neg q], hu⟩
  obtain ⟨vs, rfl, hvs⟩ := hvs
  have hvl : vs.length = (foundF n 9).length := (chain_len hvs).trans (List.length_map ..)
  refine PAt.el hs1 fun m cm κ D => ?_
  refine G.el fun pp loose mean mg mb dp un gd outer A₀ base eA B X2 T hd' hu' => ?_
  rw [eA]
  refine sorted_place (news := ν1 ++ K.hl κ) hn hla hvl (fun i hi => ?_) (List.mem_append_left _ hm) B D.F X2 D.N T rfl (Nat.lt_of_le_of_lt (Nat.add_le_add_left (by decide) dp) hd') (Nat.lt_of_le_of_lt (Nat.add_le_add_left (by decide) un) hu') fun q h' tk c2 F' N' lt => ?_
  · obtain ⟨T, t1, t2, t3, h1, h2⟩ := col_at hvs hi
    exact ⟨T, t1, t2, t3, h1, List.mem_append_left _ h2⟩
  · refine h _ ((q, listO ((rowI la (plsN n) (foundF n 9).length).map (vs.getD · .none)) c2) :: ν1) _ ⟨m, cm, κ, D.heap tk F' N' (fun p hp => ?_) fun sv u => Is.mono fun _ => .tail _⟩ (fun p hp => .tail _ (S1 p hp)) ⟨q, _, c2, rfl, .head _, ?_⟩
    · refine mem_c hp ?_ fun hp => ?_
      · exact fun hq => by
          obtain ⟨o, ho⟩ := D.hidden hq
          exact Nat.lt_irrefl _ (lt _ (List.mem_append_right _ ho))
      · exact D.O p hp
    · have := chain_pick (d := colS (0, 0, 0)) hvs (rowI la (plsN n) (foundF n 9).length) fun j hj => (List.length_map colS).symm ▸ (ord_at hn hla).2 j hj
      refine IsL.mono (fun _ => .tail _) ?_
      rw [List.map_map]
      refine (congrArg (fun t => IsL ν1 (chainOf t) _) (List.map_congr_left fun j hj => ?_)).mp this
      have hj' := (ord_at hn hla).2 j hj
      rw [List.getD_eq_getElem?_getD, List.getElem?_map, List.getElem?_eq_getElem hj']
      show colS _ = colS (colAt _ j)
      rw [colAt, List.getD_eq_getElem?_getD, List.getElem?_eq_getElem hj']
      rfl
/-- the same colours on both sides -/
theorem cmp_cols {sc : Scope} (cs : List Col) (G : PGood K sc lv) (hlv : 1 ≤ lv) : CmpK K sc s0 σ .NotEq (.l (chainOf (cs.map colS))) (.l (chainOf (cs.map colS))) false := fun ν s u1 u2 E Q hs ⟨q1, us1, n1, e1, m1, c1⟩ ⟨q2, us2, n2, e2, m2, c2⟩ hq => by
  subst e1 e2
  have rd : ∀ us, IsL ν (chainOf (cs.map colS)) us → ∃ as, ReadsAll s.heap us (cs.map colD) as := fun us h => reads_cols ((chain_len h).trans (List.length_map ..)) fun i hi => by
    obtain ⟨T, t1, t2, t3, a, b⟩ := col_at h (((chain_len h).trans (List.length_map ..)) ▸ hi)
    exact ⟨T, t1, t2, t3, a, hs.new b⟩
  obtain ⟨as, hr⟩ := rd us1 c1
  obtain ⟨as2, hr2⟩ := rd us2 c2
  have sh : SeqAt.shaped (.list (cs.map colD)) = true := by
    have hd := colD_depth cs
    unfold SeqAt.shaped
    rw [Bool.and_eq_true]
    refine ⟨?_, ?_⟩
    · rw [PyData.canLay0]; exact colD_lay cs
    · rw [PyData.depth]
      exact decide_eq_true (by lia)
  refine ne_dataH (reads_list_at (hs.new m1) rfl rfl hr) (reads_list_at (hs.new m2) rfl rfl hr2) sh sh (G.room hlv) ?_
  rw [show PyData.eqv (.list (cs.map colD)) (.list (cs.map colD)) = true by rw [PyData.eqv]; exact PySem.SeqAt.eqvAll_refl _ (colD_lay cs)]
  exact hq s hs
end
end Mine
end
noncomputable section
open PySem PySem.W PyProof.Rows PySem.Spec PySem.Calls
namespace Mine
set_option genInjectivity false
set_option genSizeOf false
noncomputable def φplace : SV → R2 := one1 fun a => (tOf a).bind fun c => pOf (fun x r => (iOf x).bind fun r1 => (i2 fun g b => some (.i (placeF r1 g b), [0 ≤ b ∧ b ≤ 8, b ≤ r1 ∧ r1 ≤ 8, b ≤ g ∧ g ≤ 8])) r) c
theorem tOf_eq {x : SV} : OptP (fun c => x = .t c) (tOf x) := by cases x <;> first | rfl | trivial
theorem fn_place : PureFn 197 1 φplace := fun ν us x hu => by
  unfold φplace
  refine one1_is hu fun a u e ha => ?_
  cases hc : tOf a with
  | none => trivial
  | some c =>
    cases tOf_eq.get hc
    obtain ⟨q, ws, rfl, hm, hw⟩ := ha
    refine pOf_is hw fun x r w wr e1 h1 h2 => .bind (iOf_is h1) fun r1 h3 => i2_is h2 fun g b t1 t2 e2 hc => ?_
    obtain ⟨t, rfl⟩ := h3
    subst e e1 e2
    obtain ⟨c1, c2, c3, -⟩ := hc
    exact place_spec' r1 g b c1 c2 c3 ν [.ref q] ⟨_, _, rfl, ⟨q, _, rfl, hm, _, _, rfl, ⟨t, rfl⟩, _, _, rfl, ⟨t1, rfl⟩, _, _, rfl, ⟨t2, rfl⟩, rfl⟩, rfl⟩
theorem chain_nth : ∀ {l : List SV} {i : Nat}, i < l.length → (nth (chainOf l) i).getD .nl = l.getD i .nl
  | [], _, h => absurd h (Nat.not_lt_zero _)
  | _ :: _, 0, _ => rfl
  | _ :: r, i + 1, h => chain_nth (l := r) (Nat.lt_of_succ_lt_succ h)
theorem chain_clen : ∀ {l : List SV}, len (chainOf l) = l.length
  | [] => rfl
  | _ :: r => congrArg Nat.succ (chain_clen (l := r))
theorem rev_pick {ν : Lg} {l : List SV} (hz : l.length ≤ 1000) {u : Value} (h : Is ν (.l (chainOf l)) u) : ∃ q us n, u = .ref q ∧ (q, listO us n) ∈ ν ∧ us.length ≤ 1000 ∧ ∀ ν' D, (∀ p ∈ ν, p ∈ ν') → (D, listO (slicePick us.toArray none none (some (-1))).toList 0) ∈ ν' → Is ν' (.l (chainOf l.reverse)) (.ref D) := by
  obtain ⟨q, us, n, e, hm, hi⟩ := h
  refine ⟨q, us, n, e, hm, chain_len hi ▸ hz, fun ν' D hs hD => ⟨D, _, 0, rfl, hD, ?_⟩⟩
  rw [krv_pick, List.toList_toArray, List.toList_toArray]
  exact (chain_rev hi).mono hs
section
variable {K : PC} {sc : Scope} {env : Env} {σe σ : Sg} {ν : Lg} {s0 : Shared} {z z1 b : Bool} {Φ : Ora} {t e1 e2 : Expr} {c : List Prop} {sv : SV} {S : Lg → Prop} {p : Pos}
theorem exE_ifexp (V : EV K.w K.A env ν (PAt K sc ν s0 σ) σe Φ) (ht : ts Φ σe z t = some (b, z1, c)) (hc : All c) (X1 : b = true → ExE K sc env s0 z1 σ ν e1 sv S) (X2 : b = false → ExE K sc env s0 z1 σ ν e2 sv S) : ExE K sc env s0 z σ ν (.IfExp t e1 e2 p) sv S := fun s E Q hs h =>
  wpAny_IfExp (ts_ok V ht hc hs fun s1 hs1 => by
    cases b with
    | true => exact X1 rfl s1 E Q hs1 h
    | false => exact X2 rfl s1 E Q hs1 h)
end
/-- the row's colours, in order -/
noncomputable def rowC (n la : Nat) : List Col := ((rowI la (plsN n) (foundF n 9).length).map (colAt (foundF n 9)))
section
variable {K : PC} {lv : Nat} {s0 : Shared} {σ : Sg} {ν : Lg} {R : Flow → Shared → Prop}
theorem law_E {n hf wh lg la sp : Nat} {x3 : Int} {qR : Addr} (H : LawK K) (G : PGood K lawSc 20) (hn36 : n < 36) (hla : la < 2) (hσ : RJ n hf wh lg la sp x3 qR (foundF n 9).length σ ν)
    (h : ∀ (lo hb : Nat) ν', lo < 3 → hb < 2 → LT ν' → Tri K lawSc s0 false (((Str.ofString "low"), .i (lo : Nat)) :: ((Str.ofString "high"), .i (((foundF n 9).length : Nat) - (hb : Nat))) :: ((Str.ofString "places"), .li (plsN n)) :: ((Str.ofString "row"), .l (chainOf (rowS n la wh lg (foundF n 9).length))) :: ((Str.ofString "found"), .l (chainOf ((foundF n 9).map colS))) :: midS n hf wh lg la sp x3) ν' (lawB 15) R) : Tri K lawSc s0 false σ ν (lawB 12) R := by
  have hk : PySem.Challenge.rw_uk0013_01 = PySem.Challenge.rw_uk0013_01 := rfl
  revert hk
  k_fill
  intro _
  show Tri _ _ _ _ _ _ (_ :: _ :: _ :: lawB 15) _
  obtain ⟨ht, ws, hws, rfl⟩ := hσ
  have hl7 := found_len n hn36
  have hl1000 : (foundF n 9).length ≤ 1000 := Nat.le_trans hl7 (by decide)
  refine tri_freeze (x := (Str.ofString "row")) (.l (chainOf (rowS n la wh lg (foundF n 9).length))) rfl (fun ν2 u hs ⟨m, e, hm⟩ => ⟨qR, ws, m, e, hm, hws.mono hs⟩) fun m => ?_
  replace ht : LT ((qR, listO ws m) :: ν) := ht.mono fun _ => .tail _
  generalize ((qR, listO ws m) :: ν : Lg) = ν1 at *
  clear hws
  refine tri_ifE (SL := Ext ν1) (SR := Ext) (a := .l (chainOf ((rowC n la).map colS))) (b := .l (chainOf ((rowC n la).map colS))) (t := false) (ex_to (comp_ex (n := (foundF n 9).length) (σ0 := []) (σt := fun i => [((Str.ofString "one"), entS wh lg (colAt (foundF n 9) ((rowI la (plsN n) (foundF n 9).length).getD i 0)))]) (b := fun _ => true) (out := fun i => colS (colAt (foundF n 9) ((rowI la (plsN n) (foundF n 9).length).getD i 0))) (cl := []) G.env G (src_list G.han (ex_ev G .nil rfl trivial) (by show some (_, _) = some (_, _); rw [chain_clen, rowS_len]) (.inl ⟨_, _, rfl⟩)) hl1000 (cells_in trivial) (fun i hi => .name rfl ?it) (fun ν1 h i hi => ifs_nil) (fun ν1 h i hi _ => elt_ev G.env rfl .nil rfl trivial) (fun ν' u hu => ?out) rfl) (fun ν' => SC.ext fun _ e => e ▸ .refl)) (fun ν2 S2 => ex_sorted G hn36 hla (exE_ifexp (ev_of G .nil) rfl trivial (fun hc => ?b1) (fun hc => ?b2))) (fun _ _ u _ S h => h.mono S) (cmp_cols _ G (by decide)) (fun h => nomatch h) (fun _ ν2 ν3 S2 S3 => tri_next ?_)
  case it => rw [chain_nth (by rw [rowS_len]; exact hi), List.getD_eq_getElem?_getD, rowS_at hi]; rfl
  case out =>
    have e := range_getD (d := 0) (fun j => colS (colAt (foundF n 9) j)) (rowI la (plsN n) (foundF n 9).length)
    rw [row_len] at e
    rw [outs_map, e] at hu
    rw [rowC, List.map_map]
    exact hu
  case b1 => rw [if_neg fun e => bne_iff_ne.mp hc (congrArg (fun t : Nat => (t : Int)) e)]; exact ex_pure G .nil rfl trivial
  case b2 =>
    rw [if_pos (Int.ofNat.inj (bne_eq_false_iff_eq.mp hc)), List.map_reverse]
    exact exE_slice (ev_of G .nil) (by rfl) (by rfl) (by rfl) (by trivial) (by rfl) (by trivial) (by rfl) (by trivial) (by decide) (fun u hu => rev_pick (by rw [List.length_map]; exact hl1000) hu) (fun l n => ⟨_, rfl⟩)
  replace ht : LT ν3 := ht.mono fun p hp => S3 p (S2 p hp)
  clear S2 S3
  refine tri_asgComp (y := (Str.ofString "places")) (n := (foundF n 9).length) (σ0 := []) (σt := fun i => [((Str.ofString "colour"), colS (colAt (foundF n 9) i))]) (b := fun _ => true) (out := fun i => .i (plC (colAt (foundF n 9) i))) (cl := []) (sv := .li (plsN n)) G (src_list G.han (ex_ev G .nil rfl trivial) (by show some (_, _) = some (_, _); rw [found_clen]) (.inl ⟨_, _, rfl⟩)) hl1000 (cells_in trivial) (fun i hi => .name rfl (found_col hi)) (fun ν1 h i hi => ifs_nil) (fun ν1 h i hi _ => elt_ev G.env rfl (.cons (fun C ν At V => cal_fnV (G.env.comp rfl) V G fn_place at_197 is_197 (by decide) rfl) .nil) rfl ?el) (fun ν' u hu => ?out2) (fun ν4 hS => ?_) rfl
  case el =>
    obtain ⟨b1, b2, b3, b4⟩ := col_in hn36 hi
    exact ⟨⟨Int.natCast_nonneg _, Int.ofNat_le.mpr (Nat.le_trans b1 b2)⟩, ⟨Int.ofNat_le.mpr b1, Int.ofNat_le.mpr b2⟩, ⟨Int.ofNat_le.mpr b3, Int.ofNat_le.mpr b4⟩, trivial⟩
  case out2 =>
    have := outs_li hu
    rwa [range_getD plC (foundF n 9)] at this
  replace ht : LT ν4 := ht.mono (SC.ext (S := (· = ν3)) (fun _ e => e ▸ .refl) hS)
  clear hS
  obtain ⟨lo, hlo, hlo2⟩ := fmod_n (x3.fdiv 108) 3 (by decide)
  obtain ⟨hb, hhb, hhb2⟩ := fmod_n (x3.fdiv 324) 2 (by decide)
  replace hlo : (x3.fdiv 108).fmod 3 = (lo : Int) := hlo
  replace hhb : (x3.fdiv 324).fmod 2 = (hb : Int) := hhb
  have hlen : len (chainOf (rowS n la wh lg (foundF n 9).length)) = (foundF n 9).length := chain_clen.trans rowS_len
  have O : OraOK K lawSc ν4 [((Str.ofString "len"), fun _ => φlen)] := .cons (c_len G rfl) .nil
  refine tri_swap2 G O rfl ⟨by decide, by decide, by decide, (show len (chainOf (rowS n la wh lg (foundF n 9).length)) < 2 ^ 63 by rw [hlen]; exact Nat.lt_of_le_of_lt hl7 (by decide)), by decide, by decide, by decide, trivial⟩ (tri_val2 (congrArg SV.i hlo) (sw' := .i (((foundF n 9).length : Nat) - (hb : Nat))) (by show SV.i ((len (chainOf (rowS n la wh lg (foundF n 9).length)) : Int) - (x3.fdiv 324).fmod 2) = _; rw [hlen, hhb]) ?_)
  exact tri_mono (h lo hb ν4 hlo2 hhb2 ht) (fun h => nomatch h) (fun _ h => h) (sub_of (AllSub.get (.of rfl)))
end
end Mine
end
noncomputable section
open PySem PySem.W PyProof.Rows PySem.Spec PySem.Calls
namespace Mine
set_option genInjectivity false
set_option genSizeOf false
section
variable {K : PC} {sc : Scope} {lv : Nat} {ν ν' ν1 ν2 : Lg} {s0 : Shared} {σ σ' σe σt : Sg} {z z' z1 : Bool} {s : Shared} {Φ : Ora} {R : Flow → Shared → Prop} {rest body : List Stmt} {E Q : Value → Shared → Prop} {x y a b sv : SV} {us : List Value} {S S' : Lg → Prop} {p pos p2 : Pos} {e e1 e2 k : Expr} {es ifs : List Expr} {c d : List Prop} {env : Env} {scope : Scope} {cl : List (Str × Addr)}
/-- a part of what is made -/
theorem ex_itemE {j : Int} {t : Nat} {jp : Pos} (G : PGood K sc lv) (X : Ex K sc s0 z σ ν e x S) (hi : itemS x (.i j) = some (sv, d)) (hd : All d) : Ex K sc s0 z σ ν (.Subscript e (.Constant (.int j) t jp) p) sv S := fun s E Q hs h =>
  Subscript_ (X s _ _ hs fun u ν1 s1 hs1 S1 hu => wpAny_Constant_int ((item_ok (ev_of G .nil) (s := { s1 with toks := s1.toks + 1 }) (hs1.tick) hu (y := .i j) ⟨_, rfl⟩ rfl).get hi hd fun u hu => h u ν1 _ hs1.tick.weak S1 hu))
/-- a def of the text, its arguments may leave things behind -/
theorem ex_callFX (G : PGood K sc lv) {f : Str} {fa : Addr} {lv' : Nat} (ha : ∀ P, nsIn (hd.heap_39 P) mainGlobals f = some (some (.ref fa))) (hfn : FnIs fa) (hlv : lv' ≤ lv)
    (X : ExL K sc s0 z σ ν es x) (C : Fn fa lv' x (New sv)) (hf : isGlo sc f = true := by rfl) (hok : okArgs es = true := by rfl) : Ex K sc s0 z σ ν (.Call (.Name f p) es [] pos) sv (Ext ν) := fun s E Q hs h => by
  refine wpAny_Call_NameR (name_glob G.env G hf ha hs ?_)
  obtain ⟨e, r, rfl, e1, e2⟩ := ok_args (env := K.env sc) hok
  refine callWith_F (hs.fnAt G hfn) (X pos s _ _ hs fun us ν1 s1 hs1 S1 hu => ⟨hs1.fnAt G hfn, ?_⟩) e1 (star_plain e2)
  exact call_vs G hlv (C ν1 us hu) (fun r => fun _ => List.mem_append_left _) gives_new hs1 fun u ν' s' hs' hT => h u ν' s' hs' (S1.trans hT.1) hT.2
/-- r == g == b -/
theorem ifs_chain {op1 op2 : CmpOp} {el e3 : Expr} {cp : Pos} {x3 : SV} {b1 b2 : Bool} {z2 z3 : Bool} {c1 c2 c3 : List Prop} (H : EnvOK env) (hk : scope.kind = .function) (O : OraC K sc env scope cl Φ) (h1 : ev Φ σt false el = some (a, z1, c1)) (hc1 : All c1) (h2 : ev Φ σt z1 e2 = some (b, z2, c2)) (hc2 : All c2) (h3 : ev Φ σt false e3 = some (x3, z3, c3)) (hc3 : All c3) (hb1 : cmpS op1 a b = some b1) (hb2 : cmpS op2 b x3 = some b2)
    (hm : lastMarks [op1, op2] [e2, e3] = false := by rfl) : IfsOK K sc lv env scope cl ν s0 σ [.Compare el [op1, op2] [e2, e3] cp] σt (b1 && b2) := fun C oC mC X s E Q G n1 n2 hs h => by
  have V := ev_c (ν := ν) (s0 := s0) (σ := σ) H hk G n1 n2 O
  have main : wpAny (PM K.w) K.A (isTrue (.Compare el [op1, op2] [e2, e3] cp) (compEnvC scope cl C env) (eval (.Compare el [op1, op2] [e2, e3] cp) (compEnvC scope cl C env))) (fun t s' => t = (b1 && b2) ∧ PAt (K.frs ((C, oC) :: X)) sc ν s0 σ false s') E s := by
    refine isTrue_chain (hm := hm) (ev_ok V h1 hc1 hs fun u1 s1 hs1 i1 => ?_)
    refine test_link (ev_ok V h2 hc2 hs1 fun u2 s2 hs2 i2 => (cmp_ok V hs2 op1 i1 i2).get hb1 (wpAny_truthy_bool ?_))
    cases b1 with
    | false => exact ⟨rfl, hs2.weak⟩
    | true => exact test_last (ev_ok V h3 hc3 hs2.weak fun u3 s3 hs3 i3 => (cmp_ok V hs3 op2 i2 i3).get hb2 (wpAny_truthy_bool ⟨rfl, hs3.weak⟩))
  unfold allIfs
  rw [List.forIn_cons]
  refine wpAny_bind (wpAny_bind (wpAny_mono main (fun t s' h' => ?_) fun _ _ h => h))
  obtain ⟨rfl, h'⟩ := h'
  exact wpAny_pure (wpAny_pure (h _ h'))
/-- f(.., key=lambda ..), a number comes back -/
theorem ex_callKL {f : Str} {fa : Addr} {kp p0 p1 p3 p4 p5 p6 p7 : Pos} {k1 k2 lv' : Nat} (G : PGood K lawSc 20) (H : LawK K) (ht : LT ν) (ha : ∀ P, nsIn (hd.heap_39 P) mainGlobals f = some (some (.ref fa))) (hfn : FnIs fa) (hlv : lv' ≤ 20) (X : ExL K lawSc s0 z σ ν es x)
    (C : ∀ ν' us kf, IsL ν' x us → One ν' → (∀ vs κ, (∀ u ∈ vs, EntK ν' (κ u) u) → KeyFn kf vs κ ν') → MCk fa lv' us [(Str.ofString "key", .ref kf)] (fun n => ∀ p ∈ ν', p ∈ n) (Val sv)) (hf : isGlo lawSc f = true := by rfl) (hok : okArgs es = true := by rfl) :
    Ex K lawSc s0 z σ ν (.Call (.Name f p) es [⟨some (Str.ofString "key"), .Lambda (lamA p0) (lamB p1 p3 p4 p5 p6 k1 k2) lamS p7, kp⟩] pos) sv (fun ν' => Keep ν ν' ∧ LT ν') := fun s E Q hs h => by
  obtain ⟨e, r, rfl, e1, e2⟩ := ok_args (env := K.env lawSc) hok
  refine wpAny_Call_Name_kw (name_glob G.env G hf ha hs (callWith_of (P := FnAt fa) ?_ keeps_F (evalArgs_kw2 rfl (X pos s _ _ hs fun us ν1 s1 hs1 S1 hu => ?_) e1)))
  · rw [e1]
    show ((false || (backTo pos (starEach r (K.env lawSc))).any (·.1)) || false) = false
    rw [star_plain e2]
    rfl
  · refine wpAny_evalAll_cons (wpAny_bind (lam_ok G H (ht.mono S1) hs1 fun kf ν2 s2 kp lt2 kf2 hs2 => wpAny_bind (wpAny_standAt (wpAny_pure (wpAny_pure ⟨hs2.fnAt G hfn, ?_⟩)))))
    have one : One ν2 := by
      refine PAt.el hs2 fun m cm κ D => ?_
      exact D.one
    exact call_vs G hlv (C ν2 us kf ((kp.isX x).2 us hu) one kf2) (fun _ _ => List.mem_append_left _) gives_val hs2 fun u ν' s' hs' hT => by
      obtain ⟨rfl, hT⟩ := hT
      exact h u _ s' hs' ⟨fun p hp hn => kp p (S1 p hp) hn, lt2⟩ hT
end
end Mine
end
noncomputable section
open PySem PySem.W PyProof.Rows PySem.Spec PySem.Calls
namespace Mine
set_option genInjectivity false
set_option genSizeOf false
noncomputable def cor (i : Nat) : Col := if i = 0 then (1, 0, 0) else if i = 1 then (1, 1, 0) else (0, 1, 0)
theorem cor_pl : ∀ i : Nat, i < 3 → plC (cor i) = 420 * (i : Int) ∧ ((cor i).2.2 ≤ (cor i).1 ∧ (cor i).1 ≤ 8 ∧ (cor i).2.2 ≤ (cor i).2.1 ∧ (cor i).2.1 ≤ 8) := by decide
noncomputable def cntB (up : Bool) (l : List Int) (i : Nat) : Nat := (l.filter fun p => if up then decide (p ≤ 420 * (i : Int)) else decide (p < 420 * (i : Int))).length
noncomputable def cntOk (n la i : Nat) : Bool := decide (cntB false (plsN n) i ≤ (foundF n 9).length) && decide (cntB true (plsN n) i ≤ (foundF n 9).length) && (List.range (foundF n 9).length).all fun j =>
  (decide ((plsN n).getD ((rowI la (plsN n) (foundF n 9).length).getD j 0) 0 < 420 * (i : Int)) == decide (j < cntB false (plsN n) i)) && (decide (420 * (i : Int) < (plsN n).getD ((rowI la (plsN n) (foundF n 9).length).getD j 0) 0) == decide (cntB true (plsN n) i ≤ j))
theorem cnt_all : ((List.range 36).all fun n => (List.range 2).all fun la => (List.range 3).all fun i => cntOk n la i) = true := by decide +kernel
theorem cnt_at {n la i : Nat} (hn : n < 36) (hl : la < 2) (hi : i < 3) : cntB false (plsN n) i ≤ (foundF n 9).length ∧ cntB true (plsN n) i ≤ (foundF n 9).length ∧ ∀ j, j < (foundF n 9).length →
    ((plsN n).getD ((rowI la (plsN n) (foundF n 9).length).getD j 0) 0 < 420 * (i : Int) ↔ j < cntB false (plsN n) i) ∧ (420 * (i : Int) < (plsN n).getD ((rowI la (plsN n) (foundF n 9).length).getD j 0) 0 ↔ cntB true (plsN n) i ≤ j) := by
  have h := List.all_eq_true.mp (List.all_eq_true.mp (List.all_eq_true.mp cnt_all n (List.mem_range.mpr hn)) la (List.mem_range.mpr hl)) i (List.mem_range.mpr hi)
  unfold cntOk at h
  rw [Bool.and_eq_true, Bool.and_eq_true, decide_eq_true_eq, decide_eq_true_eq] at h
  refine ⟨h.1.1, h.1.2, fun j hj => ?_⟩
  have h2 := List.all_eq_true.mp h.2 j (List.mem_range.mpr hj)
  rw [Bool.and_eq_true, beq_iff_eq, beq_iff_eq, decide_eq_decide, decide_eq_decide] at h2
  exact h2
theorem row_j {n la j : Nat} (hn : n < 36) (hl : la < 2) (hj : j < (foundF n 9).length) : (rowI la (plsN n) (foundF n 9).length).getD j 0 < (foundF n 9).length := by
  have h' : j < (rowI la (plsN n) (foundF n 9).length).length := (row_len _ _ _).symm ▸ hj
  rw [List.getD_eq_getElem?_getD, List.getElem?_eq_getElem h']
  exact (ord_at hn hl).2 _ (List.getElem_mem h')
theorem key_c0 {n la i wh lg : Nat} (hn : n < 36) (hl : la < 2) (hi : i < 3) (hw : wh ≤ 8) {j : Nat} (hj : j < (foundF n 9).length) : (Float64.cmp (hueR n la wh lg (foundF n 9).length j) (hueC wh lg (cor i)) == some Ordering.lt) = true ↔ j < cntB false (plsN n) i := by
  have hr := row_j hn hl hj
  rw [hueR, hue_lt hw (col_in hn hr) (cor_pl i hi).2, ← pls_at hr, (cor_pl i hi).1, decide_eq_true_eq]
  exact ((cnt_at hn hl hi).2.2 j hj).1
theorem key_c1 {n la i wh lg : Nat} (hn : n < 36) (hl : la < 2) (hi : i < 3) (hw : wh ≤ 8) {j : Nat} (hj : j < (foundF n 9).length) : (Float64.cmp (hueC wh lg (cor i)) (hueR n la wh lg (foundF n 9).length j) == some Ordering.lt) = true ↔ ¬ j < cntB true (plsN n) i := by
  have hr := row_j hn hl hj
  rw [hueR, hue_lt hw (cor_pl i hi).2 (col_in hn hr), ← pls_at hr, (cor_pl i hi).1, decide_eq_true_eq, Nat.not_lt]
  exact ((cnt_at hn hl hi).2.2 j hj).2
theorem mx_eq (a c h : Int) : max a (min c h) = if (if h < c then h else c) > a then (if h < c then h else c) else a := by
  by_cases h1 : h < c
  · rw [if_pos h1]; split <;> lia
  · rw [if_neg h1]; split <;> lia
theorem cls_forms : ∀ n : Nat, n < 36 → ((cntB false (plsN n) 2 : Nat) : Int) = ftot n 5 := by decide +kernel
noncomputable def greyP (c : Col) : Bool := decide (c.1 = c.2.1 ∧ c.2.1 = c.2.2)
noncomputable def greyB (l : List Col) : Nat := (l.filter greyP).length
noncomputable def tailOk (n : Nat) : Bool := ((eDs (2 * (n / 2 + 1))).getD (2 * (n / 2 + 1) - n) 0 : Int) == 3 * ftot n 5 - 2 * (greyB (foundF n 9) : Int)
theorem tail_all : ((List.range 36).all tailOk) = true := by decide +kernel
theorem tail_at {n hf : Nat} (hn : n < 36) (hh : hf = n / 2 + 1) : ((((eDs (2 * hf)).getD (2 * hf - n) 0 : Nat) : Int)) = 3 * ((cntB false (plsN n) 2 : Nat) : Int) - 2 * (greyB (foundF n 9) : Int) := by
  have h := List.all_eq_true.mp tail_all n (List.mem_range.mpr hn)
  rw [cls_forms n hn, hh]
  exact beq_iff_eq.mp h
end Mine
end
noncomputable section
open PySem PySem.W PyProof.Rows PySem.Spec PySem.Calls
namespace Mine
set_option genInjectivity false
set_option genSizeOf false
noncomputable abbrev midE (n hf wh lg la sp : Nat) (x3 : Int) (lo hb : Nat) : Sg := (((Str.ofString "low"), .i (lo : Nat)) :: ((Str.ofString "high"), .i (((foundF n 9).length : Nat) - (hb : Nat))) :: ((Str.ofString "places"), .li (plsN n)) :: ((Str.ofString "row"), .l (chainOf (rowS n la wh lg (foundF n 9).length))) :: ((Str.ofString "found"), .l (chainOf ((foundF n 9).map colS))) :: midS n hf wh lg la sp x3)
section
variable {ν : Lg}
theorem bt_len : bootBuiltins (Str.ofString "len") = some (.builtin "len") := by decide +kernel
theorem outs_count {b : Nat → Bool} {x : SV} : ∀ n, (outsUp b (fun _ => x) n).length = ((List.range n).filter b).length
  | 0 => rfl
  | n + 1 => by
    rw [List.range_succ, List.filter_append, List.length_append]
    show (outsUp b (fun _ => x) n ++ if b n = true then [x] else []).length = _
    rw [List.length_append, outs_count n]
    by_cases h : b n = true
    · rw [if_pos h, List.filter_cons_of_pos h]; rfl
    · rw [if_neg h, List.filter_cons_of_neg h]; rfl
theorem filt_range {α : Type} {d : α} (l : List α) (p : α → Bool) : ((List.range l.length).filter fun j => p (l.getD j d)).length = (l.filter p).length := by
  have h := range_getD (d := d) id l
  rw [List.map_id] at h
  conv => rhs; rw [← h, List.filter_map, List.length_map]
  rfl
theorem cnt_len {b : Nat → Bool} {α : Type} {d : α} (l : List α) (p : α → Bool) (h : ∀ j, b j = p (l.getD j d)) : len (chainOf (outsUp b (fun _ => .i 1) l.length)) = (l.filter p).length := by
  rw [chain_clen, outs_count, show b = fun j => p (l.getD j d) from funext h, filt_range]
/-- bisect_left over the row -/
theorem bis_row {n la wh lg kf c : Nat} {x : UInt64} {lo hi : Int} {us : List Value} (hN : (foundF n 9).length ≤ 1000) (hlo : 0 ≤ lo) (hhi : hi ≤ (foundF n 9).length) (hu : IsL ν (.p (.l (chainOf (rowS n la wh lg (foundF n 9).length))) (.p (.f x false) (.p (.i lo) (.p (.i hi) .nl)))) us) (one : One ν) (hk : ∀ vs κ, (∀ u ∈ vs, EntK ν (κ u) u) → KeyFn kf vs κ ν) :
    ((∀ j, j < (foundF n 9).length → ((Float64.cmp (hueR n la wh lg (foundF n 9).length j) x == some Ordering.lt) = true ↔ j < c)) → MCk 67 2 us [(Str.ofString "key", .ref kf)] (fun n => ∀ p ∈ ν, p ∈ n) (Val (.i (max lo (min (c : Int) hi))))) ∧ ((∀ j, j < (foundF n 9).length → ((Float64.cmp x (hueR n la wh lg (foundF n 9).length j) == some Ordering.lt) = true ↔ ¬ j < c)) → MCk 49 2 us [(Str.ofString "key", .ref kf)] (fun n => ∀ p ∈ ν, p ∈ n) (Val (.i (max lo (min (c : Int) hi))))) := by
  obtain ⟨ua, _, rfl, ⟨q, ws, n0, rfl, hm, hws⟩, ux, _, rfl, ⟨t, rfl, _⟩, ulo, _, rfl, i3, uhi, _, rfl, i4, rfl⟩ := hu
  have hl := row_vlen hws
  have ky : ∀ j, j < (foundF n 9).length → keyOf ν (ws.getD j .none) = hueR n la wh lg (foundF n 9).length j := fun j hj => (keyOf_at (row_key hws hj)).uniq one (row_key hws hj)
  have kf := hk ws (keyOf ν) fun u hu => (row_keys hws u hu).elim fun k hk => keyOf_at hk
  exact ⟨fun hx => bislk_spec ws (keyOf ν) x _ q lo hi (.i hi) c (.inl rfl) (hl ▸ hN) hlo (hl ▸ hhi) (fun j hj => by rw [hl] at hj; rw [ky j hj]; exact hx j hj) kf ⟨rfl, n0, hm⟩ ⟨t, rfl, nofun⟩ i3 i4 bnd_lk4, fun hx => bisrk_spec ws (keyOf ν) x _ q lo hi (.i hi) c (.inl rfl) (hl ▸ hN) hlo (hl ▸ hhi) (fun j hj => by rw [hl] at hj; rw [ky j hj]; exact hx j hj) kf ⟨rfl, n0, hm⟩ ⟨t, rfl, nofun⟩ i3 i4 bnd_rk4⟩
end
section
variable {K : PC} {lv : Nat} {s0 : Shared} {σ : Sg} {ν : Lg} {R : Flow → Shared → Prop}
theorem law_F {n hf wh lg la sp lo hb : Nat} {x3 : Int} (H : LawK K) (G : PGood K lawSc 20) (ht : LT ν) (hn36 : n < 36) (hwh9 : wh < 9) (hla : la < 2)
    (h : ∀ ν', LT ν' → Tri K lawSc s0 false (midE n hf wh lg la sp x3 lo hb) ν' (lawB 16) R) : Tri K lawSc s0 false (midE n hf wh lg la sp x3 lo hb) ν (lawB 15) R := by
  have hk : PySem.Challenge.rw_uk0013_01 = PySem.Challenge.rw_uk0013_01 := rfl
  revert hk
  k_fill
  intro _
  show Tri _ _ _ _ _ _ (_ :: lawB 16) _
  have hl7 := found_len n hn36
  have hl1000 : (foundF n 9).length ≤ 1000 := Nat.le_trans hl7 (by decide)
  have hw8 : wh ≤ 8 := Nat.le_of_lt_succ hwh9
  have hpl : (plsN n).length = (foundF n 9).length := List.length_map ..
  have tup : ∀ {z : Bool} {ν : Lg} {a b c : Int} {k : Nat} {ka kb kc : Nat} {pa pb pc p : Pos}, Ex K lawSc s0 z (midE n hf wh lg la sp x3 lo hb) ν (.Tuple [.Constant (.int a) ka pa, .Constant (.int b) kb pb, .Constant (.int c) kc pc] k p) (.t (.p (.i a) (.p (.i b) (.p (.i c) .nl)))) (Ext ν) := ex_tup (exl_ev G .nil rfl trivial) (Nat.le_of_ble_eq_true rfl)
  refine tri_forO (n := 3) (fun m σ' ν' => LT ν' ∧ σ' = midE n hf wh lg la sp x3 lo hb) G H.own (src_enum G.env G.han G (ex_list (exl_cons tup fun _ _ => exl_cons tup fun _ _ => exl_cons tup fun _ _ => exl_nil) (Nat.le_of_ble_eq_true rfl)) rfl) (fun ν1 e => ⟨_, ⟨ht.mono e, rfl⟩, AllSub.of rfl⟩) (fun X kl hq G m σ' ν' hm hj hkl => ?_) fun σ' ν' hj => ?_
  · obtain ⟨hlt, rfl⟩ := hj
    refine ⟨((Str.ofString "corner"), colS (cor m)) :: ((Str.ofString "mark"), .i (m : Nat)) :: midE n hf wh lg la sp x3 lo hb, .inr ⟨_, _, _, .p (.i (m : Nat)) (.p (colS (cor m)) .nl), rfl, ?_, rfl⟩, ?_⟩
    · rcases m with _ | _ | _ | m
      · rfl
      · rfl
      · rfl
      · exact absurd hm (by lia)
    have hc := (cor_pl m hm).2
    have hB8 := Nat.le_trans hc.1 hc.2.1
    have ecl := H.cl.trans H.cells
    have nn : ∀ x : Nat, x ≤ 8 → (0 : Int) ≤ x ∧ (x : Int) ≤ 8 := fun x h => ⟨Int.natCast_nonneg x, Int.ofNat_le.mpr h⟩
    have OU : ∀ ν, OraOK (K.frs X) lawSc ν [((Str.ofString "max"), fun _ => φmax), ((Str.ofString "min"), fun _ => φmin)] := fun ν => .cons (c_max G rfl) (.cons (c_min G rfl) .nil)
    refine tri_asgX G (ex_itemE G (ex_call G .nil at_185 is_185 (by decide) rfl trivial (read_spec' (cor m).1 (cor m).2.1 (cor m).2.2 wh lg (nn _ hc.2.1) (nn _ hc.2.2.2) (nn _ hB8) (nn _ hw8)) gives_new) rfl trivial) fun ν2 S2 => ?_
    have lt2 := hlt.mono S2
    refine tri_asgX G (ex_sv (sv' := .i ((cntB false (plsN n) m : Nat) : Int)) (exE_bi G.env G (bi_len G) bt_len (.inl ⟨_, rfl⟩) no_len (by decide) (comp_ex (n := (plsN n).length) (σ0 := [((Str.ofString "mark"), .i (m : Nat))]) (σt := fun j => ((Str.ofString "place"), .i ((plsN n).getD j 0)) :: [((Str.ofString "mark"), .i (m : Nat))]) (b := fun j => decide ((plsN n).getD j 0 < 420 * (m : Int))) (out := fun _ => .i 1) (cl := [((Str.ofString "mark"), K.L + 1 + 1 + 1 + 1 + 1)]) (sv := .l (chainOf (outsUp (fun j => decide ((plsN n).getD j 0 < 420 * (m : Int))) (fun _ => .i 1) (plsN n).length))) G.env G (src_list G.han (ex_ev G .nil rfl trivial) rfl (.inl ⟨_, _, rfl⟩)) (hpl ▸ hl1000) (cells_in ⟨⟨rfl, rfl, rfl, _, by show K.ow.lookup _ = _; rw [H.cells]; rfl, rfl⟩, trivial⟩) (fun j hj => .name rfl rfl) (fun ν1 h j hj => ifs_one G.env rfl .nil rfl ⟨mul_l (by decide), trivial⟩) (fun ν1 h j hj _ => elt_ev G.env rfl .nil rfl trivial) (fun ν' u hu => hu) (by unfold PC.env; show closureFor _ (envX K.cn _ _ _ _ K.cl) = _; rw [ecl]; rfl)) rfl ⟨(show len (chainOf (outsUp (fun j => decide ((plsN n).getD j 0 < 420 * (m : Int))) (fun _ => .i 1) (plsN n).length)) < 2 ^ 63 by rw [cnt_len (d := 0) (plsN n) (fun p => decide (p < 420 * (m : Int))) fun _ => rfl]; exact Nat.lt_of_le_of_lt (List.length_filter_le _ _) (hpl ▸ Nat.lt_of_le_of_lt hl1000 (by decide))), trivial⟩) (fun ν2 u hu => by rw [cnt_len (d := 0) (plsN n) (fun p => decide (p < 420 * (m : Int))) fun _ => rfl] at hu; exact hu)) fun ν3 S3 => ?_
    have S3' : Ext ν2 ν3 := SC.ext (S := (· = ν2)) (fun _ e => e ▸ .refl) S3
    have lt3 := lt2.mono S3'
    refine tri_asgX G (ex_sv (sv' := .i ((cntB true (plsN n) m : Nat) : Int)) (exE_bi G.env G (bi_len G) bt_len (.inl ⟨_, rfl⟩) no_len (by decide) (comp_ex (n := (plsN n).length) (σ0 := [((Str.ofString "mark"), .i (m : Nat))]) (σt := fun j => ((Str.ofString "place"), .i ((plsN n).getD j 0)) :: [((Str.ofString "mark"), .i (m : Nat))]) (b := fun j => decide ((plsN n).getD j 0 ≤ 420 * (m : Int))) (out := fun _ => .i 1) (cl := [((Str.ofString "mark"), K.L + 1 + 1 + 1 + 1 + 1)]) (sv := .l (chainOf (outsUp (fun j => decide ((plsN n).getD j 0 ≤ 420 * (m : Int))) (fun _ => .i 1) (plsN n).length))) G.env G (src_list G.han (ex_ev G .nil rfl trivial) rfl (.inl ⟨_, _, rfl⟩)) (hpl ▸ hl1000) (cells_in ⟨⟨rfl, rfl, rfl, _, by show K.ow.lookup _ = _; rw [H.cells]; rfl, rfl⟩, trivial⟩) (fun j hj => .name rfl rfl) (fun ν1 h j hj => ifs_one G.env rfl .nil rfl ⟨mul_l (by decide), trivial⟩) (fun ν1 h j hj _ => elt_ev G.env rfl .nil rfl trivial) (fun ν' u hu => hu) (by unfold PC.env; show closureFor _ (envX K.cn _ _ _ _ K.cl) = _; rw [ecl]; rfl)) rfl ⟨(show len (chainOf (outsUp (fun j => decide ((plsN n).getD j 0 ≤ 420 * (m : Int))) (fun _ => .i 1) (plsN n).length)) < 2 ^ 63 by rw [cnt_len (d := 0) (plsN n) (fun p => decide (p ≤ 420 * (m : Int))) fun _ => rfl]; exact Nat.lt_of_le_of_lt (List.length_filter_le _ _) (hpl ▸ Nat.lt_of_le_of_lt hl1000 (by decide))), trivial⟩) (fun ν2 u hu => by rw [cnt_len (d := 0) (plsN n) (fun p => decide (p ≤ 420 * (m : Int))) fun _ => rfl] at hu; exact hu)) fun ν4 S4 => ?_
    have S4' : Ext ν3 ν4 := SC.ext (S := (· = ν3)) (fun _ e => e ▸ .refl) S4
    have lt4 := lt3.mono S4'
    refine tri_ifE (SL := fun ν5 => Keep ν4 ν5 ∧ LT ν5) (SR := fun ν5 ν6 => ν6 = ν5) (t := false) (ex_callKL (sv := .i (max (lo : Int) (min ((cntB false (plsN n) m : Nat) : Int) (((foundF n 9).length : Nat) - (hb : Nat))))) G H.frs lt4 at_bl is_bl (by decide) (exl_ev G .nil rfl trivial) fun ν5 us kf hu one kfn => (bis_row (wh := wh) (lg := lg) hl1000 (Int.natCast_nonneg lo) (Int.sub_le_self _ (Int.natCast_nonneg hb)) hu one kfn).1 fun j hj => key_c0 hn36 hla hm hw8 hj) (fun ν5 S5 => ex_ev G (OU _) rfl trivial) (fun _ _ _ _ _ h => (flat_is (x := .i _) rfl).1 _ h) (cmp_pure G (congrArg some (bne_eq_false_iff_eq.mpr (mx_eq _ _ _)))) (fun h => nomatch h) fun _ ν5 ν6 S5 S6 => tri_next ?_
    cases S6
    refine tri_ifE (SL := fun ν7 => Keep ν5 ν7 ∧ LT ν7) (SR := fun ν7 ν8 => ν8 = ν7) (t := false) (ex_callKL (sv := .i (max (lo : Int) (min ((cntB true (plsN n) m : Nat) : Int) (((foundF n 9).length : Nat) - (hb : Nat))))) G H.frs S5.2 at_br is_br (by decide) (exl_ev G .nil rfl trivial) fun ν7 us kf hu one kfn => (bis_row (wh := wh) (lg := lg) hl1000 (Int.natCast_nonneg lo) (Int.sub_le_self _ (Int.natCast_nonneg hb)) hu one kfn).2 fun j hj => key_c1 hn36 hla hm hw8 hj) (fun ν7 S7 => ex_ev G (OU _) rfl trivial) (fun _ _ _ _ _ h => (flat_is (x := .i _) rfl).1 _ h) (cmp_pure G (congrArg some (bne_eq_false_iff_eq.mpr (mx_eq _ _ _)))) (fun h => nomatch h) fun _ ν7 ν8 S7 S8 => tri_next ?_
    cases S8
    refine tri_fend (midE n hf wh lg la sp x3 lo hb) ν7 ⟨S7.2, rfl⟩ (fun p hp => ?_) (fun _ h => h) (sub_of (AllSub.get (.of rfl)))
    have hn : ¬ isTab p.2 := fun ⟨ps, _, e⟩ => by
      have := hq p hp
      unfold seqO at this
      rw [e] at this
      cases this
    exact S7.1 p (S5.1 p (S4' p (S3' p (S2 p (hkl p hp)))) hn) hn
  · obtain ⟨hlt, rfl⟩ := hj
    exact h ν' hlt
end
end Mine
end
noncomputable section
open PySem PySem.W PyProof.Rows PySem.Spec PySem.Calls
namespace Mine
set_option genInjectivity false
set_option genSizeOf false
theorem at_204 : ∀ P, nsIn (hd.heap_39 P) mainGlobals (Str.ofString "_law_forms") = some (some (.ref 204)) := fun P => by k_dflt k_is
theorem is_204 : FnIs 204 := fun P => ⟨_, _, _, _, by k_dflt k_is⟩
noncomputable def φforms : SV → R2 := one1 fun a => (iOf a).bind fun n => some (.i (ftot n 5), [0 ≤ n ∧ n ≤ 35])
theorem fn_forms : PureFn 204 1 φforms := fun ν us x hu => one1_is hu fun a u e ha => .bind (iOf_is ha) fun n ⟨t, e2⟩ hc => by
  subst e e2
  exact forms_spec' n hc.1 ν [.int n t] ⟨_, _, rfl, ⟨t, rfl⟩, rfl⟩
theorem grey_eq (c : Col) : ((((c.1 : Nat) : Int) == ((c.2.1 : Nat) : Int)) && (((c.2.1 : Nat) : Int) == ((c.2.2 : Nat) : Int))) = greyP c := by
  unfold greyP
  rw [Bool.eq_iff_iff, Bool.and_eq_true, beq_iff_eq, beq_iff_eq, decide_eq_true_eq, Int.ofNat_inj, Int.ofNat_inj]
theorem map_getD {l : List Nat} {k : Nat} : (l.map fun x : Nat => (x : Int)).getD k 0 = ((l.getD k 0 : Nat) : Int) := by
  rw [List.getD_eq_getElem?_getD, List.getElem?_map, List.getD_eq_getElem?_getD]
  cases l[k]? <;> rfl
section
variable {ν : Lg}
/-- bisect_left over the whole row -/
theorem bis_all {n la wh lg kf c : Nat} {x : UInt64} {us : List Value} (hN : (foundF n 9).length ≤ 1000) (hc : c ≤ (foundF n 9).length) (hu : IsL ν (.p (.l (chainOf (rowS n la wh lg (foundF n 9).length))) (.p (.f x false) .nl)) us) (one : One ν) (hk : ∀ vs κ, (∀ u ∈ vs, EntK ν (κ u) u) → KeyFn kf vs κ ν) (hx : ∀ j, j < (foundF n 9).length → ((Float64.cmp (hueR n la wh lg (foundF n 9).length j) x == some Ordering.lt) = true ↔ j < c)) : MCk 67 2 us [(Str.ofString "key", .ref kf)] (fun n => ∀ p ∈ ν, p ∈ n) (Val (.i (c : Nat))) := by
  obtain ⟨ua, _, rfl, ⟨q, ws, n0, rfl, hm, hws⟩, ux, _, rfl, ⟨t, rfl, _⟩, rfl⟩ := hu
  have hl := row_vlen hws
  have ky : ∀ j, j < (foundF n 9).length → keyOf ν (ws.getD j .none) = hueR n la wh lg (foundF n 9).length j := fun j hj => (keyOf_at (row_key hws hj)).uniq one (row_key hws hj)
  have kf := hk ws (keyOf ν) fun u hu => (row_keys hws u hu).elim fun k hk => keyOf_at hk
  have := bislk_spec ws (keyOf ν) x _ q 0 ws.length (.v .none) c (.inr ⟨rfl, rfl⟩) (hl ▸ hN) (Int.le_refl 0) (Int.le_refl _) (fun j hj => by rw [hl] at hj; rw [ky j hj]; exact hx j hj) kf ⟨rfl, n0, hm⟩ ⟨t, rfl, nofun⟩ ⟨_, rfl⟩ rfl bnd_lk2
  rw [show max (0 : Int) (min (c : Int) (ws.length : Int)) = (c : Int) by rw [hl]; lia] at this
  exact this
end
section
variable {K : PC} {lv : Nat} {s0 : Shared} {σ : Sg} {ν : Lg} {R : Flow → Shared → Prop}
theorem law_G {n hf wh lg la sp lo hb : Nat} {x3 : Int} (H : LawK K) (G : PGood K lawSc 20) (ht : LT ν) (hn36 : n < 36) (hhf : hf = n / 2 + 1) (hwh9 : wh < 9) (hla : la < 2)
    (h : ∀ ν', LT ν' → Tri K lawSc s0 false (((Str.ofString "classes"), .i (cntB false (plsN n) 2 : Nat)) :: midE n hf wh lg la sp x3 lo hb) ν' (lawB 19) R) : Tri K lawSc s0 false (midE n hf wh lg la sp x3 lo hb) ν (lawB 16) R := by
  have hk : PySem.Challenge.rw_uk0013_01 = PySem.Challenge.rw_uk0013_01 := rfl
  revert hk
  k_fill
  intro _
  show Tri _ _ _ _ _ _ (_ :: _ :: _ :: lawB 19) _
  have hl7 := found_len n hn36
  have hl1000 : (foundF n 9).length ≤ 1000 := Nat.le_trans hl7 (by decide)
  have hw8 : wh ≤ 8 := Nat.le_of_lt_succ hwh9
  have hg := cnt_len (d := (0, 0, 0)) (foundF n 9) greyP fun j => grey_eq (colAt (foundF n 9) j)
  have hcn := (cnt_at hn36 hla (show 2 < 3 by decide)).1
  refine tri_asgX G (ex_callKL (sv := .i (cntB false (plsN n) 2 : Nat)) G H ht at_bl is_bl (by decide) (exl_cons (ex_pure G .nil rfl trivial) fun ν1 _ => exl_cons (ex_itemE G (ex_callFX G at_185 is_185 (by decide) (exl_cons (ex_tup (exl_ev G .nil rfl trivial) (Nat.le_of_ble_eq_true rfl)) fun ν2 _ => exl_ev G .nil rfl trivial) (read_spec' 0 1 0 wh lg (by decide) (by decide) (by decide) ⟨Int.natCast_nonneg _, Int.ofNat_le.mpr hw8⟩)) rfl trivial) fun _ _ => exl_nil) fun ν2 us kf hu one kfn => bis_all (wh := wh) (lg := lg) hl1000 hcn hu one kfn fun j hj => key_c0 hn36 hla (show 2 < 3 by decide) hw8 hj) fun ν3 S3 => ?_
  replace ht := S3.2
  clear S3
  refine tri_asgX G (ex_sv (sv' := .i (greyB (foundF n 9) : Nat)) (exE_bi G.env G (bi_len G) bt_len (.inl ⟨_, rfl⟩) no_len (by decide) (comp_ex (n := (foundF n 9).length) (σ0 := []) (σt := fun j => [((Str.ofString "b"), .i ((colAt (foundF n 9) j).2.2 : Nat)), ((Str.ofString "g"), .i ((colAt (foundF n 9) j).2.1 : Nat)), ((Str.ofString "r"), .i ((colAt (foundF n 9) j).1 : Nat))]) (b := fun j => ((((colAt (foundF n 9) j).1 : Nat) : Int) == (((colAt (foundF n 9) j).2.1 : Nat) : Int)) && ((((colAt (foundF n 9) j).2.1 : Nat) : Int) == (((colAt (foundF n 9) j).2.2 : Nat) : Int))) (out := fun _ => .i 1) (cl := []) (sv := .l (chainOf (outsUp (fun j => ((((colAt (foundF n 9) j).1 : Nat) : Int) == (((colAt (foundF n 9) j).2.1 : Nat) : Int)) && ((((colAt (foundF n 9) j).2.1 : Nat) : Int) == (((colAt (foundF n 9) j).2.2 : Nat) : Int))) (fun _ => .i 1) (foundF n 9).length))) G.env G (src_list G.han (ex_ev G .nil rfl trivial) (by show some (_, _) = some (_, _); rw [found_clen]) (.inr ⟨⟨_, _, _, rfl⟩, fun j hj => ⟨_, found_col hj⟩⟩)) hl1000 (cells_in trivial) (fun j hj => .inr ⟨_, _, _, _, rfl, found_col hj, rfl⟩) (fun ν1 h j hj => ifs_chain G.env rfl .nil rfl trivial rfl trivial rfl trivial rfl rfl) (fun ν1 h j hj _ => elt_ev G.env rfl .nil rfl trivial) (fun ν' u hu => hu) rfl) rfl ?c1) (fun ν2 u hu => ?c2)) fun ν4 S4 => ?_
  case c1 => exact ⟨(show len _ < 2 ^ 63 by rw [hg]; exact Nat.lt_of_le_of_lt (List.length_filter_le _ _) (Nat.lt_of_le_of_lt hl1000 (by decide))), trivial⟩
  case c2 => rw [hg] at hu; exact hu
  replace ht := ht.mono (SC.ext (S := (· = ν3)) (fun _ e => e ▸ .refl) S4)
  clear S4 hg
  have hh18 : hf ≤ 18 := by lia
  have hel : ((eDs (2 * hf)).map fun x : Nat => (x : Int)).length = 2 * hf + 1 := (List.length_map ..).trans (cube_eq (w := 8) (hhf ▸ Nat.succ_pos _) hh18 (Nat.le_refl 8)).2.1
  have hsub : ((2 * hf : Nat) : Int) - (n : Int) = ((2 * hf - n : Nat) : Int) := by lia
  have O : OraOK K lawSc ν4 [((Str.ofString "_law_forms"), fun _ => φforms)] := .cons (cal_fn G fn_forms at_204 is_204 (by decide)) .nil
  refine tri_if G O rfl ⟨⟨Int.natCast_nonneg n, Int.ofNat_le.mpr (Nat.le_of_lt_succ hn36)⟩, fun _ => ⟨⟨by rw [hsub]; exact Int.natCast_nonneg _, by rw [hsub, hel]; exact Nat.lt_succ_of_le (Nat.sub_le _ _), by rw [hel]; exact Nat.le_trans (Nat.succ_le_succ (Nat.mul_le_mul_left 2 hh18)) (by decide)⟩, mul_l (by decide), mul_l (by decide), trivial⟩, trivial⟩ (fun hc => ?_) fun _ => tri_next (tri_mono (h ν4 ht) (fun h => nomatch h) (fun _ h => h) (sub_of (AllSub.get (.of rfl))))
  have e1 : ((((cntB false (plsN n) 2 : Nat) : Int) != ftot n 5)) = false := bne_eq_false_iff_eq.mpr (cls_forms n hn36)
  have e2 : (((eDs (2 * hf)).map fun x : Nat => (x : Int)).getD (((2 * hf : Nat) : Int) - (n : Int)).toNat 0 != 3 * ((cntB false (plsN n) 2 : Nat) : Int) - 2 * ((greyB (foundF n 9) : Nat) : Int)) = false := bne_eq_false_iff_eq.mpr (by rw [hsub, Int.toNat_natCast, map_getD, tail_at hn36 hhf])
  have hc : (_ || _) = true := hc
  rw [e1, e2] at hc
  cases hc
end
end Mine
end
noncomputable section
open PySem PySem.W PyProof.Rows PySem.Spec PySem.Calls
namespace Mine
set_option genInjectivity false
set_option genSizeOf false
/-- the first ones of a list -/
theorem upto_pick {ν : Lg} {l : List SV} {c : Nat} (hz : l.length ≤ 1000) {u : Value} (h : Is ν (.l (chainOf l)) u) : ∃ q us n, u = .ref q ∧ (q, listO us n) ∈ ν ∧ us.length ≤ 1000 ∧ ∀ ν' D, (∀ p ∈ ν, p ∈ ν') → (D, listO (slicePick us.toArray none (some ((c : Nat) : Int)) none).toList 0) ∈ ν' → Is ν' (.l (chainOf (l.take c))) (.ref D) := by
  obtain ⟨q, us, n, e, hm, hi⟩ := h
  refine ⟨q, us, n, e, hm, chain_len hi ▸ hz, fun ν' D hs hD => ⟨D, _, 0, rfl, hD, ?_⟩⟩
  rw [slicePick_upto', List.toList_toArray, List.toList_toArray]
  exact (chain_cut c hi).1.mono hs
/-- no reader has booked a token -/
theorem booked {P : Params} {h : Heap} (X : (hd.heap_39 P).In h) : NoneBooked h :=
  have e : nsOkIn (hd.heap_39 P) cStatics = true := by with_unfolding_all rfl
  ⟨h.nsMap cStatics, .of_isNs (isNs_of_in X e), nsMap_none_of_in X e (by with_unfolding_all rfl)⟩
section
variable {prog : Program} {w : World} {A : Around} {E : Value → Shared → Prop} {s : Shared}
theorem same_float {x : UInt64} {t u : Tok} (ht : t ≠ 0) (hu : u ≠ 0) (hb : NoneBooked s.heap) {Q : Bool → Shared → Prop} (hq : ∀ b, Q b s) : wpAny (model prog w) A (isSame (.float x t) (.float x u)) Q E s := by
  show wpAny _ A (isSame.created _ t u) Q E s
  unfold isSame.created
  have h0 : (t == 0 || u == 0) = false := by simp [ht, hu]
  refine wpAny_ite ?_
  split
  · rename_i h; rw [h0] at h; exact absurd h Bool.false_ne_true
  refine wpAny_ite ?_
  split
  · exact wpAny_pure (hq _)
  refine wpAny_ite ?_
  split
  · exact wpAny_pure (hq _)
  refine wpAny_bind (wpAny_sharingNotTold_none hb ?_)
  rw [if_neg Bool.false_ne_true]
  refine wpAny_bind (wpAny_sharingNotTold_none hb ?_)
  rw [if_neg Bool.false_ne_true]
  exact wpAny_bind (wpAny_rule (wpAny_bind (wpAny_askSetting (wpAny_pure (hq _)))))
theorem eqAt_float {x : UInt64} {t u : Tok} (ht : t ≠ 0) (hu : u ≠ 0) (hb : NoneBooked s.heap) (hx : (Float64.cmp x x == some Ordering.eq) = true) : PySem.SeqAt.EqAt A s (.float x t) (.float x u) true := fun prog w E Q h => by
  unfold eqBool
  refine wpAny_holding ?_
  refine wpAny_ite_split (fun _ => wpAny_bind (wpAny_rule (wpAny_pure h))) fun _ => ?_
  refine wpAny_bind (same_float ht hu hb fun b => ?_)
  cases b with
  | true => exact wpAny_pure h
  | false =>
    have e : wpAny (model prog w) A (compareOp .Eq (.float x t) (.float x u)) (fun v s' => wpAny (model prog w) A (truthOfDropped v) Q E s') E s := AutoFloatOps.eq_0 (by rw [hx]; exact wpAny_truthy_bool h)
    exact wpAny_bind e
end
section
variable {K : PC} {sc : Scope} {lv : Nat} {ν ν' ν1 ν2 : Lg} {s0 : Shared} {σ σ' : Sg} {z z' z1 t : Bool} {s : Shared} {Φ : Ora} {R : Flow → Shared → Prop} {rest body : List Stmt} {E Q : Value → Shared → Prop} {x a b sv : SV} {p pos p2 : Pos} {c : List Prop}
/-- two equal rests of told tuples -/
theorem cmp_ft {x y : UInt64} (G : PGood K sc lv) (hlv : 1 ≤ lv) (hx : (Float64.cmp x x == some Ordering.eq) = true) (hy : (Float64.cmp y y == some Ordering.eq) = true) : CmpK K sc s0 σ .NotEq (.t (.p (.f x true) (.p (.f y true) .nl))) (.t (.p (.f x true) (.p (.f y true) .nl))) false := by
  rintro ν s u1 u2 E Q hs ⟨q1, _, rfl, m1, _, _, rfl, ⟨t1, rfl, n1⟩, _, _, rfl, ⟨t2, rfl, n2⟩, rfl⟩ ⟨q2, _, rfl, m2, _, _, rfl, ⟨t3, rfl, n3⟩, _, _, rfl, ⟨t4, rfl, n4⟩, rfl⟩ hq
  have hB : NoneBooked s.heap := by
    refine PAt.el hs fun m cm κ D => ?_
    refine G.xt fun _ _ _ _ _ X T => ?_
    exact booked (X.keeps D.F.keep)
  refine PySem.SeqAt.RcNeAt.tuples (items := #[.float x t1, .float y t2]) (items2 := #[.float x t3, .float y t4]) (e := fun _ => true) ⟨_, hs.new m1, rfl, 0, rfl⟩ ⟨_, hs.new m2, rfl, 0, rfl⟩ (Nat.lt_of_le_of_lt (Nat.le_add_right _ 64) (G.room hlv)) (fun j h1' h2' => ?_) _ K.w E Q (hq s hs)
  rcases j with _ | _ | j
  · exact eqAt_float (n1 rfl) (n3 rfl) hB hx
  · exact eqAt_float (n2 rfl) (n4 rfl) hB hy
  · exact absurd h1' (by simp)
/-- x[1:] of a tuple -/
theorem ex_sliceT {w : Str} {k : Nat} {np sp kp : Pos} (G : PGood K sc lv) (hl : σ.lookup w = some (.t (.p a x))) (hz : Nat.ble (len x) 1000 = true := by rfl) : Ex K sc s0 z σ ν (.Subscript (.Name w np) (.Slice (some (.Constant (.int 1) k kp)) none none sp) p) (.t x) (Ext ν) := fun s E Q hs h => by
  refine Subscript_ ((ev_of G .nil).loc hl rfl hs fun u hu => wpAny_Slice (wpAny_Constant_int (k := k) (pos := kp) (wpAny_pure (wpAny_pure ?_))))
  obtain ⟨q, us, rfl, hm, u0, ur, rfl, h1, h2⟩ := hu
  replace h2 : IsL ν x ur := h2
  refine PAt.el hs.tick fun m cm κ D => ?_
  refine slice_tuple_from (items := (u0 :: ur).toArray) D.F D.N ⟨_, (D.N _ (List.mem_append_left _ hm)).1, rfl, 0, rfl⟩ (a := 1) (Nat.le_refl 1) (by rw [List.size_toArray]; exact Nat.le_add_left 1 _) (fun h' F' N' => ?_) (hsz := ?_)
  · refine h _ ((_, tupO ur) :: ν) _ ⟨m, cm, κ, D.heap (s.toks + 1) F' N' (fun p hp => ?_) fun sv u => Is.mono fun _ => .tail _⟩ .one ⟨_, ur, rfl, .head _, h2.mono fun _ => .tail _⟩
    refine mem_c hp ?_ fun hp => ?_
    · exact fun hq => Nat.lt_irrefl _ (Nat.lt_trans (Nat.lt_succ_self _) (D.lt hq))
    · exact D.O p hp
  · rw [List.size_toArray, List.length_cons, h2.length]
    exact Nat.le_trans (Nat.succ_le_succ (Nat.le_of_ble_eq_true hz)) (Nat.le_of_ble_eq_true rfl)
/-- if l op r or t, the first may leave things behind -/
theorem tri_ifOr {l r e2 : Expr} {op : CmpOp} {cp bp : Pos} {bd oe : List Stmt} (G : PGood K sc lv) (XL : Ex K sc s0 z σ ν l a (Ext ν)) (XR : ∀ ν1, Ext ν ν1 → Ex K sc s0 false σ ν1 r b (Ext ν1)) (C : CmpK K sc s0 σ op a b false) (O : ∀ ν2, OraOK K sc ν2 Φ) (he : ts Φ σ false e2 = some (t, z', c)) (hc : All c)
    (h1 : t = true → ∀ ν2, Ext ν ν2 → Tri K sc s0 false σ ν2 bd (sq K sc rest R)) (h2 : t = false → ∀ ν2, Ext ν ν2 → Tri K sc s0 false σ ν2 oe (sq K sc rest R)) (hm : behindInMarks op r = false := by rfl) : Tri K sc s0 z σ ν (.If (.BoolOp .Or [.Compare l [op] [r] cp, e2] bp) bd oe p2 :: rest) R := fun s hs =>
  wpAny_execs_cons (wpAny_If (wpAny_isTrue_BoolOp (wpAny_allTrue_Or_cons (wpAny_isTrue_Compare1 (XL s _ _ hs fun u1 ν1 s1 hs1 S1 i1 => XR ν1 S1 s1 _ _ hs1 fun u2 ν2 s2 hs2 S2 i2 => C ν2 s2 u1 u2 _ _ hs2 (i1.mono S2) i2 fun s3 hs3 => wpAny_truthy_bool (wpAny_allTrue_Or_cons (ts_ok (ev_of G (O ν2)) he hc hs3 fun s4 hs4 => by
    cases t with
    | true => exact h1 rfl ν2 (S1.trans S2) _ hs4.weak
    | false => exact wpAny_allTrue_Or_nil (h2 rfl ν2 (S1.trans S2) _ hs4.weak)))) hm))))
end
end Mine
end
noncomputable section
open PySem PySem.W PyProof.Rows PySem.Spec PySem.Calls
namespace Mine
open PySem.Float64 (decode val Right V dist pack infMag V_at V_lt V_mono decode_pack val_natAbs val_eq sgn nearestOf halfEven shift)
/-- a float from below and above, in units -/
noncomputable def Enc (U : Nat) (x : UInt64) (a b : Nat) : Prop := ∃ m e, decode x = .fin false m e ∧ a * U ≤ m * 2 ^ (e + 1074).toNat ∧ m * 2 ^ (e + 1074).toNat ≤ b * U
theorem rep {j : Nat} (hj : 52 ≤ j) (a : Nat) (ha : a < 2 ^ 53) : ∃ t, V t = a * 2 ^ j := by
  by_cases h0 : a = 0
  · exact ⟨0, by subst h0; unfold V; simp⟩
  · have hl : a.log2 < 53 := (Nat.log2_lt h0).mpr ha
    have h1 := Nat.log2_self_le h0
    have h2 := @Nat.lt_log2_self a
    refine ⟨(j - (52 - a.log2)) * 2 ^ 52 + a * 2 ^ (52 - a.log2), ?_⟩
    have e1 : 2 ^ 52 = 2 ^ a.log2 * 2 ^ (52 - a.log2) := by rw [← Nat.pow_add]; congr 1; lia
    have e2 : 2 ^ 53 = 2 ^ (a.log2 + 1) * 2 ^ (52 - a.log2) := by rw [← Nat.pow_add]; congr 1; lia
    rw [V_at (by rw [e2]; exact Nat.mul_le_mul_right _ (Nat.le_of_lt h2)) (.inl (by rw [e1]; exact Nat.mul_le_mul_right _ h1)), Nat.mul_assoc, ← Nat.pow_add]
    congr 2; lia
theorem dist_lo {W p q : Nat} (h : dist W p ≤ dist W q) (hq : q ≤ W) : q ≤ p := by unfold dist at h; lia
theorem dist_hi {W p q : Nat} (h : dist W p ≤ dist W q) (hq : W ≤ q) : p ≤ q := by unfold dist at h; lia
theorem big_lt : 2 * (2 ^ 53 * 2 ^ 1060) < (2 ^ 54 - 1) * 2 ^ 2045 := by decide +kernel
theorem lt_gen {b c B J T : Nat} (hb : b ≤ B) (hj : c ≤ J) (h : 2 * (B * J) < T) : 2 * (b * c) < T := Nat.lt_of_le_of_lt (Nat.mul_le_mul_left 2 (Nat.mul_le_mul hb hj)) h
theorem right_enc {z : UInt64} {W D a b j : Nat} (hR : Right z false W D) (hD : 0 < D) (hj : 52 ≤ j) (hj2 : j ≤ 1060) (ha : D * (a * 2 ^ j) ≤ W) (hb : W ≤ D * (b * 2 ^ j)) (hb53 : b < 2 ^ 53) : Enc (2 ^ j) z a b := by
  obtain ⟨t, rfl, hle, hov, hn⟩ := hR
  have hab : a ≤ b := Nat.le_of_mul_le_mul_right (Nat.le_of_mul_le_mul_left (Nat.le_trans ha hb) hD) (Nat.two_pow_pos j)
  have hlt : t < infMag := Nat.lt_of_le_of_ne hle fun e => Nat.lt_irrefl _ (Nat.lt_of_lt_of_le (lt_gen (Nat.le_of_lt hb53) (Nat.pow_le_pow_right (by decide) hj2) big_lt) (Nat.le_of_mul_le_mul_left (Nat.le_trans (hov.mp e) (Nat.le_trans (Nat.mul_le_mul_left 2 hb) (Nat.le_of_eq (Nat.mul_left_comm _ _ _)))) hD))
  obtain ⟨ta, eta⟩ := rep hj a (Nat.lt_of_le_of_lt hab hb53)
  obtain ⟨tb, etb⟩ := rep hj b hb53
  obtain ⟨m, e, hd, hv⟩ := decode_pack false hlt
  rw [← eta] at ha
  rw [← etb] at hb
  exact ⟨m, e, hd, eta ▸ hv ▸ Nat.le_of_mul_le_mul_left (dist_lo (hn hlt ta).1 ha) hD, etb ▸ hv ▸ Nat.le_of_mul_le_mul_left (dist_hi (hn hlt tb).1 hb) hD⟩
/-- a sum or a difference that is not below nought -/
theorem enc_of {z : UInt64} {N a b j : Nat} {g : Bool} (hg : g = false) {i : Int} (hi : i = (N : Int)) (h : (i = 0 → z = Float64.zero g) ∧ (i ≠ 0 → Right z (decide (i < 0)) i.natAbs 1)) (hj : 52 ≤ j) (hj2 : j ≤ 1060) (ha : a * 2 ^ j ≤ N) (hb : N ≤ b * 2 ^ j) (hb53 : b < 2 ^ 53) : Enc (2 ^ j) z a b := by
  subst hi hg
  by_cases e : (N : Int) = 0
  · rw [h.1 e]
    have e : N = 0 := Int.ofNat.inj e
    obtain ⟨m, x, hd, hv⟩ := decode_pack false (t := 0) (by decide)
    rw [Float64.V_zero] at hv
    exact ⟨m, x, hd, hv ▸ e ▸ ha, hv ▸ Nat.zero_le _⟩
  · have hR := h.2 e
    rw [decide_eq_false (Int.not_lt.mpr (Int.natCast_nonneg N)), Int.natAbs_natCast] at hR
    exact right_enc hR (by decide) hj hj2 ((Nat.one_mul _).symm ▸ ha) ((Nat.one_mul _).symm ▸ hb) hb53
theorem val_fin {x : UInt64} {m : Nat} {e : Int} (h : decode x = .fin false m e) : val x = ((m * 2 ^ (e + 1074).toNat : Nat) : Int) := val_eq h
section
variable {x y : UInt64} {a b c d j : Nat}
theorem Enc.add (hx : Enc (2 ^ j) x a b) (hy : Enc (2 ^ j) y c d) (hj : 52 ≤ j) (hj2 : j ≤ 1060) (hb : b + d < 2 ^ 53) : Enc (2 ^ j) (Float64.add x y) (a + c) (b + d) := by
  obtain ⟨m, e, h1, h2, h3⟩ := hx
  obtain ⟨k, f, h4, h5, h6⟩ := hy
  have hr := Float64.add_right h1 h4
  rw [val_fin h1, val_fin h4] at hr
  exact enc_of rfl (Int.natCast_add _ _).symm hr hj hj2 (Nat.add_mul .. ▸ Nat.add_le_add h2 h5) (Nat.add_mul .. ▸ Nat.add_le_add h3 h6) hb
theorem sub_nat {v w : Nat} (h : w ≤ v) : (v : Int) - (w : Int) = ((v - w : Nat) : Int) := (Int.ofNat_sub h).symm
theorem Enc.sub (hx : Enc (2 ^ j) x a b) (hy : Enc (2 ^ j) y c d) (hj : 52 ≤ j) (hj2 : j ≤ 1060) (hda : d ≤ a) (hb : b < 2 ^ 53) : Enc (2 ^ j) (Float64.sub x y) (a - d) (b - c) := by
  obtain ⟨m, e, h1, h2, h3⟩ := hx
  obtain ⟨k, f, h4, h5, h6⟩ := hy
  have hr := Float64.sub_right h1 h4
  rw [val_fin h1, val_fin h4] at hr
  exact enc_of rfl (sub_nat (Nat.le_trans h6 (Nat.le_trans (Nat.mul_le_mul_right _ hda) h2))) hr hj hj2 (Nat.sub_mul .. ▸ Nat.le_trans (Nat.sub_le_sub_left h6 _) (Nat.sub_le_sub_right h2 _)) (Nat.sub_mul .. ▸ Nat.le_trans (Nat.sub_le_sub_left h5 _) (Nat.sub_le_sub_right h3 _)) (Nat.lt_of_le_of_lt (Nat.sub_le _ _) hb)
theorem Enc.mulW {i l : Nat} {p q : Nat} (hx : Enc (2 ^ j) x a b) (hy : Enc (2 ^ l) y c d) (hi : 52 ≤ i) (hi2 : i ≤ 1060) (hp : p * 2 ^ i * 2 ^ 1074 ≤ a * c * (2 ^ j * 2 ^ l)) (hq : b * d * (2 ^ j * 2 ^ l) ≤ q * 2 ^ i * 2 ^ 1074) (hb : q < 2 ^ 53) : Enc (2 ^ i) (Float64.mul x y) p q := by
  obtain ⟨m, e, h1, h2, h3⟩ := hx
  obtain ⟨k, f, h4, h5, h6⟩ := hy
  have hR := Float64.mul_right h1 h4
  rw [val_fin h1, val_fin h4, Int.natAbs_natCast, Int.natAbs_natCast] at hR
  generalize m * 2 ^ (e + 1074).toNat = v at *
  generalize k * 2 ^ (f + 1074).toNat = w at *
  have m1 := Nat.mul_le_mul h2 h5
  have m2 := Nat.mul_le_mul h3 h6
  rw [show a * 2 ^ j * (c * 2 ^ l) = a * c * (2 ^ j * 2 ^ l) by ac_rfl] at m1
  rw [show b * 2 ^ j * (d * 2 ^ l) = b * d * (2 ^ j * 2 ^ l) by ac_rfl] at m2
  exact right_enc hR (Nat.two_pow_pos _) hi hi2 (Nat.le_trans (Nat.le_of_eq (Nat.mul_comm _ _)) (Nat.le_trans hp m1)) (Nat.le_trans (Nat.le_trans m2 hq) (Nat.le_of_eq (Nat.mul_comm _ _))) hb
/-- the unit is 2^-48 -/
noncomputable abbrev U0 : Nat := 2 ^ 1026
theorem Enc.mul {p q : Nat} (hx : Enc U0 x a b) (hy : Enc U0 y c d) (hp : p * 2 ^ 48 ≤ a * c) (hq : b * d ≤ q * 2 ^ 48) (hb : q < 2 ^ 53) : Enc U0 (Float64.mul x y) p q := by
  have e : ∀ n : Nat, n * 2 ^ 1026 * 2 ^ 1074 = n * 2 ^ 48 * (2 ^ 1026 * 2 ^ 1026) := fun n => by
    rw [Nat.mul_assoc, Nat.mul_assoc, ← Nat.pow_add, ← Nat.pow_add, ← Nat.pow_add]
  refine hx.mulW hy (by decide) (by decide) ?_ ?_ hb
  · rw [e]; exact Nat.mul_le_mul_right _ hp
  · rw [e]; exact Nat.mul_le_mul_right _ hq
theorem Enc.ok {U : Nat} (hx : Enc U x a b) : Float64.isNaN x = false ∧ Float64.isInf x = false := by
  obtain ⟨m, e, h, _⟩ := hx
  unfold Float64.isNaN Float64.isInf
  rw [h]; exact ⟨rfl, rfl⟩
theorem near_N {n d N : Nat} (hd : 0 < d) (h1 : 4 * N * d ≤ 4 * n + d) (h2 : 4 * n ≤ (4 * N + 1) * d) : halfEven n d = N := by
  have e2 : (4 * N + 1) * d = 4 * (N * d) + d := by rw [Nat.add_mul, Nat.mul_assoc, Nat.one_mul]
  have e1 : 4 * N * d = 4 * (N * d) := Nat.mul_assoc _ _ _
  rw [e2] at h2
  rw [e1] at h1
  unfold halfEven
  dsimp only
  have hm := Nat.div_add_mod n d
  have hr := Nat.mod_lt n hd
  generalize n % d = r at *
  rcases Nat.lt_or_ge n (N * d) with h | h
  · have hN : 0 < N := by
      rcases Nat.eq_zero_or_pos N with h3 | h3
      · subst h3; lia
      · exact h3
    have hq : n / d = N - 1 := by
      refine Nat.le_antisymm ?_ ?_
      · have := (Nat.div_lt_iff_lt_mul hd).mpr h; lia
      · refine (Nat.le_div_iff_mul_le hd).mpr ?_
        rw [Nat.sub_mul]; lia
    rw [hq] at hm ⊢
    have e3 : d * (N - 1) = N * d - d := by rw [Nat.mul_sub, Nat.mul_one, Nat.mul_comm]
    have e4 : d ≤ N * d := Nat.le_mul_of_pos_left _ hN
    rw [if_pos (by simp; lia)]; lia
  · have hq : n / d = N := by
      refine Nat.le_antisymm ?_ ((Nat.le_div_iff_mul_le hd).mpr h)
      have : n / d < N + 1 := (Nat.div_lt_iff_lt_mul hd).mpr (by rw [Nat.add_mul]; lia)
      lia
    rw [hq] at hm ⊢
    have e3 : d * N = N * d := Nat.mul_comm _ _
    rw [if_neg (by simp; lia)]
theorem enc_near {N : Nat} (hx : Enc (2 ^ 1054) x a b) (ha : N * 2 ^ 20 ≤ a + 2 ^ 18) (hb : b ≤ N * 2 ^ 20 + 2 ^ 18) : Flt.toInt nearestOf x = N := by
  obtain ⟨m, e, h, h1, h2⟩ := hx
  unfold Flt.toInt
  rw [h]
  show sgn false (halfEven (shift m 1 e).1 (shift m 1 e).2) = (N : Int)
  have hs := Float64.shift_one m e 1074 (by have := Float64.decode_ge h; lia)
  have hp := Float64.shift_pos m 1 e (by decide)
  generalize (shift m 1 e).1 = n at *
  generalize (shift m 1 e).2 = d at *
  have e1 : (e + ((1074 : Nat) : Int)).toNat = (e + 1074).toNat := rfl
  rw [e1] at hs
  generalize m * 2 ^ (e + 1074).toNat = v at *
  have k1 : (2 : Nat) ^ 1074 = 2 ^ 18 * 4 * 2 ^ 1054 := by decide +kernel
  have g1 : N * 2 ^ 20 * 2 ^ 1054 ≤ v + 2 ^ 18 * 2 ^ 1054 := by
    have := Nat.mul_le_mul_right (2 ^ 1054) ha
    rw [Nat.add_mul] at this
    lia
  have g2 : v ≤ N * 2 ^ 20 * 2 ^ 1054 + 2 ^ 18 * 2 ^ 1054 := by
    have := Nat.mul_le_mul_right (2 ^ 1054) hb
    rw [Nat.add_mul] at this
    lia
  generalize hK : (2 : Nat) ^ 18 * 2 ^ 1054 = K at *
  have hKp : 0 < K := by rw [← hK]; exact Nat.mul_pos (by decide) (Nat.two_pow_pos _)
  rw [show N * 2 ^ 20 * 2 ^ 1054 = 4 * N * K by rw [← hK]; lia] at g1 g2
  rw [k1, show 2 ^ 18 * 4 * 2 ^ 1054 = 4 * K by rw [← hK]; lia] at hs
  have : halfEven n d = N := by
    refine near_N hp ?_ ?_
    · refine Nat.le_of_mul_le_mul_right (c := K) ?_ hKp
      have := Nat.mul_le_mul_right d g1
      rw [Nat.add_mul] at this ⊢
      rw [show 4 * N * d * K = 4 * N * K * d by ac_rfl, show 4 * n * K = n * (4 * K) by ac_rfl, hs, Nat.mul_comm d K]
      exact this
    · refine Nat.le_of_mul_le_mul_right (c := K) ?_ hKp
      have := Nat.mul_le_mul_right d g2
      rw [show 4 * n * K = n * (4 * K) by ac_rfl, hs, show (4 * N + 1) * d * K = (4 * N * K + K) * d by rw [Nat.add_mul, Nat.add_mul, Nat.add_mul]; ac_rfl]
      exact this
  rw [this]; rfl
theorem c16_enc : Enc (2 ^ 1054) c16 (16000000 * 2 ^ 20) (16000000 * 2 ^ 20) := by
  have h := Float64.ofInt_right (16 * 10 ^ Int.toNat 6)
  rw [show decide ((16 * 10 ^ Int.toNat 6 : Int) < 0) = false from rfl] at h
  exact right_enc h (by decide) (by decide) (by decide) (by decide +kernel) (by decide +kernel) (by decide)
theorem rn1 (N : Nat) : N * 2 ^ 20 ≤ N * 2 ^ 20 - 2 ^ 18 + 2 ^ 18 := by lia
theorem rn2 (N : Nat) (h : N ≤ 2 ^ 30) : N * 2 ^ 20 + 2 ^ 18 < 2 ^ 53 := by lia
theorem rn3 (P p k q : Nat) (e : P + p = k + q) (u v : Nat) (h : u * 2 ^ k ≤ v) : u * 2 ^ P * 2 ^ p ≤ v * 2 ^ q := by
  rw [Nat.mul_assoc, ← Nat.pow_add, e, Nat.pow_add, ← Nat.mul_assoc]
  exact Nat.mul_le_mul_right _ h
theorem rn4 (P p k q : Nat) (e : P + p = k + q) (u v : Nat) (h : v ≤ u * 2 ^ k) : v * 2 ^ q ≤ u * 2 ^ P * 2 ^ p := by
  rw [Nat.mul_assoc, ← Nat.pow_add, e, Nat.pow_add, ← Nat.mul_assoc]
  exact Nat.mul_le_mul_right _ h
theorem rn5 (c N a : Nat) (ha : N * 2 ^ 48 ≤ c * a + 2 ^ 46) : (N * 2 ^ 20 - 2 ^ 18) * 2 ^ 48 ≤ c * 2 ^ 20 * a := by
  rw [show c * 2 ^ 20 * a = c * a * 2 ^ 20 by ac_rfl]
  generalize c * a = t at *
  rw [Nat.sub_mul]
  refine Nat.sub_le_iff_le_add.mpr ?_
  have := Nat.mul_le_mul_right (2 ^ 20) ha
  rw [Nat.add_mul, ← Nat.pow_add, Nat.mul_assoc N, ← Nat.pow_add] at this
  rw [← Nat.pow_add, Nat.mul_assoc N, ← Nat.pow_add]
  exact this
theorem rn6 (c N b : Nat) (hb : c * b ≤ N * 2 ^ 48 + 2 ^ 46) : c * 2 ^ 20 * b ≤ (N * 2 ^ 20 + 2 ^ 18) * 2 ^ 48 := by
  rw [show c * 2 ^ 20 * b = c * b * 2 ^ 20 by ac_rfl]
  generalize c * b = t at *
  lia
/-- sixteen millions of it, rounded -/
theorem rnd_enc {N : Nat} (hx : Enc U0 x a b) (hN : N ≤ 2 ^ 30) (ha : N * 2 ^ 48 ≤ 16000000 * a + 2 ^ 46) (hb : 16000000 * b ≤ N * 2 ^ 48 + 2 ^ 46) : (Float64.isNaN (Float64.mul c16 x) = false ∧ Float64.isInf (Float64.mul c16 x) = false) ∧ rnd x = N := by
  have h := Enc.mulW (j := 1054) (l := 1026) (i := 1054) (p := N * 2 ^ 20 - 2 ^ 18) (q := N * 2 ^ 20 + 2 ^ 18) c16_enc hx (by decide) (by decide) (by
    rw [← Nat.pow_add]
    exact rn3 1054 1074 48 (1054 + 1026) rfl _ _ (rn5 16000000 N a ha)) (by
    rw [← Nat.pow_add]
    exact rn4 1054 1074 48 (1054 + 1026) rfl _ _ (rn6 16000000 N b hb)) (rn2 N hN)
  exact ⟨h.ok, enc_near h (rn1 N) (Nat.le_refl _)⟩
end
end Mine
end
noncomputable section
open PySem PySem.W PyProof.Rows PySem.Spec PySem.Calls
namespace Mine
open PySem.Float64 (decode)
noncomputable def xys : List (Nat × Nat) := [(0, 0), (1, 0), (1, 1), (1, 2), (1, 3), (1, 4), (1, 5), (1, 6), (1, 7), (2, 0), (2, 1), (2, 2), (2, 3), (2, 4), (2, 5), (2, 6), (2, 7), (3, 0), (3, 1), (3, 2), (3, 3), (3, 4), (3, 5), (3, 6), (3, 7), (4, 0), (4, 1), (4, 2), (4, 3), (4, 4), (4, 5), (4, 6), (5, 0), (5, 1), (5, 2), (5, 3), (5, 4), (5, 5), (6, 0), (6, 1), (6, 2), (6, 3), (6, 4), (7, 0), (7, 1), (7, 2), (7, 3)]
theorem found_xy : ((List.range 36).all fun n => (foundF n 9).all fun c => decide (plC c < 840) == false || xys.contains (c.1 - c.2.2, c.2.1 - c.2.2)) = true := by decide +kernel
noncomputable def encB (x : UInt64) (a b : Nat) : Bool := match decode x with
  | .fin false m e => decide (a * 2 ^ 1026 ≤ m * 2 ^ (e + 1074).toNat) && decide (m * 2 ^ (e + 1074).toNat ≤ b * 2 ^ 1026)
  | _ => false
theorem encB_enc {x : UInt64} {a b : Nat} (h : encB x a b = true) : Enc U0 x a b := by
  unfold encB at h
  split at h
  · rename_i m e he
    rw [Bool.and_eq_true, decide_eq_true_eq, decide_eq_true_eq] at h
    exact ⟨m, e, he, h.1, h.2⟩
  · cases h
noncomputable def k3 (k : Nat) : UInt64 := if k = 0 then 0 else if k = 1 then f13 else f23
noncomputable def hueL (x y : Nat) : UInt64 := HUE.getD (9 * x + y) 0
/-- the fraction e of d, from below and above -/
noncomputable def loW (e d : Nat) : Nat := e * 2 ^ 48 / d - 300
noncomputable def hiW (e d : Nat) : Nat := min (e * 2 ^ 48 / d + 300) (2 ^ 48)
/-- part j of the turn k of a colour, above its least part -/
noncomputable def duD (x y k j : Nat) : Nat := [x, y, 0].getD ((j + 2 * k) % 3) 0
noncomputable def hvA (x y k sp : Nat) : UInt64 := Float64.add (Float64.add (hueL x y) (k3 k)) (Float64.ofInt (sp : Int))
noncomputable def hsvT (x y k sp : Nat) : Bool :=
  let z := Float64.mul (hvA x y k sp) f6
  let i := hsvI (hvA x y k sp)
  let f := Float64.sub z (Float64.ofInt i)
  !Float64.isNaN z && !Float64.isInf z && decide (i.natAbs < 100) && (max x y == 0 || (i.fmod 6 == ((if y < x then 0 else 1) + 2 * k : Nat) &&
    (if y < x then encB (Float64.sub f1 f) (loW (x - y) x) (hiW (x - y) x) else encB f (loW (y - x) y) (hiW (y - x) y))))
noncomputable def hsvP (p : Nat × Nat) : Bool := (List.range 3).all fun k => (List.range 3).all fun sp => hsvT p.1 p.2 k sp
theorem all_cut {α : Type} {f : α → Bool} {l : List α} (n : Nat) (h1 : (l.take n).all f = true) (h2 : (l.drop n).all f = true) : l.all f = true := by
  rw [← List.take_append_drop n l, List.all_append, h1, h2]; rfl
theorem hsv_1 : (xys.take 16).all hsvP = true := by decide +kernel
theorem hsv_2 : ((xys.drop 16).take 16).all hsvP = true := by decide +kernel
theorem hsv_3 : ((xys.drop 16).drop 16).all hsvP = true := by decide +kernel
theorem hsv_all : xys.all hsvP = true := all_cut 16 hsv_1 (all_cut 16 hsv_2 hsv_3)
noncomputable def argJ (j : Nat) (h : UInt64) : UInt64 := if j = 0 then Float64.add h f13 else if j = 1 then h else Float64.sub h f13
noncomputable def lsA (x y k sp : Nat) : UInt64 := Float64.sub (Float64.add (hueL x y) (k3 k)) (Float64.ofInt (sp : Int))
noncomputable def hlsT (x y k sp j : Nat) : Bool :=
  let u := (Float64.divmod (argJ j (lsA x y k sp)) f1).snd
  if (Float64.cmp u f16 == some Ordering.lt) = true then encB u (loW (duD x y k j) (6 * max x y)) (hiW (duD x y k j) (6 * max x y))
  else if (Float64.cmp u fh == some Ordering.lt) = true then duD x y k j == max x y
  else if (Float64.cmp u f23 == some Ordering.lt) = true then encB (Float64.sub f23 u) (loW (duD x y k j) (6 * max x y)) (hiW (duD x y k j) (6 * max x y))
  else duD x y k j == 0
noncomputable def hlsP (p : Nat × Nat) : Bool := max p.1 p.2 == 0 || (List.range 3).all fun k => (List.range 3).all fun sp => (List.range 3).all fun j => hlsT p.1 p.2 k sp j
theorem hls_1 : (xys.take 10).all hlsP = true := by decide +kernel
theorem hls_2 : ((xys.drop 10).take 10).all hlsP = true := by decide +kernel
theorem hls_3 : (((xys.drop 10).drop 10).take 10).all hlsP = true := by decide +kernel
theorem hls_4 : ((((xys.drop 10).drop 10).drop 10).take 10).all hlsP = true := by decide +kernel
theorem hls_5 : ((((xys.drop 10).drop 10).drop 10).drop 10).all hlsP = true := by decide +kernel
theorem hls_all : xys.all hlsP = true := all_cut 10 hls_1 (all_cut 10 hls_2 (all_cut 10 hls_3 (all_cut 10 hls_4 hls_5)))
noncomputable def agT (x y k : Nat) : Bool :=
  let a := duD x y k 0
  let b := duD x y k 1
  let c := duD x y k 2
  let z := Float64.mul (Float64.ofInt 2520000000) (hueX (max x y - a) (max x y - b) (max x y - c) (max x y))
  !Float64.isNaN z && !Float64.isInf z && Flt.toInt Float64.nearestOf z == 1000000 * (plT x y + 840 * (k : Int) * (if 0 < x then 1 else 0))
theorem ag_all : (xys.all fun p => (List.range 3).all fun k => agT p.1 p.2 k) = true := by decide +kernel
end Mine
end
noncomputable section
open PySem PySem.W PyProof.Rows PySem.Spec PySem.Calls
namespace Mine
open PySem.Float64 (decode)
noncomputable def cdiv (a b : Nat) : Nat := (a + b - 1) / b
/-- a paint's part is right -/
noncomputable def Good (x : UInt64) (n : Nat) : Prop := (Float64.isNaN (Float64.mul c16 x) = false ∧ Float64.isInf (Float64.mul c16 x) = false) ∧ rnd x = ((1000000 * n : Nat) : Int)
noncomputable def nearB (n a b : Nat) : Bool := decide (1000000 * n * 2 ^ 48 ≤ 16000000 * a + 2 ^ 46) && decide (16000000 * b ≤ 1000000 * n * 2 ^ 48 + 2 ^ 46)
theorem good_of {x : UInt64} {a b n : Nat} (h : Enc U0 x a b) (hn : n ≤ 16) (hB : nearB n a b = true) : Good x n := by
  unfold nearB at hB
  rw [Bool.and_eq_true, decide_eq_true_eq, decide_eq_true_eq] at hB
  exact rnd_enc h (Nat.le_trans (Nat.mul_le_mul_left _ hn) (by decide)) hB.1 hB.2
theorem cdiv_le {a b : Nat} (hb : 0 < b) : a ≤ cdiv a b * b := by
  have h := Nat.lt_div_mul_add (a := a + b - 1) hb
  exact Nat.le_of_add_le_add_right (Nat.le_of_pred_lt h)
theorem Enc.mul' {x y : UInt64} {a b c d : Nat} (hx : Enc U0 x a b) (hy : Enc U0 y c d) (hb : cdiv (b * d) (2 ^ 48) < 2 ^ 53) : Enc U0 (Float64.mul x y) (a * c / 2 ^ 48) (cdiv (b * d) (2 ^ 48)) :=
  hx.mul hy (Nat.div_mul_le_self _ _) (cdiv_le (by decide)) hb
theorem one_enc : Enc U0 f1 (2 ^ 48) (2 ^ 48) := encB_enc (by decide +kernel)
theorem six_enc : Enc U0 f6 (6 * 2 ^ 48) (6 * 2 ^ 48) := encB_enc (by decide +kernel)
theorem q_all : ((List.range 33).all fun n => encB (q16 n) (n * 2 ^ 44) (n * 2 ^ 44)) = true := by decide +kernel
theorem q_enc {n : Nat} (h : n ≤ 16) : Enc U0 (q16 n) (n * 2 ^ 44) (n * 2 ^ 44) := encB_enc (List.all_eq_true.mp q_all n (List.mem_range.mpr (Nat.lt_of_le_of_lt h (by decide))))
noncomputable def sV (d M : Nat) : UInt64 := Float64.div (q16 d) (q16 M)
/-- of two small numbers -/
theorem all2 {f : Nat → Nat → Bool} {p q m d : Nat} (h : ((List.range p).all fun m => (List.range q).all fun d => f m d) = true) (hm : m < p) (hd : d < q) : f m d = true := List.all_eq_true.mp (List.all_eq_true.mp h m (List.mem_range.mpr hm)) d (List.mem_range.mpr hd)
theorem or3 {a b c : Bool} (h : (a || b || c) = true) (ha : a = false) (hb : b = false) : c = true := by rw [ha, hb] at h; exact h
theorem eq0 {n : Nat} (h : 0 < n) : (n == 0) = false := beq_eq_false_iff_ne.mpr (Nat.ne_of_gt h)
theorem lt0 {n m : Nat} (h : n ≤ m) : decide (m < n) = false := decide_eq_false (Nat.not_lt.mpr h)
section
variable {d m e t : Nat}
theorem m16 (h : m + d ≤ 16) : m < 17 := Nat.lt_succ_of_le (Nat.le_trans (Nat.le_add_right m d) h)
theorem s_all : ((List.range 17).all fun m => (List.range 9).all fun d => m + d == 0 || decide (16 < m + d) || encB (sV d (m + d)) (d * 2 ^ 48 / (m + d)) (cdiv (d * 2 ^ 48) (m + d))) = true := by decide +kernel
theorem s_enc (hd : d ≤ 8) (hM : m + d ≤ 16) (h0 : 0 < m + d) : Enc U0 (sV d (m + d)) (d * 2 ^ 48 / (m + d)) (cdiv (d * 2 ^ 48) (m + d)) := encB_enc (or3 (all2 s_all (m16 hM) (Nat.lt_succ_of_le hd)) (eq0 h0) (lt0 hM))
/-- the middle part, by intervals -/
noncomputable def midB (d M e : Nat) : Bool :=
  let al := d * 2 ^ 48 / M * loW e d / 2 ^ 48
  let ah := cdiv (cdiv (d * 2 ^ 48) M * hiW e d) (2 ^ 48)
  decide (ah ≤ 2 ^ 48) && nearB (M - e) (M * 2 ^ 44 * (2 ^ 48 - ah) / 2 ^ 48) (cdiv (M * 2 ^ 44 * (2 ^ 48 - al)) (2 ^ 48)) && decide (cdiv (M * 2 ^ 44 * (2 ^ 48 - al)) (2 ^ 48) < 2 ^ 53)
theorem mid_all : ((List.range 17).all fun m => (List.range 9).all fun d => d == 0 || decide (16 < m + d) || (List.range (d + 1)).all fun e => midB d (m + d) e) = true := by decide +kernel
theorem mid_good {φ : UInt64} (hd : d ≤ 8) (hM : m + d ≤ 16) (h0 : 0 < d) (he : e ≤ d) (hφ : Enc U0 φ (loW e d) (hiW e d)) : Good (Float64.mul (q16 (m + d)) (Float64.sub f1 (Float64.mul (sV d (m + d)) φ))) (m + d - e) := by
  have h := List.all_eq_true.mp (or3 (all2 mid_all (m16 hM) (Nat.lt_succ_of_le hd)) (eq0 h0) (lt0 hM)) e (List.mem_range.mpr (Nat.lt_succ_of_le he))
  unfold midB at h
  dsimp only at h
  rw [Bool.and_eq_true, Bool.and_eq_true, decide_eq_true_eq, decide_eq_true_eq] at h
  have e1 := (s_enc hd hM (Nat.lt_of_lt_of_le h0 (Nat.le_add_left d m))).mul' hφ (Nat.lt_of_le_of_lt h.1.1 (by decide))
  have e2 := one_enc.sub e1 (by decide) (by decide) h.1.1 (by decide)
  exact good_of ((q_enc hM).mul' e2 h.2) (Nat.le_trans (Nat.sub_le _ _) hM) h.1.2
noncomputable def lowB (d M m : Nat) : Bool :=
  decide (cdiv (d * 2 ^ 48) M ≤ 2 ^ 48) && nearB m (M * 2 ^ 44 * (2 ^ 48 - cdiv (d * 2 ^ 48) M) / 2 ^ 48) (cdiv (M * 2 ^ 44 * (2 ^ 48 - d * 2 ^ 48 / M)) (2 ^ 48)) && decide (cdiv (M * 2 ^ 44 * (2 ^ 48 - d * 2 ^ 48 / M)) (2 ^ 48) < 2 ^ 53)
theorem low_all : ((List.range 17).all fun m => (List.range 9).all fun d => m + d == 0 || decide (16 < m + d) || lowB d (m + d) m) = true := by decide +kernel
theorem low_good (hd : d ≤ 8) (hM : m + d ≤ 16) (h0 : 0 < m + d) : Good (Float64.mul (q16 (m + d)) (Float64.sub f1 (sV d (m + d)))) m := by
  have h := or3 (all2 low_all (m16 hM) (Nat.lt_succ_of_le hd)) (eq0 h0) (lt0 hM)
  unfold lowB at h
  rw [Bool.and_eq_true, Bool.and_eq_true, decide_eq_true_eq, decide_eq_true_eq] at h
  have e2 := one_enc.sub (s_enc hd hM h0) (by decide) (by decide) h.1.1 (by decide)
  exact good_of ((q_enc hM).mul' e2 h.2) (Nat.le_trans (Nat.le_add_right m d) hM) h.1.2
theorem top_all : ((List.range 17).all fun M => nearB M (M * 2 ^ 44) (M * 2 ^ 44)) = true := by decide +kernel
theorem top_good {M : Nat} (hM : M ≤ 16) : Good (q16 M) M := good_of (q_enc hM) hM (List.all_eq_true.mp top_all M (List.mem_range.mpr (Nat.lt_succ_of_le hM)))
theorem s_nz : ((List.range 17).all fun m => (List.range 9).all fun d => d == 0 || decide (16 < m + d) || (Float64.cmp (sV d (m + d)) 0 == some Ordering.eq) == false) = true := by decide +kernel
end
theorem xy_le : ∀ p ∈ xys, p.1 ≤ 8 ∧ p.2 ≤ 8 := by decide
theorem hsv_at {x y k sp : Nat} (hp : (x, y) ∈ xys) (hk : k < 3) (hs : sp < 3) : (Float64.isNaN (Float64.mul (hvA x y k sp) f6) = false ∧ Float64.isInf (Float64.mul (hvA x y k sp) f6) = false ∧ (hsvI (hvA x y k sp)).natAbs < 100) ∧ (0 < max x y → (hsvI (hvA x y k sp)).fmod 6 = ((if y < x then 0 else 1) + 2 * k : Nat) ∧
    (y < x → Enc U0 (Float64.sub f1 (Float64.sub (Float64.mul (hvA x y k sp) f6) (Float64.ofInt (hsvI (hvA x y k sp))))) (loW (x - y) x) (hiW (x - y) x)) ∧ (¬ y < x → Enc U0 (Float64.sub (Float64.mul (hvA x y k sp) f6) (Float64.ofInt (hsvI (hvA x y k sp)))) (loW (y - x) y) (hiW (y - x) y))) := by
  have h := all2 (List.all_eq_true.mp hsv_all _ hp) hk hs
  unfold hsvT at h
  dsimp only at h
  rw [Bool.and_eq_true, Bool.and_eq_true, Bool.and_eq_true, decide_eq_true_eq, Bool.not_eq_true', Bool.not_eq_true'] at h
  obtain ⟨⟨⟨h1, h2⟩, h3⟩, h4⟩ := h
  refine ⟨⟨h1, h2, h3⟩, fun h0 => ?_⟩
  rw [eq0 h0, Bool.false_or, Bool.and_eq_true, beq_iff_eq] at h4
  refine ⟨h4.1, fun hlt => ?_, fun hlt => ?_⟩
  · have h6 := h4.2; rw [if_pos hlt] at h6; exact encB_enc h6
  · have h6 := h4.2; rw [if_neg hlt] at h6; exact encB_enc h6
noncomputable def sH (d M : Nat) : UInt64 := if d = 0 then 0 else sV d M
theorem duD_0 (k j : Nat) : duD 0 0 k j = 0 := by
  unfold duD
  generalize (j + 2 * k) % 3 = i
  rcases i with _ | _ | _ | i <;> rfl
theorem both_0 {x y : Nat} (h : max x y = 0) : x = 0 ∧ y = 0 := ⟨Nat.eq_zero_of_le_zero (h ▸ Nat.le_max_left x y), Nat.eq_zero_of_le_zero (h ▸ Nat.le_max_right x y)⟩
theorem back {m x y : Nat} (h : y ≤ x) : m + x - (x - y) = m + y := by rw [Nat.add_sub_assoc (Nat.sub_le x y), Nat.sub_sub_self h]
theorem thr3 {k : Nat} {P : Nat → Prop} (hk : k < 3) (h0 : P 0) (h1 : P 1) (h2 : P 2) : P k := by
  rcases k with _ | _ | _ | k
  · exact h0
  · exact h1
  · exact h2
  · exact absurd hk (Nat.not_lt.mpr (Nat.le_add_left 3 k))
theorem hsv_good {x y k sp m : Nat} (hp : (x, y) ∈ xys) (hk : k < 3) (hs : sp < 3) (hM : m + max x y ≤ 16) :
    Good (hsvR (hvA x y k sp) (sH (max x y) (m + max x y)) (q16 (m + max x y))).1 (m + duD x y k 0) ∧ Good (hsvR (hvA x y k sp) (sH (max x y) (m + max x y)) (q16 (m + max x y))).2.1 (m + duD x y k 1) ∧ Good (hsvR (hvA x y k sp) (sH (max x y) (m + max x y)) (q16 (m + max x y))).2.2 (m + duD x y k 2) := by
  have h8 : max x y ≤ 8 := Nat.max_le.mpr (xy_le _ hp)
  have hat := (hsv_at hp hk hs).2
  generalize hvA x y k sp = h at hat ⊢
  by_cases h0 : max x y = 0
  · obtain ⟨rfl, rfl⟩ := both_0 h0
    have er : hsvR h (sH (max 0 0) (m + max 0 0)) (q16 (m + max 0 0)) = (q16 m, q16 m, q16 m) := by
      rw [show max 0 0 = 0 from rfl, Nat.add_zero]
      unfold hsvR sH
      rw [if_pos rfl, if_pos (by decide +kernel)]
    rw [er, duD_0, duD_0, duD_0]
    have := top_good (M := m) hM
    exact ⟨this, this, this⟩
  · have hX := Nat.pos_of_ne_zero h0
    obtain ⟨hi, h1, h2⟩ := hat hX
    have hz := or3 (all2 s_nz (m16 hM) (Nat.lt_succ_of_le h8)) (eq0 hX) (lt0 hM)
    have er : hsvR h (sH (max x y) (m + max x y)) (q16 (m + max x y)) = hsvR1 h (sV (max x y) (m + max x y)) (q16 (m + max x y)) ((hsvI h).fmod 6) (Float64.sub (Float64.mul h f6) (Float64.ofInt (hsvI h))) := by
      unfold hsvR sH
      rw [if_neg h0, if_neg (by rw [beq_iff_eq.mp hz]; decide)]
    rw [er, hi]
    clear er hz hi hat
    generalize Float64.sub (Float64.mul h f6) (Float64.ofInt (hsvI h)) = f at *
    have g1 := top_good hM
    have g2 := low_good h8 hM (Nat.lt_of_lt_of_le hX (Nat.le_add_left _ m))
    by_cases hlt : y < x
    · have hm := Nat.max_eq_left (Nat.le_of_lt hlt)
      rw [hm] at h8 hM hX g1 g2 ⊢
      have g3 := mid_good h8 hM hX (Nat.sub_le x y) (h1 hlt)
      rw [back (Nat.le_of_lt hlt)] at g3
      rw [if_pos hlt]
      exact thr3 (P := fun k => Good (hsvR1 h (sV x (m + x)) (q16 (m + x)) ((0 + 2 * k : Nat) : Int) f).1 (m + duD x y k 0) ∧ Good (hsvR1 h (sV x (m + x)) (q16 (m + x)) ((0 + 2 * k : Nat) : Int) f).2.1 (m + duD x y k 1) ∧ Good (hsvR1 h (sV x (m + x)) (q16 (m + x)) ((0 + 2 * k : Nat) : Int) f).2.2 (m + duD x y k 2)) hk ⟨g1, g3, g2⟩ ⟨g2, g1, g3⟩ ⟨g3, g2, g1⟩
    · have hm := Nat.max_eq_right (Nat.not_lt.mp hlt)
      rw [hm] at h8 hM hX g1 g2 ⊢
      have g3 := mid_good h8 hM hX (Nat.sub_le y x) (h2 hlt)
      rw [back (Nat.not_lt.mp hlt)] at g3
      rw [if_neg hlt]
      exact thr3 (P := fun k => Good (hsvR1 h (sV y (m + y)) (q16 (m + y)) ((1 + 2 * k : Nat) : Int) f).1 (m + duD x y k 0) ∧ Good (hsvR1 h (sV y (m + y)) (q16 (m + y)) ((1 + 2 * k : Nat) : Int) f).2.1 (m + duD x y k 1) ∧ Good (hsvR1 h (sV y (m + y)) (q16 (m + y)) ((1 + 2 * k : Nat) : Int) f).2.2 (m + duD x y k 2)) hk ⟨g3, g1, g2⟩ ⟨g2, g3, g1⟩ ⟨g1, g2, g3⟩
noncomputable def lV (M m : Nat) : UInt64 := Float64.div (q16 (M + m)) f2
noncomputable def sL (M m : Nat) : UInt64 := if (Float64.cmp (lV M m) fh == some Ordering.lt || Float64.cmp (lV M m) fh == some Ordering.eq) = true then Float64.div (q16 (M - m)) (q16 (M + m)) else Float64.div (q16 (M - m)) (q16 (32 - M - m))
noncomputable def m2V (M m : Nat) : UInt64 := if (Float64.cmp (lV M m) fh == some Ordering.lt || Float64.cmp (lV M m) fh == some Ordering.eq) = true then Float64.mul (lV M m) (Float64.add f1 (sL M m)) else Float64.sub (Float64.add (lV M m) (sL M m)) (Float64.mul (lV M m) (sL M m))
noncomputable def m1V (M m : Nat) : UInt64 := Float64.sub (Float64.mul f2 (lV M m)) (m2V M m)
noncomputable def lsOk (M m : Nat) : Bool := (M == m || ((Float64.cmp (sL M m) 0 == some Ordering.eq) == false && encB (m2V M m) (M * 2 ^ 44 - 40) (M * 2 ^ 44 + 40) && encB (m1V M m) (m * 2 ^ 44 - 40) (m * 2 ^ 44 + 40) && nearB M (M * 2 ^ 44 - 40) (M * 2 ^ 44 + 40))) && nearB m (m * 2 ^ 44 - 40) (m * 2 ^ 44 + 40) && encB (lV m m) (m * 2 ^ 44) (m * 2 ^ 44)
theorem ls_all : ((List.range 17).all fun m => (List.range 9).all fun d => decide (16 < m + d) || lsOk (m + d) m) = true := by decide +kernel
noncomputable def midL (M m d t : Nat) : Bool :=
  let al := (M * 2 ^ 44 - 40 - (m * 2 ^ 44 + 40)) * loW t (6 * d) / 2 ^ 48
  let ah := cdiv ((M * 2 ^ 44 + 40 - (m * 2 ^ 44 - 40)) * hiW t (6 * d)) (2 ^ 48)
  let bl := al * (6 * 2 ^ 48) / 2 ^ 48
  let bh := cdiv (ah * (6 * 2 ^ 48)) (2 ^ 48)
  decide (m * 2 ^ 44 + 40 ≤ M * 2 ^ 44 - 40) && decide (ah < 2 ^ 53) && decide (bh < 2 ^ 53) && decide (m * 2 ^ 44 + 40 + bh < 2 ^ 53) && decide (M * 2 ^ 44 + 40 < 2 ^ 53) && nearB (m + t) (m * 2 ^ 44 - 40 + bl) (m * 2 ^ 44 + 40 + bh)
theorem midL_all : ((List.range 17).all fun m => (List.range 9).all fun d => d == 0 || decide (16 < m + d) || (List.range (d + 1)).all fun t => midL (m + d) m d t) = true := by decide +kernel
section
variable {d m t : Nat}
theorem two_l (hd : d ≤ 8) (hM : m + d ≤ 16) : lsOk (m + d) m = true := by
  have h := all2 ls_all (m16 hM) (Nat.lt_succ_of_le hd)
  rwa [lt0 hM] at h
theorem ls_at (hd : d ≤ 8) (hM : m + d ≤ 16) (h0 : 0 < d) : (Float64.cmp (sL (m + d) m) 0 == some Ordering.eq) = false ∧ Enc U0 (m2V (m + d) m) ((m + d) * 2 ^ 44 - 40) ((m + d) * 2 ^ 44 + 40) ∧ Enc U0 (m1V (m + d) m) (m * 2 ^ 44 - 40) (m * 2 ^ 44 + 40) ∧ Good (m2V (m + d) m) (m + d) ∧ Good (m1V (m + d) m) m := by
  have h := two_l hd hM
  unfold lsOk at h
  rw [show (m + d == m) = false from beq_eq_false_iff_ne.mpr fun e => Nat.ne_of_gt (Nat.lt_add_of_pos_right h0) e, Bool.false_or, Bool.and_eq_true, Bool.and_eq_true, Bool.and_eq_true, Bool.and_eq_true, Bool.and_eq_true, beq_iff_eq] at h
  obtain ⟨⟨⟨⟨⟨h3, h4⟩, h5⟩, h6⟩, h2⟩, -⟩ := h
  exact ⟨h3, encB_enc h4, encB_enc h5, good_of (encB_enc h4) hM h6, good_of (encB_enc h5) (Nat.le_trans (Nat.le_add_right m d) hM) h2⟩
theorem vF_mid {φ : UInt64} (hd : d ≤ 8) (hM : m + d ≤ 16) (h0 : 0 < d) (ht : t ≤ d) (hφ : Enc U0 φ (loW t (6 * d)) (hiW t (6 * d))) : Good (Float64.add (m1V (m + d) m) (Float64.mul (Float64.mul (Float64.sub (m2V (m + d) m) (m1V (m + d) m)) φ) f6)) (m + t) := by
  obtain ⟨-, e2, e1, -, -⟩ := ls_at hd hM h0
  have h := List.all_eq_true.mp (or3 (all2 midL_all (m16 hM) (Nat.lt_succ_of_le hd)) (eq0 h0) (lt0 hM)) t (List.mem_range.mpr (Nat.lt_succ_of_le ht))
  unfold midL at h
  dsimp only at h
  rw [Bool.and_eq_true, Bool.and_eq_true, Bool.and_eq_true, Bool.and_eq_true, Bool.and_eq_true, decide_eq_true_eq, decide_eq_true_eq, decide_eq_true_eq, decide_eq_true_eq, decide_eq_true_eq] at h
  obtain ⟨⟨⟨⟨⟨h1, h2⟩, h3⟩, h4⟩, h6⟩, h5⟩ := h
  have d1 := e2.sub e1 (by decide) (by decide) h1 h6
  exact good_of (e1.add ((d1.mul' hφ h2).mul' six_enc h3) (by decide) (by decide) h4) (Nat.le_trans (Nat.add_le_add_left ht m) hM) h5
end
theorem duD_le {x y k j : Nat} : duD x y k j ≤ max x y := by
  unfold duD
  generalize (j + 2 * k) % 3 = i
  rcases i with _ | _ | _ | i
  · exact Nat.le_max_left x y
  · exact Nat.le_max_right x y
  · exact Nat.zero_le _
  · exact Nat.zero_le _
theorem vF_good {x y k sp j m : Nat} (hp : (x, y) ∈ xys) (hk : k < 3) (hs : sp < 3) (hj : j < 3) (h0 : 0 < max x y) (hM : m + max x y ≤ 16) : Good (vF (m1V (m + max x y) m) (m2V (m + max x y) m) (argJ j (lsA x y k sp))) (m + duD x y k j) := by
  have h8 : max x y ≤ 8 := Nat.max_le.mpr (xy_le _ hp)
  have h := List.all_eq_true.mp hls_all _ hp
  unfold hlsP at h
  dsimp only at h
  rw [eq0 h0, Bool.false_or] at h
  have h := List.all_eq_true.mp (all2 h hk hs) j (List.mem_range.mpr hj)
  have hd := duD_le (x := x) (y := y) (k := k) (j := j)
  unfold hlsT at h
  dsimp only at h
  generalize duD x y k j = t at *
  generalize argJ j (lsA x y k sp) = a at *
  obtain ⟨-, -, -, g2, g1⟩ := ls_at h8 hM h0
  unfold vF
  generalize (Float64.divmod a f1).snd = u at *
  by_cases c1 : (Float64.cmp u f16 == some Ordering.lt) = true
  · rw [if_pos c1] at h ⊢
    exact vF_mid h8 hM h0 hd (encB_enc h)
  · rw [if_neg c1] at h ⊢
    by_cases c2 : (Float64.cmp u fh == some Ordering.lt) = true
    · rw [if_pos c2] at h ⊢
      rw [beq_iff_eq.mp h]; exact g2
    · rw [if_neg c2] at h ⊢
      by_cases c3 : (Float64.cmp u f23 == some Ordering.lt) = true
      · rw [if_pos c3] at h ⊢
        exact vF_mid h8 hM h0 hd (encB_enc h)
      · rw [if_neg c3] at h ⊢
        rw [beq_iff_eq.mp h]; exact g1
noncomputable def sL0 (M m : Nat) : UInt64 := if M = m then 0 else sL M m
theorem hls_good {x y k sp m : Nat} (hp : (x, y) ∈ xys) (hk : k < 3) (hs : sp < 3) (hM : m + max x y ≤ 16) :
    Good (hlsR (lsA x y k sp) (lV (m + max x y) m) (sL0 (m + max x y) m)).1 (m + duD x y k 0) ∧ Good (hlsR (lsA x y k sp) (lV (m + max x y) m) (sL0 (m + max x y) m)).2.1 (m + duD x y k 1) ∧ Good (hlsR (lsA x y k sp) (lV (m + max x y) m) (sL0 (m + max x y) m)).2.2 (m + duD x y k 2) := by
  by_cases h0 : max x y = 0
  · obtain ⟨rfl, rfl⟩ := both_0 h0
    generalize lsA 0 0 k sp = h
    have er : hlsR h (lV (m + max 0 0) m) (sL0 (m + max 0 0) m) = (lV m m, lV m m, lV m m) := by
      rw [show max 0 0 = 0 from rfl, Nat.add_zero]
      unfold hlsR sL0
      rw [if_pos rfl, if_pos (by decide +kernel)]
    rw [er, duD_0, duD_0, duD_0]
    have h := two_l (d := 0) (Nat.zero_le 8) hM
    unfold lsOk at h
    rw [Bool.and_eq_true] at h
    have := good_of (encB_enc h.2) hM (List.all_eq_true.mp top_all m (List.mem_range.mpr (Nat.lt_succ_of_le hM)))
    exact ⟨this, this, this⟩
  · have hX := Nat.pos_of_ne_zero h0
    have hz := (ls_at (Nat.max_le.mpr (xy_le _ hp)) hM hX).1
    have er : hlsR (lsA x y k sp) (lV (m + max x y) m) (sL0 (m + max x y) m) = (vF (m1V (m + max x y) m) (m2V (m + max x y) m) (argJ 0 (lsA x y k sp)), vF (m1V (m + max x y) m) (m2V (m + max x y) m) (argJ 1 (lsA x y k sp)), vF (m1V (m + max x y) m) (m2V (m + max x y) m) (argJ 2 (lsA x y k sp))) := by
      unfold hlsR sL0
      rw [if_neg (fun e => Nat.ne_of_gt (Nat.lt_add_of_pos_right hX) e), if_neg (by rw [hz]; decide)]
      rfl
    rw [er]
    exact ⟨vF_good hp hk hs (by decide) hX hM, vF_good hp hk hs (by decide) hX hM, vF_good hp hk hs (by decide) hX hM⟩
end Mine
end
noncomputable section
open PySem PySem.W PyProof.Rows PySem.Spec PySem.Calls
namespace Mine
theorem mx_le {a b c M m n : Nat} (hM : max (max a b) c = M) (hm : min (min a b) c = m) (h : M ≤ n) : a ≤ n ∧ b ≤ n ∧ c ≤ n ∧ m ≤ M :=
  ⟨Nat.le_trans (Nat.le_trans (Nat.le_max_left a b) (Nat.le_max_left _ c)) (hM ▸ h), Nat.le_trans (Nat.le_trans (Nat.le_max_right a b) (Nat.le_max_left _ c)) (hM ▸ h), Nat.le_trans (Nat.le_max_right _ c) (hM ▸ h), hm ▸ hM ▸ Nat.le_trans (Nat.min_le_right _ c) (Nat.le_max_right _ c)⟩
section
variable {a b c M m : Nat}
theorem hsv_snd (hM : max (max a b) c = M) (hm : min (min a b) c = m) (h16 : M ≤ 16) : (hsvOf (q16 a) (q16 b) (q16 c)).2 = (sH (M - m) M, q16 M) := by
  obtain ⟨ha, hb, hc, hmM⟩ := mx_le hM hm h16
  unfold hsvOf
  dsimp only
  rw [max_q a b c ha hb hc, min_q a b c ha hb hc, hM, hm]
  have hm16 := Nat.le_trans hmM h16
  by_cases h0 : m = M
  · rw [if_pos ((q_eq hm16 h16).mpr h0)]
    show ((0 : UInt64), q16 M) = _
    unfold sH
    rw [if_pos (Nat.sub_eq_zero_of_le (Nat.le_of_eq h0.symm))]
  · rw [if_neg (fun h => h0 ((q_eq hm16 h16).mp h))]
    show (Float64.div (Float64.sub (q16 M) (q16 m)) (q16 M), q16 M) = _
    unfold sH
    rw [if_neg (fun e => h0 (Nat.le_antisymm hmM (Nat.le_of_sub_eq_zero e))), q16_sub M m h16 hmM]; rfl
theorem hls_snd (hM : max (max a b) c = M) (hm : min (min a b) c = m) (h16 : M ≤ 16) : (hlsOf (q16 a) (q16 b) (q16 c)).2 = (lV M m, sL0 M m) := by
  obtain ⟨ha, hb, hc, hmM⟩ := mx_le hM hm h16
  unfold hlsOf
  dsimp only
  have hm16 := Nat.le_trans hmM h16
  rw [max_q a b c ha hb hc, min_q a b c ha hb hc, hM, hm, q16_add M m h16 hm16]
  by_cases h0 : m = M
  · rw [if_pos ((q_eq hm16 h16).mpr h0)]
    show (Float64.div (q16 (M + m)) f2, (0 : UInt64)) = _
    unfold sL0 lV
    rw [if_pos h0.symm]
  · rw [if_neg (fun h => h0 ((q_eq hm16 h16).mp h))]
    show (Float64.div (q16 (M + m)) f2, (if (Float64.cmp (Float64.div (q16 (M + m)) f2) fh == some Ordering.lt || Float64.cmp (Float64.div (q16 (M + m)) f2) fh == some Ordering.eq) = true then Float64.div (Float64.sub (q16 M) (q16 m)) (q16 (M + m)) else Float64.div (Float64.sub (q16 M) (q16 m)) (Float64.sub (Float64.sub f2 (q16 M)) (q16 m)))) = _
    rw [q16_sub M m h16 hmM, q16_two M h16, q16_subW (32 - M) m (Nat.sub_le _ _) hm16 (Nat.le_trans hm16 (Nat.sub_le_sub_left h16 32))]
    unfold sL0 sL lV
    rw [if_neg (show ¬ M = m from fun h => h0 h.symm)]
end
/-- the part j of a colour in turn k -/
noncomputable def dueP (c : Col) (k j : Nat) : Nat := c.2.2 + duD (c.1 - c.2.2) (c.2.1 - c.2.2) k j
theorem mx_rot (a b c : Nat) : max (max a b) c = max (max b c) a ∧ min (min a b) c = min (min b c) a := ⟨(Nat.max_assoc a b c).trans (Nat.max_comm a _), (Nat.min_assoc a b c).trans (Nat.min_comm a _)⟩
theorem due_max {c : Col} {k wh : Nat} (hk : k < 3) : max (max (dueP c k 0 + wh) (dueP c k 1 + wh)) (dueP c k 2 + wh) = c.2.2 + wh + max (c.1 - c.2.2) (c.2.1 - c.2.2) ∧ min (min (dueP c k 0 + wh) (dueP c k 1 + wh)) (dueP c k 2 + wh) = c.2.2 + wh := by
  unfold dueP duD
  generalize c.1 - c.2.2 = x
  generalize c.2.1 - c.2.2 = y
  generalize c.2.2 = b
  have h := mx_add b wh x y
  rcases k with _ | _ | _ | k
  · exact h
  · have r := mx_rot (b + 0 + wh) (b + x + wh) (b + y + wh)
    exact ⟨r.1.trans h.1, r.2.trans h.2⟩
  · have r := mx_rot (b + x + wh) (b + y + wh) (b + 0 + wh)
    exact ⟨r.1.symm.trans h.1, r.2.symm.trans h.2⟩
  · exact absurd hk (Nat.not_lt.mpr (Nat.le_add_left 3 k))
theorem read_nat (p q r wh lg : Nat) : readF (p : Int) (q : Int) (r : Int) (wh : Int) (lg : Int) = if (lg : Int) ≠ 0 then hlsOf (q16 (p + wh)) (q16 (q + wh)) (q16 (r + wh)) else hsvOf (q16 (p + wh)) (q16 (q + wh)) (q16 (r + wh)) := rfl
theorem read3 {p q r wh lg M m : Nat} (hM : max (max (p + wh) (q + wh)) (r + wh) = M) (hm : min (min (p + wh) (q + wh)) (r + wh) = m) (h16 : M ≤ 16) : (readF p q r wh lg).2 = if (lg : Int) ≠ 0 then (lV M m, sL0 M m) else (sH (M - m) M, q16 M) := by
  rw [read_nat]
  by_cases hl : (lg : Int) ≠ 0
  · rw [if_pos hl, if_pos hl]; exact hls_snd hM hm h16
  · rw [if_neg hl, if_neg hl]; exact hsv_snd hM hm h16
theorem due_zero {c : Col} (h1 : c.2.2 ≤ c.1) (h3 : c.2.2 ≤ c.2.1) : dueP c 0 0 = c.1 ∧ dueP c 0 1 = c.2.1 ∧ dueP c 0 2 = c.2.2 := ⟨Nat.add_sub_cancel' h1, Nat.add_sub_cancel' h3, rfl⟩
theorem sum16 {b x y w n : Nat} (hx : x ≤ 8 - b) (hy : y ≤ 8 - b) (hb : b ≤ 8) (hw : w ≤ n) : b + w + max x y ≤ 8 + n := by
  rw [Nat.add_right_comm]
  exact Nat.add_le_add (Nat.le_trans (Nat.add_le_add_left (Nat.max_le.mpr ⟨hx, hy⟩) b) (Nat.le_of_eq (Nat.add_sub_cancel' hb))) hw
theorem col16 {c : Col} {wh n : Nat} (hc : c.2.2 ≤ c.1 ∧ c.1 ≤ 8 ∧ c.2.2 ≤ c.2.1 ∧ c.2.1 ≤ 8) (hw : wh ≤ n) : c.2.2 + wh + max (c.1 - c.2.2) (c.2.1 - c.2.2) ≤ 8 + n := sum16 (Nat.sub_le_sub_right hc.2.1 _) (Nat.sub_le_sub_right hc.2.2.2 _) (Nat.le_trans hc.1 hc.2.1) hw
theorem due_le {c : Col} {k : Nat} (hc : c.2.2 ≤ c.1 ∧ c.1 ≤ 8 ∧ c.2.2 ≤ c.2.1 ∧ c.2.1 ≤ 8) (hk : k < 3) : dueP c k 0 ≤ 8 ∧ dueP c k 1 ≤ 8 ∧ dueP c k 2 ≤ 8 := by
  have h := due_max (c := c) (wh := 0) hk
  obtain ⟨a, b, d, -⟩ := mx_le h.1 h.2 (col16 hc (Nat.le_refl 0))
  exact ⟨a, b, d⟩
theorem read_col {c : Col} {wh lg : Nat} (hc : c.2.2 ≤ c.1 ∧ c.1 ≤ 8 ∧ c.2.2 ≤ c.2.1 ∧ c.2.1 ≤ 8) (hw : wh ≤ 8) : (readF c.1 c.2.1 c.2.2 wh lg).2 = if (lg : Int) ≠ 0 then (lV (c.2.2 + wh + max (c.1 - c.2.2) (c.2.1 - c.2.2)) (c.2.2 + wh), sL0 (c.2.2 + wh + max (c.1 - c.2.2) (c.2.1 - c.2.2)) (c.2.2 + wh)) else (sH (max (c.1 - c.2.2) (c.2.1 - c.2.2)) (c.2.2 + wh + max (c.1 - c.2.2) (c.2.1 - c.2.2)), q16 (c.2.2 + wh + max (c.1 - c.2.2) (c.2.1 - c.2.2))) := by
  have h := due_max (c := c) (wh := wh) (show 0 < 3 by decide)
  rw [(due_zero hc.1 hc.2.2.1).1, (due_zero hc.1 hc.2.2.1).2.1, (due_zero hc.1 hc.2.2.1).2.2] at h
  have := read3 (lg := lg) h.1 h.2 (col16 hc hw)
  rwa [Nat.add_sub_cancel_left] at this
theorem paint_at {c : Col} {wh lg sp k : Nat} (hxy : (c.1 - c.2.2, c.2.1 - c.2.2) ∈ xys) (hc : c.2.2 ≤ c.1 ∧ c.1 ≤ 8 ∧ c.2.2 ≤ c.2.1 ∧ c.2.1 ≤ 8) (hw : wh ≤ 8) (hs : sp < 3) (hk : k < 3) :
    ((Float64.isNaN (Float64.mul (Float64.add (Float64.add (hueC wh lg c) (k3 k)) (Float64.ofInt (sp : Int))) f6) = false ∧ Float64.isInf (Float64.mul (Float64.add (Float64.add (hueC wh lg c) (k3 k)) (Float64.ofInt (sp : Int))) f6) = false ∧ (hsvI (Float64.add (Float64.add (hueC wh lg c) (k3 k)) (Float64.ofInt (sp : Int)))).natAbs < 100) ∧
      (Good (paintF (hueC wh lg c) (readF c.1 c.2.1 c.2.2 wh lg).2.1 (readF c.1 c.2.1 c.2.2 wh lg).2.2 (k3 k) sp lg).1 (dueP c k 0 + wh) ∧ Good (paintF (hueC wh lg c) (readF c.1 c.2.1 c.2.2 wh lg).2.1 (readF c.1 c.2.1 c.2.2 wh lg).2.2 (k3 k) sp lg).2.1 (dueP c k 1 + wh) ∧ Good (paintF (hueC wh lg c) (readF c.1 c.2.1 c.2.2 wh lg).2.1 (readF c.1 c.2.1 c.2.2 wh lg).2.2 (k3 k) sp lg).2.2 (dueP c k 2 + wh))) ∧
    (readF (dueP c k 0) (dueP c k 1) (dueP c k 2) wh lg).2 = (readF c.1 c.2.1 c.2.2 wh lg).2 ∧
    (Float64.isNaN (Float64.mul (Float64.ofInt 2520000000) (readF (dueP c k 0) (dueP c k 1) (dueP c k 2) wh lg).1) = false ∧ Float64.isInf (Float64.mul (Float64.ofInt 2520000000) (readF (dueP c k 0) (dueP c k 1) (dueP c k 2) wh lg).1) = false) ∧
    Flt.toInt Float64.nearestOf (Float64.mul (Float64.ofInt 2520000000) (readF (dueP c k 0) (dueP c k 1) (dueP c k 2) wh lg).1) = 1000000 * (plC c + 840 * (k : Int) * (if c.2.2 < c.1 then 1 else 0)) := by
  have hM : _ ≤ 16 := col16 hc hw
  have er := read_col (lg := lg) hc hw
  have hmx := due_max (c := c) (wh := wh) hk
  have er2 := read3 (lg := lg) hmx.1 hmx.2 hM
  rw [Nat.add_sub_cancel_left] at er2
  obtain ⟨h1, h2, h3, h4⟩ := hc
  have eh : hueC wh lg c = hueL (c.1 - c.2.2) (c.2.1 - c.2.2) := by
    rw [hueC_T hw h1 h2 h3 h4]
    exact hueT_lit ⟨c.1 - c.2.2, Nat.lt_succ_of_le (Nat.le_trans (Nat.sub_le _ _) h2)⟩ ⟨c.2.1 - c.2.2, Nat.lt_succ_of_le (Nat.le_trans (Nat.sub_le _ _) h4)⟩
  have ed : ∀ j, dueP c k j + wh = c.2.2 + wh + duD (c.1 - c.2.2) (c.2.1 - c.2.2) k j := fun j => Nat.add_right_comm _ _ _
  refine ⟨⟨?_, ?_⟩, er2.trans er.symm, ?_⟩
  · rw [eh]; exact (hsv_at hxy hk hs).1
  · rw [eh, er, ed, ed, ed]
    by_cases hl : (lg : Int) ≠ 0
    · unfold paintF
      rw [if_pos hl, if_pos hl]
      exact hls_good hxy hk hs hM
    · unfold paintF
      rw [if_neg hl, if_neg hl]
      exact hsv_good hxy hk hs hM
  · obtain ⟨b0, b1, b2, -⟩ := mx_le hmx.1 hmx.2 hM
    have e1 : (readF (dueP c k 0) (dueP c k 1) (dueP c k 2) wh lg).1 = hueX (max (c.1 - c.2.2) (c.2.1 - c.2.2) - duD (c.1 - c.2.2) (c.2.1 - c.2.2) k 0) (max (c.1 - c.2.2) (c.2.1 - c.2.2) - duD (c.1 - c.2.2) (c.2.1 - c.2.2) k 1) (max (c.1 - c.2.2) (c.2.1 - c.2.2) - duD (c.1 - c.2.2) (c.2.1 - c.2.2) k 2) (max (c.1 - c.2.2) (c.2.1 - c.2.2)) := by
      have : (readF (dueP c k 0) (dueP c k 1) (dueP c k 2) wh lg).1 = (hsvOf (q16 (dueP c k 0 + wh)) (q16 (dueP c k 1 + wh)) (q16 (dueP c k 2 + wh))).1 := by
        rw [read_nat]
        by_cases hl : (lg : Int) ≠ 0
        · rw [if_pos hl]; exact hls_hue b0 b1 b2
        · rw [if_neg hl]
      rw [this, hsv_hue b0 b1 b2, hmx.1, hmx.2, ed, ed, ed, Nat.add_sub_add_left, Nat.add_sub_add_left, Nat.add_sub_add_left, Nat.add_sub_cancel_left]
    rw [e1]
    have h := List.all_eq_true.mp (List.all_eq_true.mp ag_all _ hxy) k (List.mem_range.mpr hk)
    unfold agT at h
    rw [plC_T h1 h3]
    dsimp only at h
    rw [Bool.and_eq_true, Bool.and_eq_true, beq_iff_eq, Bool.not_eq_true', Bool.not_eq_true'] at h
    obtain ⟨g, h⟩ := h
    refine ⟨g, ?_⟩
    rw [h]
    by_cases hx : c.2.2 < c.1
    · rw [if_pos hx, if_pos (Nat.sub_pos_of_lt hx)]
    · rw [if_neg hx, if_neg fun h => hx (Nat.lt_of_sub_pos h)]
theorem col_xy {n j : Nat} (hn : n < 36) (hj : j < (foundF n 9).length) (hp : plC (colAt (foundF n 9) j) < 840) : ((colAt (foundF n 9) j).1 - (colAt (foundF n 9) j).2.2, (colAt (foundF n 9) j).2.1 - (colAt (foundF n 9) j).2.2) ∈ xys := by
  have h := List.all_eq_true.mp (List.all_eq_true.mp found_xy n (List.mem_range.mpr hn)) (colAt (foundF n 9) j) (by
    unfold colAt
    rw [List.getD_eq_getElem?_getD, List.getElem?_eq_getElem hj]
    exact List.getElem_mem hj)
  rw [Bool.or_eq_true] at h
  rcases h with h | h
  · rw [decide_eq_true hp] at h; cases h
  · exact List.contains_iff_mem.mp h
noncomputable def slf (x : UInt64) : Bool := Float64.cmp x x == some Ordering.eq
theorem slf_all : ((List.range 17).all fun m => (List.range 9).all fun d => slf (lV (m + d) m) && slf (sL0 (m + d) m) && slf (sH d (m + d)) && slf (q16 (m + d))) = true := by decide +kernel
theorem told_eq {c : Col} {wh lg : Nat} (hc : c.2.2 ≤ c.1 ∧ c.1 ≤ 8 ∧ c.2.2 ≤ c.2.1 ∧ c.2.1 ≤ 8) (hw : wh ≤ 8) : (Float64.cmp (readF c.1 c.2.1 c.2.2 wh lg).2.1 (readF c.1 c.2.1 c.2.2 wh lg).2.1 == some Ordering.eq) = true ∧ (Float64.cmp (readF c.1 c.2.1 c.2.2 wh lg).2.2 (readF c.1 c.2.1 c.2.2 wh lg).2.2 == some Ordering.eq) = true := by
  have h := List.all_eq_true.mp (List.all_eq_true.mp slf_all (c.2.2 + wh) (List.mem_range.mpr (Nat.lt_succ_of_le (Nat.le_trans (Nat.le_add_right _ _) (col16 hc hw))))) (max (c.1 - c.2.2) (c.2.1 - c.2.2)) (List.mem_range.mpr (Nat.lt_succ_of_le (Nat.max_le.mpr ⟨Nat.le_trans (Nat.sub_le _ _) hc.2.1, Nat.le_trans (Nat.sub_le _ _) hc.2.2.2⟩)))
  rw [Bool.and_eq_true, Bool.and_eq_true, Bool.and_eq_true] at h
  rw [read_col hc hw]
  by_cases hl : (lg : Int) ≠ 0
  · rw [if_pos hl]
    exact ⟨h.1.1.1, h.1.1.2⟩
  · rw [if_neg hl]
    exact ⟨h.1.2, h.2⟩
end Mine
end
noncomputable section
open PySem PySem.W PyProof.Rows PySem.Spec PySem.Calls
namespace Mine
set_option genInjectivity false
set_option genSizeOf false
theorem at_190 : ∀ P, nsIn (hd.heap_39 P) mainGlobals (Str.ofString "_law_painted") = some (some (.ref 190)) := fun P => by k_dflt k_is
theorem is_190 : FnIs 190 := fun P => ⟨_, _, _, _, by k_dflt k_is⟩
noncomputable abbrev midH (n hf wh lg la sp : Nat) (x3 : Int) (lo hb : Nat) : Sg := ((Str.ofString "classes"), .i (cntB false (plsN n) 2 : Nat)) :: midE n hf wh lg la sp x3 lo hb
theorem k3_frac : ∀ k : Nat, k < 3 → Float64.ofFrac (decide ((k : Int) < 0) != decide ((3 : Int) < 0)) (k : Int).natAbs (3 : Int).natAbs = k3 k := by decide +kernel
theorem painted_fn {c : Col} {wh lg sp k : Nat} {z : Bool} (hxy : (c.1 - c.2.2, c.2.1 - c.2.2) ∈ xys) (hc : c.2.2 ≤ c.1 ∧ c.1 ≤ 8 ∧ c.2.2 ≤ c.2.1 ∧ c.2.1 ≤ 8) (hw : wh ≤ 8) (hs : sp < 3) (hk : k < 3) :
    Fn 190 4 (.p (.t (c3 (readF c.1 c.2.1 c.2.2 wh lg) true)) (.p (.f (Float64.ofFrac (decide ((k : Int) < 0) != decide ((3 : Int) < 0)) (k : Int).natAbs (3 : Int).natAbs) z) (.p (.i (sp : Nat)) (.p (.i (lg : Nat)) .nl)))) (New (.li [((1000000 * (dueP c k 0 + wh) : Nat) : Int), ((1000000 * (dueP c k 1 + wh) : Nat) : Int), ((1000000 * (dueP c k 2 + wh) : Nat) : Int)])) := by
  obtain ⟨⟨⟨q1, q2, q3⟩, ⟨g1, r1⟩, ⟨g2, r2⟩, ⟨g3, r3⟩⟩, -⟩ := paint_at (lg := lg) hxy hc hw hs hk
  have C := painted_spec' (hueC wh lg c) (readF c.1 c.2.1 c.2.2 wh lg).2.1 (readF c.1 c.2.1 c.2.2 wh lg).2.2 (k3 k) sp lg ⟨Int.natCast_nonneg _, Int.ofNat_le.mpr (Nat.le_of_lt_succ hs)⟩ q1 q2 (Nat.lt_trans q3 (Nat.le_of_ble_eq_true rfl)) (fun x hx => by
    rcases List.mem_cons.mp hx with rfl | hx
    · exact g1
    rcases List.mem_cons.mp hx with rfl | hx
    · exact g2
    · cases List.mem_singleton.mp hx
      exact g3)
  rw [r1, r2, r3] at C
  rw [k3_frac k hk]
  exact fun ν us h => C ν us (p_map (t_map (p_map id (p_map f_weak (p_map f_weak id)))) (p_map f_weak id) h)
theorem row_plc {n la i : Nat} (hn : n < 36) (hl : la < 2) (hi : i < cntB false (plsN n) 2) : (rowI la (plsN n) (foundF n 9).length).getD i 0 < (foundF n 9).length ∧ plC (colAt (foundF n 9) ((rowI la (plsN n) (foundF n 9).length).getD i 0)) < 840 := by
  have hc := cnt_at hn hl (show 2 < 3 by decide)
  have hi' := Nat.lt_of_lt_of_le hi hc.1
  have hj := row_j hn hl hi'
  refine ⟨hj, ?_⟩
  rw [← pls_at hj]
  exact (hc.2.2 i hi').1.mpr hi
theorem take_at {l : List SV} {c i : Nat} {a : SV} (h : l[i]? = some a) (hi : i < c) : (nth (chainOf (l.take c)) i).getD .nl = a := by
  have hl := (List.getElem?_eq_some_iff.mp h).1
  rw [chain_nth (by rw [List.length_take]; exact Nat.lt_min.mpr ⟨hi, hl⟩), List.getD_eq_getElem?_getD, List.getElem?_take, if_pos hi, h]
  rfl
theorem due_at {c : Col} (h1 : c.2.2 ≤ c.1) (h3 : c.2.2 ≤ c.2.1) {k : Nat} (hk : k < 3) : (nth (.p (.t (.p (.i (c.1 : Nat)) (.p (.i (c.2.1 : Nat)) (.p (.i (c.2.2 : Nat)) .nl)))) (.p (.t (.p (.i (c.2.2 : Nat)) (.p (.i (c.1 : Nat)) (.p (.i (c.2.1 : Nat)) .nl)))) (.p (.t (.p (.i (c.2.1 : Nat)) (.p (.i (c.2.2 : Nat)) (.p (.i (c.1 : Nat)) .nl)))) .nl))) k).getD .nl = colS (dueP c k 0, dueP c k 1, dueP c k 2) := by
  have d1 : c.2.2 + (c.1 - c.2.2) = c.1 := by lia
  have d2 : c.2.2 + (c.2.1 - c.2.2) = c.2.1 := by lia
  rcases k with _ | _ | _ | k
  · rw [show dueP c 0 0 = c.1 from d1, show dueP c 0 1 = c.2.1 from d2]; rfl
  · rw [show dueP c (0 + 1) 1 = c.1 from d1, show dueP c (0 + 1) 2 = c.2.1 from d2]; rfl
  · rw [show dueP c (0 + 1 + 1) 2 = c.1 from d1, show dueP c (0 + 1 + 1) 0 = c.2.1 from d2]; rfl
  · exact absurd hk (by lia)
theorem mul_10 {d w : Nat} : (10 : Int) ^ (6 : Int).toNat * ((d : Int) + (w : Int)) = ((1000000 * (d + w) : Nat) : Int) := by
  rw [show (10 : Int) ^ (6 : Int).toNat = 1000000 from rfl]
  lia
theorem k840 {k : Nat} (h : k < 3) : (840 * (k : Int)).natAbs < 2 ^ 64 := by lia
theorem turned {p : Int} {a b k : Nat} : (10 : Int) ^ (6 : Int).toNat * (p + 840 * (k : Int) * (if decide ((b : Int) < (a : Int)) = true then 1 else 0)) = 1000000 * (p + 840 * (k : Int) * (if b < a then 1 else 0)) := by
  rw [show (10 : Int) ^ (6 : Int).toNat = 1000000 from rfl]
  congr 3
  by_cases hq : b < a
  · rw [if_pos hq, if_pos (decide_eq_true (Int.ofNat_lt.mpr hq))]
  · rw [if_neg hq, if_neg fun h => hq (Int.ofNat_lt.mp (of_decide_eq_true h))]
section
variable {K : PC} {lv : Nat} {s0 : Shared} {σ : Sg} {ν : Lg} {R : Flow → Shared → Prop}
theorem cmp_li_self {sc : Scope} {l : List Int} (G : PGood K sc lv) (h : 1 ≤ lv) : CmpK K sc s0 σ .NotEq (.li l) (.li l) false := by
  have := cmp_li_ne (s0 := s0) (σ := σ) (l := l) (l' := l) G h
  rwa [decide_eq_true rfl] at this
theorem law_H {n hf wh lg la sp lo hb : Nat} {x3 : Int} (H : LawK K) (G : PGood K lawSc 20) (ht : LT ν) (hn36 : n < 36) (hwh9 : wh < 9) (hla : la < 2) (hsp : sp < 3)
    (h : ∀ ν' s', LT ν' → PAt K lawSc ν' s0 (midH n hf wh lg la sp x3 lo hb) false s' → R (.ret (.bool true)) s') : Tri K lawSc s0 false (midH n hf wh lg la sp x3 lo hb) ν (lawB 19) R := by
  have hk : PySem.Challenge.rw_uk0013_01 = PySem.Challenge.rw_uk0013_01 := rfl
  revert hk
  k_fill
  intro _
  show Tri _ _ _ _ _ _ [_, _] _
  have hl7 := found_len n hn36
  have hl1000 : (foundF n 9).length ≤ 1000 := Nat.le_trans hl7 (by decide)
  have hw8 : wh ≤ 8 := Nat.le_of_lt_succ hwh9
  have hcn := (cnt_at hn36 hla (show 2 < 3 by decide)).1
  have nn : ∀ x : Nat, x ≤ 8 → (0 : Int) ≤ x ∧ (x : Int) ≤ 8 := fun x h => ⟨Int.natCast_nonneg x, Int.ofNat_le.mpr h⟩
  refine tri_forO (n := cntB false (plsN n) 2) (fun i σ' ν' => LT ν' ∧ σ' = midH n hf wh lg la sp x3 lo hb) G H.own (src_list G.han (exE_slice (x := .l (chainOf ((rowS n la wh lg (foundF n 9).length).take (cntB false (plsN n) 2)))) (ev_of G .nil) (by rfl) (by rfl) (by rfl) (by trivial) (by rfl) (by trivial) (by rfl) (by trivial) (by decide) (fun u hu => upto_pick (by rw [rowS_len]; exact hl1000) hu) (fun l n => ⟨_, rfl⟩)) (by show some (_, _) = some (_, _); rw [chain_clen, List.length_take, rowS_len, Nat.min_eq_left hcn]) (.inr ⟨⟨_, _, _, rfl⟩, fun i hi => ⟨_, take_at (rowS_at (Nat.lt_of_lt_of_le hi hcn)) hi⟩⟩)) (fun ν1 e => ⟨_, ⟨ht.mono e, rfl⟩, AllSub.of rfl⟩) (fun X kl hq G i σ' ν' hi hj hkl => ?_) fun σ' ν' hj => ?_
  rotate_left
  · obtain ⟨hlt, rfl⟩ := hj
    exact fun s hs => wpAny_execs_cons (wpAny_Return_some (wpAny_Constant_bool (h ν' s hlt hs)))
  obtain ⟨hlt, rfl⟩ := hj
  obtain ⟨hrj, hpl⟩ := row_plc hn36 hla hi
  have hxy := col_xy hn36 hrj hpl
  have hci := col_in hn36 hrj
  refine ⟨((Str.ofString "told"), .t (c3 (readF (colAt (foundF n 9) ((rowI la (plsN n) (foundF n 9).length).getD i 0)).1 (colAt (foundF n 9) ((rowI la (plsN n) (foundF n 9).length).getD i 0)).2.1 (colAt (foundF n 9) ((rowI la (plsN n) (foundF n 9).length).getD i 0)).2.2 wh lg) true)) :: ((Str.ofString "colour"), colS (colAt (foundF n 9) ((rowI la (plsN n) (foundF n 9).length).getD i 0))) :: midH n hf wh lg la sp x3 lo hb, .inr ⟨_, _, _, _, rfl, take_at (rowS_at (Nat.lt_of_lt_of_le hi hcn)) hi, rfl⟩, ?_⟩
  clear hrj hpl
  generalize colAt (foundF n 9) ((rowI la (plsN n) (foundF n 9).length).getD i 0) = c at *
  refine tri_unp G .nil rfl trivial rfl ?_
  have tup : ∀ {z : Bool} {ν : Lg} {a b c : Int} {x y w : Str} {k : Nat} {pa pb pc p : Pos} {σ : Sg} (ha : σ.lookup x = some (.i a)) (hb : σ.lookup y = some (.i b)) (hc : σ.lookup w = some (.i c)), Ex (K.frs X) lawSc s0 z σ ν (.Tuple [.Name x pa, .Name y pb, .Name w pc] k p) (.t (.p (.i a) (.p (.i b) (.p (.i c) .nl)))) (Ext ν) := fun ha hb hc => ex_tup (exl_cons (ex_pure (c := []) G .nil (by show (List.lookup _ _).bind _ = _; rw [ha]; rfl) trivial) fun _ _ => exl_cons (ex_pure (c := []) G .nil (by show (List.lookup _ _).bind _ = _; rw [hb]; rfl) trivial) fun _ _ => exl_cons (ex_pure (c := []) G .nil (by show (List.lookup _ _).bind _ = _; rw [hc]; rfl) trivial) fun _ _ => exl_nil) (Nat.le_of_ble_eq_true rfl)
  refine tri_forO (n := 3) (fun k σ2 ν2 => (∀ p ∈ ν', p ∈ ν2) ∧ σ2 = (((Str.ofString "b"), .i (c.2.2 : Nat)) :: ((Str.ofString "g"), .i (c.2.1 : Nat)) :: ((Str.ofString "r"), .i (c.1 : Nat)) :: ((Str.ofString "told"), .t (c3 (readF c.1 c.2.1 c.2.2 wh lg) true)) :: ((Str.ofString "colour"), colS c) :: midH n hf wh lg la sp x3 lo hb)) G H.frs.own (src_enum G.env G.han G (ex_list (exl_cons (tup rfl rfl rfl) fun _ _ => exl_cons (tup rfl rfl rfl) fun _ _ => exl_cons (tup rfl rfl rfl) fun _ _ => exl_nil) (Nat.le_of_ble_eq_true rfl)) rfl) (fun ν1 e => ⟨_, ⟨e, rfl⟩, AllSub.of rfl⟩) (fun X2 kl2 hq2 G k σ2 ν2 hk hj2 hkl2 => ?_) fun σ2 ν2 hj2 => ?_
  rotate_left
  · obtain ⟨hs, rfl⟩ := hj2
    exact tri_fend (midH n hf wh lg la sp x3 lo hb) ν2 ⟨hlt.mono hs, rfl⟩ (fun p hp => hs p (hkl p hp)) (fun _ h => h) (sub_of (AllSub.get (.of rfl)))
  obtain ⟨hs2, rfl⟩ := hj2
  refine ⟨((Str.ofString "due"), colS (dueP c k 0, dueP c k 1, dueP c k 2)) :: ((Str.ofString "k"), .i (k : Nat)) :: (((Str.ofString "b"), .i (c.2.2 : Nat)) :: ((Str.ofString "g"), .i (c.2.1 : Nat)) :: ((Str.ofString "r"), .i (c.1 : Nat)) :: ((Str.ofString "told"), .t (c3 (readF c.1 c.2.1 c.2.2 wh lg) true)) :: ((Str.ofString "colour"), colS c) :: midH n hf wh lg la sp x3 lo hb), .inr ⟨_, _, _, .p (.i (k : Nat)) (.p (colS (dueP c k 0, dueP c k 1, dueP c k 2)) .nl), rfl, congrArg (fun t => SV.t (.p (.i (k : Nat)) (.p t .nl))) (due_at hci.1 hci.2.2.1 hk), rfl⟩, ?_⟩
  obtain ⟨h1, hag, ⟨z1, z2⟩, hz⟩ := paint_at (lg := lg) hxy hci hw8 hsp hk
  clear h1
  have htq := told_eq (wh := wh) (lg := lg) hci hw8
  have hdb := due_le hci hk
  refine tri_asgX G (ex_call G .nil at_185 is_185 (by decide) rfl trivial (read_spec' _ _ _ wh lg (nn _ hdb.1) (nn _ hdb.2.1) (nn _ hdb.2.2) (nn _ hw8)) gives_new) fun ν3 S3 => ?_
  have O : ∀ ν, OraOK ((K.frs X).frs X2) lawSc ν [((Str.ofString "_law_place"), fun _ => φplace), ((Str.ofString "int"), fun _ => φint)] := fun ν => .cons (cal_fn G fn_place at_197 is_197 (by decide)) (.cons (c_int G rfl) .nil)
  refine tri_asg G (O _) rfl ⟨⟨Int.natCast_nonneg _, Int.ofNat_le.mpr (Nat.le_trans hci.1 hci.2.1)⟩, ⟨Int.ofNat_le.mpr hci.1, Int.ofNat_le.mpr hci.2.1⟩, ⟨Int.ofNat_le.mpr hci.2.2.1, Int.ofNat_le.mpr hci.2.2.2⟩, mul_l (by decide), IntMulOk.of_left (intBits_le (k840 hk)), trivial⟩ ?_
  have ecl := H.cl.trans H.cells
  have hdd : ∀ j, j < 3 → [dueP c k 0, dueP c k 1, dueP c k 2].getD j 0 ≤ 8 := fun j hj => by
    rcases j with _ | _ | _ | j
    · exact hdb.1
    · exact hdb.2.1
    · exact hdb.2.2
    · exact absurd hj (by lia)
  refine tri_ifE (SL := Ext ν3) (SR := Ext) (t := false) (ex_call G .nil at_190 is_190 (by decide) rfl ⟨Nat.lt_of_le_of_lt (Nat.le_of_lt hk) (by decide), by decide, trivial⟩ (painted_fn hxy hci hw8 hsp hk) gives_new) (fun ν4 S4 => ex_to (comp_ex (n := 3) (σ0 := [((Str.ofString "white"), .i (wh : Nat))]) (σt := fun j => ((Str.ofString "part"), .i (([dueP c k 0, dueP c k 1, dueP c k 2].getD j 0 : Nat) : Int)) :: [((Str.ofString "white"), .i (wh : Nat))]) (b := fun _ => true) (out := fun j => .i (10 ^ (6 : Int).toNat * ((([dueP c k 0, dueP c k 1, dueP c k 2].getD j 0 : Nat) : Int) + (wh : Nat)))) (cl := [((Str.ofString "white"), K.L + 1 + 1 + 1 + 1)]) (sv := .li [((1000000 * (dueP c k 0 + wh) : Nat) : Int), ((1000000 * (dueP c k 1 + wh) : Nat) : Int), ((1000000 * (dueP c k 2 + wh) : Nat) : Int)]) G.env G (src_tup (cc := .p (.i (dueP c k 0 : Nat)) (.p (.i (dueP c k 1 : Nat)) (.p (.i (dueP c k 2 : Nat)) .nl))) (ev_of G .nil) rfl trivial) (Nat.le_of_ble_eq_true rfl) (cells_in ⟨⟨rfl, rfl, rfl, _, by show K.ow.lookup _ = _; rw [H.cells]; rfl, rfl⟩, trivial⟩) (fun j hj => .name rfl ?it) (fun ν1 h j hj => ifs_nil) (fun ν1 h j hj _ => elt_ev G.env rfl .nil rfl ⟨by decide, by decide, mul_l (by decide), trivial⟩) (fun ν' u hu => ?out) (by unfold PC.env; show closureFor _ (envX K.cn _ _ _ _ K.cl) = _; rw [ecl]; rfl)) (fun ν' => SC.ext fun _ e => e ▸ .refl)) (fun _ _ u _ S h => h.mono S) (cmp_li_self G (by decide)) (fun h => nomatch h) fun _ ν4 ν5 S4 S5 => tri_next ?_
  case it =>
    rcases j with _ | _ | _ | j
    · rfl
    · rfl
    · rfl
    · exact absurd hj (by lia)
  case out =>
    have := outs_li hu
    rw [show (List.range 3).map (fun j => (10 : Int) ^ (6 : Int).toNat * ((([dueP c k 0, dueP c k 1, dueP c k 2].getD j 0 : Nat) : Int) + (wh : Nat))) = [(10 : Int) ^ (6 : Int).toNat * ((dueP c k 0 : Int) + (wh : Int)), (10 : Int) ^ (6 : Int).toNat * ((dueP c k 1 : Int) + (wh : Int)), (10 : Int) ^ (6 : Int).toNat * ((dueP c k 2 : Int) + (wh : Int))] from rfl, mul_10, mul_10, mul_10] at this
    exact this
  have g1 := congrArg Prod.fst hag
  have g2 := congrArg Prod.snd hag
  refine tri_ifOr (Φ := [((Str.ofString "round"), fun _ => φround)]) G (ex_sliceT (by assumption) rfl) (fun ν6 _ => ex_sv (sv' := .t (.p (.f (readF (dueP c k 0) (dueP c k 1) (dueP c k 2) wh lg).2.1 true) (.p (.f (readF (dueP c k 0) (dueP c k 1) (dueP c k 2) wh lg).2.2 true) .nl))) (ex_sliceT (by assumption) rfl) fun ν' u hu => by rw [g1, g2]; exact hu) (cmp_ft G (by decide) (g1 ▸ htq.1) (g2 ▸ htq.2)) (fun ν2 => .cons (cal_bi G (bi_round G) bt_round (.inl ⟨_, rfl⟩) rfl no_round (by decide)) .nil) rfl ⟨by decide, by decide, mul_l (by decide), by decide, z1, z2, by decide, by decide, mul_l (by decide), trivial⟩ (fun hc => ?_) fun _ ν6 S6 => tri_next (tri_fend (((Str.ofString "b"), .i (c.2.2 : Nat)) :: ((Str.ofString "g"), .i (c.2.1 : Nat)) :: ((Str.ofString "r"), .i (c.1 : Nat)) :: ((Str.ofString "told"), .t (c3 (readF c.1 c.2.1 c.2.2 wh lg) true)) :: ((Str.ofString "colour"), colS c) :: midH n hf wh lg la sp x3 lo hb) ν6 ⟨fun p hp => S6 p (S5 p (S4 p (S3 p (hs2 p hp)))), rfl⟩ (fun p hp => S6 p (S5 p (S4 p (S3 p (hkl2 p hp))))) (fun _ h => h) (sub_of (AllSub.get (.of rfl))))
  have hc : (_ != _) = true := hc
  refine absurd (bne_iff_ne.mp hc) fun q => q ?_
  rw [turned]
  exact hz
end
end Mine
end
noncomputable section
open PySem PySem.W PyProof.Rows PySem.Spec PySem.Calls
namespace Mine
set_option genInjectivity false
set_option genSizeOf false
theorem law_all {K : PC} {s0 : Shared} {ν : Lg} {ns : List Int} {q : Addr} {us : List Value} (H : LawK K) (G : PGood K lawSc 20) (ht : LT ν) (hgl : K.g.IsList q us.toArray) (hI : IntsAre us ns) (hn : ns.length ≤ 63) :
    Tri K lawSc s0 false [((Str.ofString "script"), .v (.ref q))] ν (lawB 0) (fun f s' => f = .ret (.bool true) ∧ ∃ ν' σ', LT ν' ∧ PAt K lawSc ν' s0 σ' false s') :=
  law_A H G ht hgl hI hn rfl fun n wd hf x0 x1 x2 x3 ν1 hn36 hhf hw8 hwh ht1 =>
  law_B H G ht1 hn36 hhf hw8 hwh rfl fun wh lg la sp ν2 hwh9 hlg hla hsp ht2 =>
  law_C H G ht2 hn36 fun qR ν3 ht3 =>
  law_D H G ht3 hn36 hwh9 hla rfl fun σ4 ν4 hj =>
  law_E H G hn36 hla hj fun lo hb ν5 hlo hhb ht5 =>
  law_F H G ht5 hn36 hwh9 hla fun ν6 ht6 =>
  law_G H G ht6 hn36 hhf hwh9 hla fun ν7 ht7 =>
  law_H H G ht7 hn36 hwh9 hla hsp fun ν8 s' ht8 hs => ⟨rfl, ν8, _, ht8, hs⟩
theorem law_run {w : World} {p : Program} {loose : List Str} {mean : ExcName → Option Value} {mg mb : Str → Option Value} {dp un : Nat} {gd : Option (List Code)} {fa : Addr} {A₀ : Around} {g : Heap} {L q : Addr} {s : Shared} {o1 o2 o3 o4 o5 : Obj} {cm : Str → Option Value} {us : List Value} {ns : List Int}
    (B : Below A₀ g [] g) (X : (hd.heap_39 w.params).In g) (T : Top p loose mean mg mb g) (cH : CodeHd g 208 206) (hd1 : dp + 10 * 20 < recursionLimit) (hu1 : un + 100 * 20 < cLine) (l0 : 90 < L ∧ 83 < L ∧ 206 < L)
    (F : Fr g L s.heap (fun _ => none)) (N : News g L s.heap [(L + 1 + 1 + 1 + 1 + 1, o1), (L + 1 + 1 + 1 + 1, o2), (L + 1 + 1 + 1, o3), (L + 1 + 1, o4), (L + 1, o5), (90, tabObj #[]), (83, tabObj #[]), (206, tabObj #[])])
    (Y : CellsAre cm (cellsFrom (L + 1) lawSc.names []) [(L + 1 + 1 + 1 + 1 + 1, o1), (L + 1 + 1 + 1 + 1, o2), (L + 1 + 1 + 1, o3), (L + 1 + 1, o4), (L + 1, o5)]) (hc : cm (Str.ofString "script") = some (.ref q)) (hgl : g.IsList q us.toArray) (hI : IntsAre us ns) (hn : ns.length ≤ 63) :
    wpAny (PM w) (ktrTop dp un gd (Str.ofString "law") lawSc L fa (.ref 208) (cellsFrom (L + 1) lawSc.names []) []) (execs (lawB 0) (envX (Str.ofString "law") lawSc L fa (.ref 208) (cellsFrom (L + 1) lawSc.names [])))
      (fun f s' => f = .ret (.bool true) ∧ s' = { s with heap := s'.heap, toks := s'.toks } ∧ (∃ m, Fr g L s'.heap m) ∧ GrownAll [(94, 90), (87, 83), (208, 206)] s'.heap) (fun _ _ => False) s := by
  obtain ⟨n1, n2⟩ := cellsFrom_addr lawSc.names (L + 1) [] nofun .nil
  have hid : ((cellsFrom (L + 1) lawSc.names []).map (·.2) ++ ([] : Lg).map (·.1)) = (cellsFrom (L + 1) lawSc.names []).map (·.2) := List.append_nil _
  have nn : ((cellsFrom (L + 1) lawSc.names []).map (·.1)).Nodup := cellsFrom_names lawSc.names 0 (L + 1) [] [] rfl ▸ (by decide +kernel : ((cellsFrom 0 lawSc.names []).map (·.1)).Nodup)
  have ht : LT [(90, tabObj #[]), (83, tabObj #[]), (206, tabObj #[])] := ⟨fun T hT => ⟨#[], by
    refine mem_c hT ?_ fun hT => ?_
    · exact .tail _ (.head _)
    · cases List.mem_singleton.mp hT
      exact .head _, .inl rfl⟩, #[], .tail _ (.tail _ (.head _)), .nil⟩
  refine wpAny_mono (law_all (K := ⟨w, ktrTop dp un gd (Str.ofString "law") lawSc L fa (.ref 208) (cellsFrom (L + 1) lawSc.names []) [], Str.ofString "law", L, fa, .ref 208, cellsFrom (L + 1) lawSc.names [], cellsFrom (L + 1) lawSc.names [], g, [], []⟩) (s0 := s) ⟨rfl, rfl, rfl, rfl, cH, p, loose, mean, mg, mb, dp, un, gd, A₀, rfl, B, X, T, hd1, hu1⟩
    ⟨rfl, (congrArg List.Nodup hid).mpr n1, fun _ h => h, nn, fun _ _ h => h, p, loose, mean, mg, mb, dp, un, gd, [], A₀, g, rfl, B, X, T, hd1, hu1⟩ ht hgl hI hn s ⟨_, cm, ([(L + 1 + 1 + 1 + 1 + 1, o1), (L + 1 + 1 + 1 + 1, o2), (L + 1 + 1 + 1, o3), (L + 1 + 1, o4), (L + 1, o5)], []), rfl, F, fun p hp => N p ?_, Y, (congrArg List.Nodup hid).mpr n1, fun p hp q => ?_, fun x sv hx => lk_set (P := fun sv => Kn lawSc _ _ cm [] _ x sv) hx (fun e => .inr (.inl ⟨by rw [e]; exact ⟨rfl, rfl⟩, _, by rw [e]; exact hc, rfl⟩)) fun _ hx => (nomatch hx), nofun⟩) (fun f s' hd => ?_) fun _ _ h => h
  · rcases List.mem_append.mp hp with hp | hp
    · exact List.mem_append_right [_, _, _, _, _] hp
    · exact List.mem_append_left _ ((List.mem_append.mp hp).elim id fun hp => (List.not_mem_nil hp).elim)
  · have q : p.1 ∈ (cellsFrom (L + 1) lawSc.names []).map (·.2) := hid ▸ q
    refine (n2 _ q).elim nofun fun (h : @LE.le Nat _ (L + 1) p.1) => ?_
    rcases List.mem_cons.mp hp with rfl | hp
    · exact Nat.lt_irrefl _ (Nat.lt_trans l0.1 h)
    rcases List.mem_cons.mp hp with rfl | hp
    · exact Nat.lt_irrefl _ (Nat.lt_trans l0.2.1 h)
    · cases List.mem_singleton.mp hp
      exact Nat.lt_irrefl _ (Nat.lt_trans l0.2.2 h)
  · obtain ⟨rfl, ν', σ', ⟨ht, ps, hp, -⟩, m, cm', κ, D⟩ := hd
    obtain ⟨p1, t1, -⟩ := ht _ in83
    obtain ⟨p2, t2, -⟩ := ht _ in90
    have at' : ∀ {p : Addr × Obj}, p ∈ ν' → s'.heap.get? p.1 = some p.2 := fun hp => (D.N _ (List.mem_append_left _ hp)).1
    exact ⟨rfl, D.e, ⟨m, D.F⟩, ⟨p2, at' t2⟩, ⟨p1, at' t1⟩, ⟨ps, at' hp⟩, trivial⟩
end Mine
end
open PySem PySem.W PyProof.Rows PySem.Spec PySem.Calls
theorem PySem.Challenge.cw_uk0013_01_holds : PySem.Challenge.rw_uk0013_01.Holds := by
  exact hd (by
    k_go0
    all_goals try k_fold
    rename IntsAre _ _ => hI
    rename (¬ _ < _) => hlen
    rename Fr _ _ _ _ => F
    rename News _ _ _ _ => N
    rename Below _ _ _ _ => B
    rename Top topProg _ _ _ _ _ => T
    rename Frag.In _ _ => X
    rename CodeHd _ _ _ => cH1
    rename (_ ∧ _ ∧ _) => l0
    rename Shared.gens _ = _ => hgens
    rename CellsAre _ _ _ => Y
    rename Heap.IsList (ghostOf _ _) _ _ => hSL
    refine wpAny_mono (Mine.law_run B X T cH1 (by decide) (by decide) l0 F N Y rfl hSL hI (Nat.not_lt.mp fun h => hlen (Int.ofNat_lt.mpr h))) (fun f s' h8 => ?_) (fun e s' h8 => h8.elim)
    obtain ⟨rfl, e8, ⟨m8, F8⟩, hG⟩ := h8
    obtain ⟨h9, gens9, drawn9, tk9, os9⟩ := s'
    cases e8
    refine ⟨?_, hG⟩
    exact ⟨.inl ⟨.bool true, .bool true, [], rfl, fun _ => rfl, .bool true, (by with_unfolding_all rfl), fun _ => ⟨.nil, fun a h => nomatch h⟩⟩, fun b o e => F8.keep b o e, rfl, hgens⟩)
