import PyProof.Rows.All
import Wide.All
import OpenK.AllK
import Wide.FinOn
import Lean
import PySem.Challenge.RW_il0137_01
set_option Elab.async false
section
open PySem PySem.W PyProof.Rows
namespace Mine
set_option maxRecDepth 100000 in
set_option maxHeartbeats 8000000 in
open_top hd for PySem.Challenge.rw_il0137_01
end Mine

end
section
open PySem PySem.W PyProof.Rows
namespace Mine
theorem runs_toks {M : Model} {Γ : Ctx} {p : Pos} {t : Sem Fin} {fs : List Frame} {s : Shared} {e : End} {s' : Shared} (h : Runs M Γ p t fs s e s') : s.toks ≤ s'.toks := by
  induction h <;> (try dsimp only [Shared.setGen] at *) <;> omega

theorem wakes_toks {M : Model} {Γ : Ctx} {p : Pos} {g : Nat} {r : Resume} {s : Shared} {res : GenResult} {s' : Shared} (h : Wakes M Γ p g r s res s') : s.toks ≤ s'.toks := by
  unfold Wakes at h
  split at h
  · exact h.elim
  · split at h
    · obtain ⟨e₁, s₁, h1, -, -, rfl⟩ := h
      have := runs_toks h1
      simpa only [Shared.setGen] using this
    · obtain ⟨-, rfl⟩ := h; exact Nat.le_refl _
    · obtain ⟨-, rfl⟩ := h; exact Nat.le_refl _
  · obtain ⟨e₁, s₁, h1, -, -, rfl⟩ := h
    have := runs_toks h1
    simpa only [Shared.setGen] using this
  · obtain ⟨-, rfl⟩ := h; exact Nat.le_refl _
  · obtain ⟨-, rfl⟩ := h; exact Nat.le_refl _

theorem wp_toks {X : Type} {M : Model} {Γ : Ctx} {Q : X → Pos → Shared → Prop} {E : Value → Pos → Shared → Prop} (n : Nat) (t : Sem X) (p : Pos) (s : Shared) (hn : n ≤ s.toks)
    (h : Sem.wp M Γ t (fun a p' s' => n ≤ s'.toks → Q a p' s') E p s) : Sem.wp M Γ t Q E p s := by
  revert h
  induction t generalizing p s with
  | pure x => exact fun h => h hn
  | raise v => exact id
  | unsupported | finish | yield | fork | await | register => exact id
  | rule _ k ih | «at» _ k ih | alloc _ k ih | loadIfAlive _ k ih | point _ k ih | ask k ih | os _ _ k ih | handled _ k ih | newGen _ k ih | stack k ih | thread k ih => exact ih _ _ _ hn
  | fresh k ih => exact ih _ _ _ (Nat.le_succ_of_le hn)
  | load a _ k ih | genState a k ih => exact fun ⟨o, ho, h⟩ => ⟨o, ho, ih _ _ _ hn h⟩
  | update a _ f k ih | choose _ _ k ih => exact fun ⟨ha, h⟩ => ⟨ha, ih _ _ _ hn h⟩
  | call c h g l k ih => exact fun ⟨r, s', hr, hR⟩ => ⟨r, s', hr, ih r _ _ (Nat.le_trans hn (runs_toks hr)) hR⟩
  | resume g r l k ih => exact fun ⟨res, s', hw, h⟩ => ⟨res, s', hw, ih _ _ _ (Nat.le_trans hn (wakes_toks hw)) h⟩

/-- what a tree leaves: the counter of texts and ints has not fallen -/
def TokM (n k : Nat) (P : Prop) : Prop := n ≤ k → P
theorem any_toks {X : Type} {M : Model} {A : Around} {t : Sem X} {Q : X → Shared → Prop} {E : Value → Shared → Prop} {s : Shared}
    (h : wpAny M A t (fun a s' => TokM s.toks s'.toks (Q a s')) E s) : wpAny M A t Q E s := fun Γ p hΓ =>
  wp_toks s.toks t p s (Nat.le_refl _) (h Γ p hΓ)
end Mine

end
section
open PySem PySem.W PyProof.Rows
open PySem.Spec
namespace Mine
section
variable {prog : Program} {w : World} {A : Around} {E : Value → Shared → Prop} {s : Shared}

/-- one step of an iterator over a dict's pairs, the pair told to the sign (its key as it is stored) -/
theorem next_pair {it d : Addr} {i ep : Nat} {es : Array DictEntry} {od : Obj} {en : DictEntry} {ok ov : Value} {Q : Option Value → Shared → Prop}
    (hit : IsItemIter s.heap it d i es.size ep ok ov) (hod : s.heap.get? d = some od) (hdd : od.data = .dict es ep) (hen : es[i]? = some en)
    (hQ : ∀ h', IsItemIterOut h' it d (i + 1) es.size ep en.key en.val s.heap.objs.size →
      h'.get? s.heap.objs.size = some { cls := .type "tuple", data := .seq #[en.key, en.val] } →
      (∀ b o, b ≠ it → s.heap.get? b = some o → h'.get? b = some o) → Q (some (.ref s.heap.objs.size)) { s with heap := h' }) :
    wpAny (model prog w) A (pyNext (.ref it)) Q E s := by
  obtain ⟨H, gs, dr, tk, os⟩ := s
  have isIt : ∀ h : Heap, ∀ j a b, IsItemIter h it d j es.size ep a b → Shared.TypeIs ⟨h, gs, dr, tk, os⟩ (.ref it) "dict_itemiterator" := fun h j a b x => ⟨_, x, rfl⟩
  have T0 := isIt H i ok ov hit
  have owns : Builtin.Dict_items.ownsTuple "dict_itemiterator" = true := by decide
  unfold pyNext
  refine wpAny_bind (wpAny_attempt (wpAny_callSpecial?_slot (name := Str.ofString "__next__") T0 F.slot_dict_itemiterator_next
    (wpAny_call_entry F.slot_dict_itemiterator_next T0 F.entry_dict_itemiterator_next ?_ (F.args_dict_itemiterator_next_1 _))))
  refine wpAny_bind (wpAny_pure (wpAny_bind (wpAny_bind (wpAny_bind (wpAny_typeNameOfWhole_itemiter T0 (wpAny_pure ?_))))))
  refine wpAny_bind (wpAny_fieldsOf hit rfl ?_)
  simp only [owns, if_true]
  show wpAny _ _ (if (Value.ref d == Value.none) = true then _ else _) _ _ _
  rw [if_neg (show ¬ ((Value.ref d == Value.none) = true) from Bool.false_ne_true)]
  refine wpAny_bind (wpAny_pure (wpAny_bind (wpAny_dictEntries hod hdd ?_)))
  rw [if_neg (by simp)]
  refine wpAny_bind (wpAny_pure (wpAny_bind (wpAny_dictEpoch hod hdd ?_)))
  rw [if_neg (by simp)]
  refine wpAny_pure ?_
  simp only [show ¬ ((i : Int) < 0) from by omega, if_false, Int.toNat_natCast, hen]
  refine wpAny_bind (wpAny_bind (wpAny_typeNameOfWhole_itemiter T0 (wpAny_pure ?_)))
  refine wpAny_bind (wpAny_isOneOf_itemiter T0 ?_)
  show wpAny _ _ (setField (.ref it) 3 (rawInt ((i : Int) + 1)) >>= _) _ _ ⟨H, gs, dr, tk, os⟩
  refine wpAny_bind (wpAny_setField_rec hit (by simp) fun h₁ e₁ s₁ => ?_)
  replace s₁ : Heap.SameBut it H h₁ := s₁
  replace e₁ : IsItemIter h₁ it d (i + 1) es.size ep ok ov := by
    have e : ((i + 1 : Nat) : Int) = (i : Int) + 1 := by omega
    unfold IsItemIter; rw [e]; simpa [rawInt] using e₁
  have T1 := isIt h₁ _ _ _ e₁
  refine wpAny_bind (wpAny_holding (wpAny_bind (wpAny_isOneOf_itemiter T1 ?_)))
  refine wpAny_bind (wpAny_isOneOf_itemiter T1 ?_)
  show wpAny _ _ (Builtin.Dict_items.pairFromOwner (.ref it) 6 en.key en.val) _ _ ⟨h₁, gs, dr, tk, os⟩
  unfold Builtin.Dict_items.pairFromOwner
  refine wpAny_bind (wpAny_newTuple ?_)
  have lt : it < H.objs.size := Heap.lt_size hit
  have ne : H.objs.size ≠ it := Nat.ne_of_gt lt
  have sz : h₁.objs.size = H.objs.size := s₁.1
  obtain ⟨h₂, hh₂⟩ : ∃ h₂, h₂ = h₁.push { cls := .type "tuple", data := .seq #[en.key, en.val] } := ⟨_, rfl⟩
  have e₂ : IsItemIter h₂ it d (i + 1) es.size ep ok ov := hh₂ ▸ Heap.get?_push_of_some _ e₁
  have t₂ : h₂.get? H.objs.size = some { cls := .type "tuple", data := .seq #[en.key, en.val] } := by rw [hh₂, ← sz]; exact Heap.get?_push_size _ rfl
  have k₂ : ∀ b o, b ≠ it → H.get? b = some o → h₂.get? b = some o := fun b o hb e => by rw [hh₂]; exact Heap.get?_push_of_some _ (s₁.extBut b o hb e)
  show wpAny _ _ (Builtin.Dict_items.ownedTupleIsFree (.ref it) >>= _) _ _ ⟨h₁.push { cls := .type "tuple", data := .seq #[en.key, en.val] }, gs, dr, tk, os⟩
  rw [← hh₂, sz]
  refine wpAny_bind ?_
  unfold Builtin.Dict_items.ownedTupleIsFree
  refine wpAny_bind (wpAny_field e₂ rfl (x := .none) rfl (wpAny_pure ?_))
  simp only [if_true]
  refine wpAny_bind (wpAny_field e₂ rfl (x := ok) rfl ?_)
  refine wpAny_bind (wpAny_field e₂ rfl (x := ov) rfl ?_)
  refine wpAny_bind (wpAny_setField_rec e₂ (by simp) fun h₃ e₃ s₃ => ?_)
  replace s₃ : Heap.SameBut it h₂ h₃ := s₃
  replace e₃ : IsItemIter h₃ it d (i + 1) es.size ep en.key ov := e₃
  refine wpAny_bind (wpAny_setField_rec e₃ (by simp) fun h₄ e₄ s₄ => ?_)
  replace s₄ : Heap.SameBut it h₃ h₄ := s₄
  replace e₄ : IsItemIter h₄ it d (i + 1) es.size ep en.key en.val := e₄
  refine wpAny_bind (wpAny_setField_rec e₄ (by simp) fun h₅ e₅ s₅ => ?_)
  replace s₅ : Heap.SameBut it h₄ h₅ := s₅
  replace e₅ : IsItemIterOut h₅ it d (i + 1) es.size ep en.key en.val H.objs.size := e₅
  refine wpAny_bind (wpAny_setField_rec e₅ (by simp) fun h₆ e₆ s₆ => ?_)
  replace s₆ : Heap.SameBut it h₅ h₆ := s₆
  replace e₆ : IsItemIterOut h₆ it d (i + 1) es.size ep en.key en.val H.objs.size := e₆
  have up : ∀ b o, b ≠ it → h₂.get? b = some o → h₆.get? b = some o := fun b o hb e => s₆.extBut b o hb (s₅.extBut b o hb (s₄.extBut b o hb (s₃.extBut b o hb e)))
  exact wpAny_bind (wpAny_letGo (wpAny_pure (wpAny_pure ⟨_, rfl, wpAny_pure (hQ h₆ e₆ (up _ _ ne t₂) fun b o hb e => up b o hb (k₂ b o hb e))⟩)))
end
end Mine

end
section
open PySem PySem.W PyProof.Rows PyProof.V
open PySem.Spec
namespace Mine

/-- two lists, item by item -/
inductive All2 {α β : Type} (R : α → β → Prop) : List α → List β → Prop
  | nil : All2 R [] []
  | cons {a : α} {b : β} {as : List α} {bs : List β} : R a b → All2 R as bs → All2 R (a :: as) (b :: bs)
theorem All2.length {α β : Type} {R : α → β → Prop} {as : List α} {bs : List β} (h : All2 R as bs) : as.length = bs.length := by
  induction h with
  | nil => rfl
  | cons _ _ ih => simp [ih]
theorem All2.snoc {α β : Type} {R : α → β → Prop} {as : List α} {bs : List β} {a : α} {b : β} (h : All2 R as bs) (r : R a b) : All2 R (as ++ [a]) (bs ++ [b]) := by
  induction h with
  | nil => exact .cons r .nil
  | cons r' _ ih => exact .cons r' ih
theorem All2.at {α β : Type} {R : α → β → Prop} {as : List α} {bs : List β} (h : All2 R as bs) : ∀ {i : Nat} {a : α}, as[i]? = some a → ∃ b, bs[i]? = some b ∧ R a b := by
  induction h with
  | nil => intro i a e; simp at e
  | @cons a b as bs r _ ih =>
    intro i x e
    cases i with
    | zero => simp at e; subst e; exact ⟨b, by simp, r⟩
    | succ i => simp at e; simpa using ih e

/-- an entry whose key and value are texts made with two tokens -/
def TokEnt (w : World) (e : DictEntry) (p : Str × Str) : Prop :=
  e.hash = hashStr w p.1 ∧ ∃ t u : Tok, e.key = .str p.1 t ∧ e.val = .str p.2 u ∧ (@Ne Nat t 0) ∧ (@Ne Nat u 0) ∧ (@Ne Nat t u)
/-- a dict of texts by texts, its tokens good -/
def TTab (w : World) (o : Obj) (kvs : List (Str × Str)) : Prop :=
  ∃ es ep, o.ExactDict ∧ o.data = .dict es ep ∧ All2 (TokEnt w) es.toList kvs ∧ (kvs.map (·.1)).Nodup

theorem TTab.new (w : World) : TTab w { cls := .type "dict", data := .dict #[] } [] := ⟨#[], 0, ⟨rfl, rfl, rfl⟩, rfl, .nil, by simp⟩

theorem tok_keys {prog : Program} {w : World} {es : Array DictEntry} {kvs : List (Str × Str)} (h : All2 (TokEnt w) es.toList kvs) : KeysOf (strKind prog w) es := by
  have key : ∀ (l : List DictEntry) (kvs : List (Str × Str)), All2 (TokEnt w) l kvs → ∀ e ∈ l, ∃ k, (strKind prog w).is k e.key = true ∧ e.hash = (strKind prog w).hash k := by
    intro l kvs h
    induction h with
    | nil => intro e he; cases he
    | @cons a b as bs r _ ih =>
      intro e he
      rcases List.mem_cons.mp he with rfl | he
      · obtain ⟨hh, t, u, hk, -⟩ := r
        exact ⟨b.1, by rw [hk]; exact strKind_is prog w _ _, hh⟩
      · exact ih e he
  intro e he
  exact key _ _ h e (by simpa using he)

theorem tok_none {prog : Program} {w : World} {es : Array DictEntry} {kvs : List (Str × Str)} {k : Str} (h : All2 (TokEnt w) es.toList kvs) (hk : k ∉ kvs.map (·.1)) :
    (es.findIdx? fun e => (strKind prog w).is k e.key) = none := by
  have key : ∀ (l : List DictEntry) (kvs : List (Str × Str)), All2 (TokEnt w) l kvs → k ∉ kvs.map (·.1) → ∀ e ∈ l, (strKind prog w).is k e.key = false := by
    intro l kvs h
    induction h with
    | nil => intro _ e he; cases he
    | @cons a b as bs r _ ih =>
      intro hn e he
      rw [List.map_cons, List.mem_cons, not_or] at hn
      rcases List.mem_cons.mp he with rfl | he
      · obtain ⟨hh, t, u, hk, -⟩ := r
        rw [hk]
        cases hq : (strKind prog w).is k (.str b.1 t) with
        | false => rfl
        | true => exact absurd ((PySem.strKind prog w).inj _ _ _ hq (strKind_is prog w b.1 t)) hn.1
      · exact ih hn.2 e he
  rw [Array.findIdx?_eq_none_iff]
  intro e he
  exact key _ _ h hk e (by simpa using he)

section
variable {prog : Program} {w : World} {A : Around} {E : Value → Shared → Prop} {s : Shared}
theorem set_tok {d : Addr} {o : Obj} {kvs : List (Str × Str)} {k v : Str} {t u : Tok} {Q : Unit → Shared → Prop} (ho : s.heap.get? d = some o) (T : TTab w o kvs) (hk : k ∉ kvs.map (·.1))
    (ht : @Ne Nat t 0) (hu : @Ne Nat u 0) (htu : @Ne Nat t u) (hsz : kvs.length ≤ 1000)
    (hQ : ∀ h' o', h'.get? d = some o' → TTab w o' (kvs ++ [(k, v)]) → Heap.SameBut d s.heap h' → Q () { s with heap := h', toks := s.toks + 1 }) :
    wpAny (model prog w) A (dictSet d (.str k t) (.str v u)) Q E s := by
  obtain ⟨es, ep, hc, hd, he, hn⟩ := T
  have hz : es.size ≤ sizeLine := by
    have e1 := he.length
    rw [Array.length_toList] at e1
    rw [sizeLine_eq]; omega
  unfold dictSet
  refine wpAny_holding (wpAny_bind (wpAny_pyHash_str ?_))
  unfold dictSetHashed
  refine wpAny_holding (wpAny_bind (wpAny_dictFind_of (knd := strKind prog w) (k := k) (s := { s with toks := s.toks + 1 }) (strKind_is prog w k t) ho hd (tok_keys he) ?_))
  rw [tok_none he hk]
  refine wpAny_bind (wpAny_rule (wpAny_updateDictKeys (hz := hz) (s := { s with toks := s.toks + 1 }) ho hd
    (hQ _ _ (Heap.get?_update_self _ ho (Obj.isFreed_of_dict (Obj.data_mapDictKeys hd _))) ⟨_, ep + 1, hc.mapDictKeys _, Obj.data_mapDictKeys hd _, ?_, ?_⟩ (Heap.SameBut.update ..))))
  · rw [Array.toList_push]
    exact he.snoc ⟨rfl, t, u, rfl, rfl, ht, hu, htu⟩
  · rw [List.map_append, List.nodup_append]
    refine ⟨hn, by simp, ?_⟩
    intro a ha b hb
    simp only [List.map_cons, List.map_nil, List.mem_singleton] at hb
    subst hb
    exact fun e => hk (e ▸ ha)
end
end Mine

end
section
open PySem PySem.W PyProof.Rows PyProof.V
open PySem.Spec
namespace Mine
section
variable {prog : Program} {w : World} {A : Around} {E : Value → Shared → Prop} {s : Shared} {h₀ : Heap} {L : Addr} {m : Str → Option Value} {news : List (Addr × Obj)} {env : Env}

theorem display_tok {k1 k2 v1 v2 : Str} {i1 i2 i3 i4 : Nat} {p1 p2 p3 p4 pos : Pos} {Q : Value → Shared → Prop} (F : Fr h₀ L s.heap m) (N : News h₀ L s.heap news) (hbig : h₀.NoLimit) (ht : @Ne Nat s.toks 0) (hne : k2 ≠ k1)
    (k : ∀ d h' o tk, Fr h₀ L h' m → News h₀ L h' ((d, o) :: news) → (∀ p ∈ news, p.1 < d) → (d == sysModules) = false → TTab w o [(k1, v1), (k2, v2)] → Q (.ref d) { s with heap := h', toks := tk + 1 }) :
    wpAny (model prog w) A (eval (.Dict [some (.Constant (.str k1) i1 p1), some (.Constant (.str k2) i2 p2)] [.Constant (.str v1) i3 p3, .Constant (.str v2) i4 p4] pos) env) Q E s := by
  rw [arm_eval_Dict, zip_pairTrees _ _ _ _ rfl rfl, dictDisplay_pairs _ (by simp [pairTrees]) (by simp [pairTrees])]
  have N1 := News.push F N { cls := .type "dict", data := .dict #[] }
  have apart : ∀ p ∈ news, p.1 ≠ s.heap.objs.size := N.apart
  refine wpAny_bind (wpAny_standAt (wpAny_bind ?_))
  unfold subDict
  refine wpAny_bind (wpAny_alloc (wpAny_bind (wpAny_holding ?_)))
  rw [if_pos (by simp [pairTrees])]
  refine wpAny_bind ?_
  simp only [pairTrees]
  refine evalPairs_cons (wpAny_Constant_str (wpAny_bind (wpAny_Constant_str (wpAny_bind (wpAny_standAt (wpAny_pure ?_))))))
  refine evalPairs_cons (wpAny_Constant_str (wpAny_bind (wpAny_Constant_str (wpAny_bind (wpAny_standAt (wpAny_pure ?_))))))
  refine evalPairs_nil (wpAny_holding (wpAny_bind ?_))
  rw [List.forIn_cons]
  have h1 := (N1 _ (.head _))
  refine wpAny_bind (wpAny_bind (set_tok h1.1 (TTab.new w) (by simp) ht (by first | omega | (dsimp only; omega) | (show @Ne Nat _ _; simp; omega)) (by first | omega | (dsimp only; omega) | (show @Ne Nat _ _; simp; omega)) (by simp) fun h₁ o₁ g₁ T₁ s₁ => wpAny_pure ?_))
  dsimp only
  rw [List.forIn_cons]
  refine wpAny_bind (wpAny_bind (set_tok g₁ T₁ (by simpa using hne) (by first | omega | (dsimp only; omega) | (show @Ne Nat _ _; simp; omega)) (by first | omega | (dsimp only; omega) | (show @Ne Nat _ _; simp; omega)) (by first | omega | (dsimp only; omega) | (show @Ne Nat _ _; simp; omega)) (by simp) fun h₂ o₂ g₂ T₂ s₂ => wpAny_pure ?_))
  dsimp only
  rw [List.forIn_nil]
  have sb : Heap.SameBut s.heap.objs.size (s.heap.push { cls := .type "dict", data := .dict #[] }) h₂ := s₁.trans s₂
  refine wpAny_pure (wpAny_pure (wpAny_pure (wpAny_pure ?_)))
  exact k _ _ o₂ _ ((F.push _).change sb h1.2.1 h1.2.2) (N1.setHead apart sb g₂) (fun p hp => Heap.lt_size (N p hp).1) (F.notModules (modules_low hbig)) T₂
end
end Mine

end
section
open PySem PySem.W PyProof.Rows PyProof.V
open PySem.Spec
namespace Mine

theorem tok_pairs {prog : Program} {w : World} {l : List DictEntry} {kvs : List (Str × Str)} (h : All2 (TokEnt w) l kvs) :
    ∃ kvv : List (Str × Value), Pairs (strKind prog w) l kvv ∧ kvv.map (·.1) = kvs.map (·.1) ∧ FlatPairs PyData.str kvv (kvs.map fun p => (PyData.str p.1, PyData.str p.2)) := by
  induction h with
  | nil => exact ⟨[], .nil, rfl, .nil⟩
  | @cons a b as bs r _ ih =>
    obtain ⟨kvv, h1, h2, h3⟩ := ih
    obtain ⟨hh, t, u, hk, hv, -⟩ := r
    refine ⟨(b.1, .str b.2 u) :: kvv, .cons ?_ hv h1, by simp [h2], .cons (Flat.str _ _) h3⟩
    show (strKind prog w).is b.1 a.key = true
    rw [hk]; exact strKind_is prog w _ _

theorem TTab.dict {prog : Program} {w : World} {o : Obj} {kvs : List (Str × Str)} (T : TTab w o kvs) :
    ∃ kvv : List (Str × Value), o.IsDictOf (strKind prog w) kvv ∧ FlatPairs PyData.str kvv (kvs.map fun p => (PyData.str p.1, PyData.str p.2)) := by
  obtain ⟨es, ep, hc, hd, he, hn⟩ := T
  obtain ⟨kvv, h1, h2, h3⟩ := tok_pairs (prog := prog) he
  exact ⟨kvv, ⟨es, ep, hc, hd, tok_keys he, h1, by rw [h2]; exact hn⟩, h3⟩

theorem TTab.tab {prog : Program} {w : World} {o : Obj} {kvs : List (Str × Str)} {h₀ h : Heap} {L d : Addr} {news : List (Addr × Obj)} (N : News h₀ L h news) (hm : (d, o) ∈ news) (lo : (d == sysModules) = false) (T : TTab w o kvs) :
    TabAt (strKind prog w) PyData.str h d (kvs.map fun p => (PyData.str p.1, PyData.str p.2)) := by
  obtain ⟨kvv, h1, h2⟩ := T.dict (prog := prog)
  exact TabAt.ofNews N hm lo h1 h2

/-- the object a dict of texts lies in, at a heap -/
def DictIs (h : Heap) (d : Addr) (es : Array DictEntry) (ep : Nat) : Prop := ∃ o, h.get? d = some o ∧ o.ExactDict ∧ o.data = .dict es ep
theorem DictIs.at {prog : Program} {w : World} {h : Heap} {d : Addr} {es : Array DictEntry} {ep : Nat} {kvs : List (Str × Str)} (x : DictIs h d es ep) (he : All2 (TokEnt w) es.toList kvs) (hn : (kvs.map (·.1)).Nodup) :
    ∃ kvv, h.DictAt (strKind prog w) d kvv ep ∧ kvv.length = es.size := by
  obtain ⟨o, ho, hc, hd⟩ := x
  obtain ⟨kvv, h1, h2, h3⟩ := tok_pairs (prog := prog) he
  refine ⟨kvv, ⟨o, es, ho, hc, hd, tok_keys he, h1, by rw [h2]; exact hn⟩, ?_⟩
  rw [← h1.length]; simp

section
variable {prog : Program} {w : World} {A : Around} {E : Value → Shared → Prop} {s : Shared}

theorem tok_turns {elts : List Expr} {kk : Nat} {pos : Pos} (hh : A.handled = none) (I d : Addr) (hne : d ≠ I) (kvs : List (Str × Str)) (es : Array DictEntry) (ep : Nat) (he : All2 (TokEnt w) es.toList kvs) (hn : (kvs.map (·.1)).Nodup) :
    KTurns prog w A (.Tuple elts kk pos) I [I, d] [I] kvs.length
      (fun i v h => ∃ T k x t u, v = .ref T ∧ kvs[i]? = some (k, x) ∧ (@Ne Nat t 0) ∧ (@Ne Nat u 0) ∧ (@Ne Nat t u) ∧ h.IsTuple T #[.str k t, .str x u])
      (fun i v h => ∃ T k x t u ok ov, v = .ref T ∧ kvs[i]? = some (k, x) ∧ (@Ne Nat t 0) ∧ (@Ne Nat u 0) ∧ (@Ne Nat t u) ∧ h.IsTuple T #[.str k t, .str x u] ∧ IsItemIterOut h I d (i + 1) es.size ep ok ov T ∧ DictIs h d es ep ∧ T ≠ I)
      (fun i h => (∃ ok ov, IsItemIter h I d i es.size ep ok ov) ∧ DictIs h d es ep) where
  sub := fun b hb => by simp at hb; simp [hb]
  frame := fun i h h' st hk => by
    obtain ⟨⟨ok, ov, hi⟩, o, ho, r⟩ := st
    exact ⟨⟨ok, ov, hk I (by simp) _ hi⟩, o, hk d (by simp) o ho, r⟩
  item := fun i s Q E hi st hQ => by
    obtain ⟨⟨ok, ov, hit⟩, o, ho, hc, hd⟩ := st
    have hlen : es.toList.length = kvs.length := he.length
    obtain ⟨en, hen⟩ : ∃ en, es.toList[i]? = some en := ⟨es.toList[i], List.getElem?_eq_getElem (by omega)⟩
    obtain ⟨⟨k, x⟩, hkx, hh', t, u, hk, hv, ht, hu, htu⟩ := he.at hen
    have hen' : es[i]? = some en := by simpa using hen
    refine next_pair hit ho hd hen' fun h' hout hT hkeep => ?_
    rw [hk, hv] at hT
    exact hQ (.ref s.heap.objs.size) h' s.toks ⟨s.heap.objs.size, k, x, t, u, _, _, rfl, hkx, ht, hu, htu, ⟨_, hT, rfl, _, rfl⟩, hout, ⟨o, hkeep d o hne ho, hc, hd⟩, Nat.ne_of_gt (Heap.lt_size hit)⟩
      fun b o hb e => hkeep b o (fun q => hb (by simp [q])) e
  go := fun i v s Q E hm hQ => by
    obtain ⟨T, k, x, t, u, ok, ov, rfl, hkx, ht, hu, htu, hT, ho, hd, hTI⟩ := hm
    refine wpAny_letOwnedTupleGo_items ho fun h' he' hs => ?_
    obtain ⟨od, hod, r⟩ := hd
    exact hQ h' ⟨T, k, x, t, u, rfl, hkx, ht, hu, htu, hT.at fun o e => hs.extBut T o hTI e⟩ ⟨⟨ok, ov, he'⟩, od, hs.extBut d od hne hod, r⟩ fun b o hb e => hs.extBut b o (fun q => hb (by simp [q])) e
  done := fun s Q E st hQ => by
    obtain ⟨⟨ok, ov, hit⟩, hd⟩ := st
    obtain ⟨kvv, hat, hl⟩ := hd.at (prog := prog) he hn
    have hlen : es.toList.length = kvs.length := he.length
    rw [Array.length_toList] at hlen
    have e1 : kvs.length = kvv.length := by omega
    rw [e1] at hit
    rw [← hl] at hit
    exact wpAny_pyNext_items_end hh hit hat (by simp) fun h' hx => hQ h' s.toks fun b o hb e => hx b o (fun q => hb (by simp [q])) e
end
end Mine

end
section
open PySem PySem.W PyProof.Rows PyProof.V
open PySem.Spec
namespace Mine
section
variable {prog : Program} {w : World} {A : Around} {E : Value → Shared → Prop} {s : Shared} {env : Env} {h₀ : Heap} {body : List Stmt} {Q : Flow → Shared → Prop}

theorem tok_iter {a b : Str} {pa pb tp : Pos} {kk : Nat} {d vw : Addr} {o : Obj} {kvs : List (Str × Str)} {m : Str → Option Value} {news : List (Addr × Obj)}
    (hh : A.handled = none) (ha : env.kindOf a = some .local) (hb : env.kindOf b = some .local) (hp : (env.scope.kind == .class || (env.scope.kind == .module && env.locals != env.globals)) = false)
    (F : Fr h₀ env.locals s.heap m) (N : News h₀ env.locals s.heap news)
    (hvw : ∃ ov, s.heap.get? vw = some ov ∧ ov.cls = .type "dict_items" ∧ ov.data = .fields #[.ref d]) (hm : (d, o) ∈ news) (T : TTab w o kvs)
    (J : Nat → (Str → Option Value) → Prop) (hJ : J 0 m)
    (step : ∀ i k x t u h₁ tk m₁ (wr : List Addr) own, kvs[i]? = some (k, x) → (@Ne Nat t 0) → (@Ne Nat u 0) → (@Ne Nat t u) → J i m₁ → (∀ p ∈ news, p.1 ∉ wr) →
      Fr h₀ env.locals h₁ (fun z => if z = b then some (.str x u) else if z = a then some (.str k t) else m₁ z) → News h₀ env.locals h₁ (own ++ news) →
      wpAny (model prog w) A (execs body env) (LoopStepV h₀ env.locals wr own (fun m' n' => n' = news ∧ J (i + 1) m') { s with heap := h₁, toks := tk } (fun v s' => Q (.ret v) s') fun s' => Q .next s') E { s with heap := h₁, toks := tk })
    (fin : ∀ h' tk m', Fr h₀ env.locals h' m' → News h₀ env.locals h' news → J kvs.length m' → Q .next { s with heap := h', toks := tk }) :
    wpAny (model prog w) A (pyIter (.ref vw)) (fun it s₂ => TurnsAt prog w A h₀ env (.Tuple [.Name a pa, .Name b pb] kk tp) body Q E it s₂) E s := by
  obtain ⟨es, ep, hc, hd, he, hn⟩ := T
  have hod := (N _ hm).1
  obtain ⟨kvv, hat, hl⟩ := DictIs.at (prog := prog) ⟨o, hod, hc, hd⟩ he hn
  have hne : d ≠ s.heap.objs.size := Nat.ne_of_lt (Heap.lt_size hod)
  refine wpAny_pyIter_items hvw hat ?_
  have W := tok_turns (prog := prog) (A := A) (elts := [.Name a pa, .Name b pb]) (kk := kk) (pos := tp) hh s.heap.objs.size d hne kvs es ep he hn
  have hLI : env.locals ≠ s.heap.objs.size := Nat.ne_of_lt F.ns.lt
  have hLd : env.locals ≠ d := fun q => (N _ hm).2.1 q.symm
  have hoff : ∀ p ∈ news, p.1 ∉ [s.heap.objs.size] := fun p hp => by simpa using Nat.ne_of_lt (Heap.lt_size (N p hp).1)
  refine ⟨s.heap.objs.size, [s.heap.objs.size, d], [s.heap.objs.size], kvs.length, _, _, _, m, news, fun i m' n' => n' = news ∧ J i m', rfl, W, by simp [hLI, hLd], ?_, hoff, ?_, F.push _, ?_, ⟨rfl, hJ⟩, ?_, ?_⟩
  · intro b hb
    rw [List.mem_singleton.mp hb]
    exact next_is_new F
  · refine ⟨⟨.none, .none, ?_⟩, o, Heap.get?_push_of_some _ hod, hc, hd⟩
    rw [← hl]
    exact Heap.get?_push_size _ rfl
  · exact fun p hp => ⟨Heap.get?_push_of_some _ (N p hp).1, (N p hp).2⟩
  · rintro i v m₁ news₁ h₁ tk₁ own hi ⟨T', k, x, t, u, rfl, hkx, ht, hu, htu, hT⟩ ⟨rfl, hJi⟩ hnw - - - hst F₁ N₁
    refine kcp_assign hh hT ha hb hp F₁.ns fun h₂ tk₂ hn₂ hk₂ => ?_
    have hL₀ : h₀.get? env.locals = none := Heap.get?_none_of_le F₁.above
    refine step i k x t u h₂ tk₂ m₁ _ own hkx ht hu htu hJi hnw ⟨hn₂, fun c oc e => hk₂ c oc (fun q => by rw [q, hL₀] at e; cases e) (F₁.keep c oc e), F₁.above⟩ fun p hp => ⟨hk₂ _ _ (N₁ p hp).2.1 (N₁ p hp).1, (N₁ p hp).2⟩
  · rintro h' tk m' news' F' N' - ⟨rfl, hJ'⟩
    exact fin h' tk m' F' N' hJ'
end
end Mine

end
section
open PySem PySem.W PyProof.Rows PyProof.V
open PySem.Spec
namespace Mine
theorem m_split {m : Str → Option Value} {n : Str} {v : Value} (h : m n = some v) : m = fun y => if y = n then some v else m y := by
  funext y
  by_cases hy : y = n
  · rw [if_pos hy, hy]; exact h
  · rw [if_neg hy]
theorem m_next {n : Str} {a b : Option Value} {r : Str → Option Value} (e : a = b) : ∃ m'' : Str → Option Value, (fun y => if y = n then a else r y) = fun y => if y = n then b else m'' y := ⟨r, by rw [e]⟩
theorem All2.mono {α β : Type} {R R' : α → β → Prop} {as : List α} {bs : List β} (h : All2 R as bs) (k : ∀ a b, R a b → R' a b) : All2 R' as bs := by
  induction h with
  | nil => exact .nil
  | cons r _ ih => exact .cons (k _ _ r) ih
theorem All2.append {α β : Type} {R : α → β → Prop} {as as' : List α} {bs bs' : List β} (h : All2 R as bs) (h' : All2 R as' bs') : All2 R (as ++ as') (bs ++ bs') := by
  induction h with
  | nil => exact h'
  | cons r _ ih => exact .cons r ih
theorem All2.of {α β : Type} {R : α → β → Prop} : ∀ {as : List α} {bs : List β}, as.length = bs.length → (∀ (i : Nat) (a : α), as[i]? = some a → ∃ b, bs[i]? = some b ∧ R a b) → All2 R as bs
  | [], [], _, _ => .nil
  | a :: as, b :: bs, hl, h => by
    obtain ⟨b', e, r⟩ := h 0 a rfl
    have : b = b' := by simpa using e
    subst this
    exact .cons r (All2.of (by simpa using hl) fun i x hx => by simpa using h (i + 1) x (by simpa using hx))

abbrev tupOf (k x : Str) (t u : Tok) : Obj := { cls := .type "tuple", data := .seq #[.str k t, .str x u] }
/-- a value that is a pair of texts of the ledger -/
def PairIn (tl : List (Addr × Obj)) (v : Value) (p : Str × Str) : Prop := ∃ a t u, v = .ref a ∧ (a, tupOf p.1 p.2 t u) ∈ tl

section
variable {prog : Program} {w : World} {A : Around} {E : Value → Shared → Prop} {s : Shared} {h₀ : Heap} {L : Addr} {m : Str → Option Value} {news : List (Addr × Obj)}

theorem list_items {d vw : Addr} {o : Obj} {kvs : List (Str × Str)} {Q : Value → Shared → Prop} (hh : A.handled = none) (F : Fr h₀ L s.heap m) (N : News h₀ L s.heap news)
    (hvw : ∃ ov, s.heap.get? vw = some ov ∧ ov.cls = .type "dict_items" ∧ ov.data = .fields #[.ref d]) (hm : (d, o) ∈ news) (T : TTab w o kvs) (hsz : kvs.length ≤ 1000)
    (hQ : ∀ D h' tk tl acc c, Fr h₀ L h' m → News h₀ L h' ((D, { cls := .type "list", data := .seq acc c }) :: (tl ++ news)) → All2 (PairIn tl) acc.toList kvs → Q (.ref D) { s with heap := h', toks := tk }) :
    wpAny (model prog w) A (call (.type "list") [.ref vw]) Q E s := by
  have hod := (N _ hm).1
  obtain ⟨es, ep, hc, hd, he, hn⟩ := id T
  obtain ⟨kvv, h1, h2, h3⟩ := tok_pairs (prog := prog) he
  have hat : s.heap.DictAt (PySem.strKind prog w) d kvv ep := ⟨o, es, hod, hc, hd, tok_keys he, h1, by rw [h2]; exact hn⟩
  have hlen : kvv.length = kvs.length := by
    have := congrArg List.length h2
    simpa using this
  refine kdx_call (knd := PySem.strKind prog w) (kvs := kvv) hh hvw hat (by rw [hlen, sizeLine_eq]; omega) fun h' tk acc c as hk hS hal hG hacc => ?_
  -- the tuples of the list
  have hkvv : ∀ (j : Nat) (k : Str) (x : Value), kvv[j]? = some (k, x) → ∃ v u, kvs[j]? = some (k, v) ∧ x = .str v u := by
    intro j k x hj
    have hjl : j < es.toList.length := by rw [h1.length]; exact (List.getElem?_eq_some_iff.mp hj).1
    obtain ⟨b, hb, hh', t, u, hk', hv', -⟩ := he.at (List.getElem?_eq_getElem hjl)
    obtain ⟨e1, e2⟩ := h1.get? (List.getElem?_eq_getElem hjl) hj
    have ek : b.1 = k := by
      rw [hk'] at e1
      exact ((PySem.strKind prog w).inj _ _ _ (strKind_is prog w b.1 t) e1)
    obtain ⟨bk, bv⟩ := b
    simp only at ek
    subst ek
    exact ⟨bv, u, hb, by rw [← e2]; exact hv'⟩
  have pick : ∀ (j : Nat) (a : Addr), as[j]? = some a → ∃ k v t u, kvs[j]? = some (k, v) ∧ h'.get? a = some (tupOf k v t u) := by
    intro j a hj
    obtain ⟨key, k, x, e1, e2, e3⟩ := hG.pairs j a hj
    obtain ⟨v, u, e4, rfl⟩ := hkvv j k x e1
    obtain ⟨t, rfl⟩ := Value.isStrOf_shape e2
    exact ⟨k, v, t, u, e4, e3⟩
  refine hQ _ h' tk (as.map fun a => (a, (h'.get? a).getD { cls := .type "tuple", data := .plain })) acc c (F.keeps hk) (fun p hp => ?_) ?_
  · have fresh : ∀ a, s.heap.objs.size ≤ a → h₀.get? a = none := fun a ha => by
      cases e : h₀.get? a with
      | none => rfl
      | some o' => exact absurd (Heap.lt_size (F.keep a o' e)) (Nat.not_lt.mpr ha)
    rcases List.mem_cons.mp hp with rfl | hp
    · exact ⟨hS, Nat.ne_of_gt F.ns.lt, fresh _ (Nat.le_refl _)⟩
    rcases List.mem_append.mp hp with hp | hp
    · obtain ⟨a, ha, rfl⟩ := List.mem_map.mp hp
      obtain ⟨j, hj⟩ := List.mem_iff_getElem?.mp ha
      obtain ⟨k, v, t, u, -, e⟩ := pick j a hj
      have hlt := hG.above a ha
      exact ⟨by rw [e]; rfl, Nat.ne_of_gt (Nat.lt_trans F.ns.lt hlt), fresh a (Nat.le_of_lt hlt)⟩
    · exact ⟨hk _ _ (N p hp).1, (N p hp).2⟩
  · rw [hacc]
    refine All2.of (by rw [List.length_map, hal, hlen]) fun j v hj => ?_
    rw [List.getElem?_map] at hj
    cases ha : as[j]? with
    | none => rw [ha] at hj; cases hj
    | some a =>
      rw [ha] at hj
      cases hj
      obtain ⟨k, v, t, u, e1, e⟩ := pick j a ha
      exact ⟨(k, v), e1, a, t, u, rfl, List.mem_map.mpr ⟨a, List.mem_of_getElem? ha, by rw [e]; rfl⟩⟩
end
end Mine

end
section
open PySem PySem.W PyProof.Rows PyProof.V
open PySem.Spec
namespace Mine
section
variable {prog : Program} {w : World} {A : Around} {E : Value → Shared → Prop} {s : Shared} {env : Env} {h₀ : Heap} {body : List Stmt} {Q : Flow → Shared → Prop}

theorem pairs_iter {a b : Str} {pa pb tp : Pos} {kk : Nat} {ax : Addr} {c : Nat} {items : Array Value} {pairs : List (Str × Str)} {m : Str → Option Value} {news : List (Addr × Obj)}
    (hh : A.handled = none) (ha : env.kindOf a = some .local) (hb : env.kindOf b = some .local) (hp : (env.scope.kind == .class || (env.scope.kind == .module && env.locals != env.globals)) = false)
    (F : Fr h₀ env.locals s.heap m) (N : News h₀ env.locals s.heap news)
    (hm : (ax, ({ cls := .type "list", data := .seq items c } : Obj)) ∈ news) (T : All2 (PairIn news) items.toList pairs) (hsz : items.size ≤ sizeLine)
    (J : Nat → (Str → Option Value) → Prop) (hJ : J 0 m)
    (step : ∀ i k x t u h₁ tk m₁ (wr : List Addr) own, pairs[i]? = some (k, x) → J i m₁ → (∀ p ∈ news, p.1 ∉ wr) →
      Fr h₀ env.locals h₁ (fun z => if z = b then some (.str x u) else if z = a then some (.str k t) else m₁ z) → News h₀ env.locals h₁ (own ++ news) →
      wpAny (model prog w) A (execs body env) (LoopStepV h₀ env.locals wr own (fun m' n' => n' = news ∧ J (i + 1) m') { s with heap := h₁, toks := tk } (fun v s' => Q (.ret v) s') fun s' => Q .next s') E { s with heap := h₁, toks := tk })
    (fin : ∀ h' tk m', Fr h₀ env.locals h' m' → News h₀ env.locals h' news → J pairs.length m' → Q .next { s with heap := h', toks := tk }) :
    wpAny (model prog w) A (pyIter (.ref ax)) (fun it s₂ => TurnsAt prog w A h₀ env (.Tuple [.Name a pa, .Name b pb] kk tp) body Q E it s₂) E s := by
  have hax := (N _ hm).1
  have hl : s.heap.IsList ax items := ⟨_, hax, rfl, _, rfl⟩
  have hne : ax ≠ s.heap.objs.size := Nat.ne_of_lt (Heap.lt_size hax)
  have hlen : items.size = pairs.length := by rw [← T.length]; simp
  refine wpAny_pyIter_list hl ?_
  have W := KTurns.ofWalks (target := .Tuple [.Name a pa, .Name b pb] kk tp) (Walks.list (prog := prog) (w := w) (A := A) hh s.heap.objs.size ax hne items) (fun i v s Q E st hQ => by
    cases v with
    | ref T => exact wpAny_letOwnedTupleGo_listiter st.1 hQ
    | _ => exact wpAny_pure hQ)
  have hLI : env.locals ≠ s.heap.objs.size := Nat.ne_of_lt F.ns.lt
  have hLd : env.locals ≠ ax := fun q => (N _ hm).2.1 q.symm
  have hoff : ∀ p ∈ news, p.1 ∉ [s.heap.objs.size] := fun p hp => by simpa using Nat.ne_of_lt (Heap.lt_size (N p hp).1)
  refine ⟨s.heap.objs.size, [s.heap.objs.size, ax], [s.heap.objs.size], items.size, _, _, _, m, news, fun i m' n' => n' = news ∧ J i m', rfl, W, by simp [hLI, hLd], ?_, hoff, ?_, F.push _, ?_, ⟨rfl, hJ⟩, ?_, ?_⟩
  · intro b hb
    rw [List.mem_singleton.mp hb]
    exact next_is_new F
  · exact ⟨⟨_, Heap.get?_push_size _ rfl, rfl, rfl⟩, hl.push _⟩
  · exact fun p hp => ⟨Heap.get?_push_of_some _ (N p hp).1, (N p hp).2⟩
  · rintro i v m₁ news₁ h₁ tk₁ own hi hv ⟨rfl, hJi⟩ hnw - - - hst F₁ N₁
    have hv' : items.toList[i]? = some v := by simpa using hv
    obtain ⟨⟨k, x⟩, hkx, T', t, u, rfl, hT⟩ := T.at hv'
    have hT₁ := (N₁ _ (List.mem_append_right own hT)).1
    refine kcp_assign hh ⟨_, hT₁, rfl, _, rfl⟩ ha hb hp F₁.ns fun h₂ tk₂ hn₂ hk₂ => ?_
    have hL₀ : h₀.get? env.locals = none := Heap.get?_none_of_le F₁.above
    refine step i k x t u h₂ tk₂ m₁ _ own hkx hJi hnw ⟨hn₂, fun c oc e => hk₂ c oc (fun q => by rw [q, hL₀] at e; cases e) (F₁.keep c oc e), F₁.above⟩ fun p hp => ⟨hk₂ _ _ (N₁ p hp).2.1 (N₁ p hp).1, (N₁ p hp).2⟩
  · rintro h' tk m' news' F' N' - ⟨rfl, hJ'⟩
    rw [hlen] at hJ'
    exact fin h' tk m' F' N' hJ'
end
end Mine

end
section
open PySem PySem.W PyProof.Rows PyProof.V
open PySem.Spec
namespace Mine
section
variable {prog : Program} {w : World} {A : Around} {E : Value → Shared → Prop} {s : Shared} {h₀ : Heap} {L : Addr} {m : Str → Option Value} {news : List (Addr × Obj)} {env : Env}

/-- a pair of two written texts -/
abbrev pairE (p : Str × Str) (i j : Nat) (k : Nat) (p1 p2 p3 : Pos) : Expr := .Tuple [.Constant (.str p.1) i p1, .Constant (.str p.2) j p2] k p3

theorem pair_disp {p : Str × Str} {i j k : Nat} {p1 p2 p3 : Pos} {Q : Value → Shared → Prop} (F : Fr h₀ L s.heap m) (N : News h₀ L s.heap news)
    (h : ∀ T h' tk t u, Fr h₀ L h' m → News h₀ L h' ((T, tupOf p.1 p.2 t u) :: news) → Q (.ref T) { s with heap := h', toks := tk }) :
    wpAny (model prog w) A (eval (pairE p i j k p1 p2 p3) env) Q E s := by
  refine Tuple_ (spliced_more (wpAny_Constant_str (spliced_more (wpAny_Constant_str (spliced_none ?_)))))
  obtain ⟨H, g, d, tk, os⟩ := s
  exact newTuple_N F N (fun h' F' N' => h _ h' (tk + 1 + 1) tk (tk + 1) F' N') (by simp [sizeLine_eq])

theorem disp3 {a b c : Str × Str} {i1 j1 k1 i2 j2 k2 i3 j3 k3 : Nat} {p1 p2 p3 p4 p5 p6 p7 p8 p9 pos : Pos} {Q : Value → Shared → Prop} (F : Fr h₀ L s.heap m) (N : News h₀ L s.heap news)
    (h : ∀ D h' tk tl acc c', Fr h₀ L h' m → News h₀ L h' ((D, { cls := .type "list", data := .seq acc c' }) :: (tl ++ news)) → All2 (PairIn tl) acc.toList [a, b, c] → acc.size = 3 → Q (.ref D) { s with heap := h', toks := tk }) :
    wpAny (model prog w) A (eval (.List [pairE a i1 j1 k1 p1 p2 p3, pairE b i2 j2 k2 p4 p5 p6, pairE c i3 j3 k3 p7 p8 p9] pos) env) Q E s := by
  refine List_ (spliced_more (pair_disp F N fun T1 h1 tk1 t1 u1 F1 N1 => ?_))
  refine spliced_more (pair_disp F1 N1 fun T2 h2 tk2 t2 u2 F2 N2 => ?_)
  refine spliced_more (pair_disp F2 N2 fun T3 h3 tk3 t3 u3 F3 N3 => spliced_none ?_)
  refine newList_N F3 N3 (fun h' F' N' => ?_) (by simp [sizeLine_eq])
  refine h _ h' tk3 [(T3, tupOf c.1 c.2 t3 u3), (T2, tupOf b.1 b.2 t2 u2), (T1, tupOf a.1 a.2 t1 u1)] _ _ F' N' ?_ rfl
  exact .cons ⟨T1, t1, u1, rfl, by simp⟩ (.cons ⟨T2, t2, u2, rfl, by simp⟩ (.cons ⟨T3, t3, u3, rfl, by simp⟩ .nil))
end
end Mine

end
section
open PySem PySem.W PyProof.Rows PyProof.V
open PySem.Spec PyProof.Rows.LCg
namespace Mine
def turned (kvs : List (Str × Str)) : List (Str × Str) := kvs.map fun p => (p.2, p.1)
theorem turned_take {kvs : List (Str × Str)} {i : Nat} {k v : Str} (h : kvs[i]? = some (k, v)) : turned (kvs.take (i + 1)) = turned (kvs.take i) ++ [(v, k)] := by
  unfold turned
  rw [List.take_add_one, h]; simp
theorem turned_new {kvs : List (Str × Str)} {i : Nat} {k v : Str} (h : kvs[i]? = some (k, v)) (hn : (kvs.map (·.2)).Nodup) : v ∉ (turned (kvs.take i)).map (·.1) := by
  intro hm
  unfold turned at hm
  rw [List.map_map] at hm
  obtain ⟨p, hp, e⟩ := List.mem_map.mp hm
  obtain ⟨j, hj, hji⟩ := List.mem_take_iff_getElem.mp hp
  have hi := (List.getElem?_eq_some_iff.mp h).1
  have hii := (List.getElem?_eq_some_iff.mp h).2
  have hlt : j < i := by omega
  have := List.pairwise_iff_getElem.mp hn j i (by simp; omega) (by simpa using hi) hlt
  apply this
  simp only [List.getElem_map, hii, hji]
  exact e

section
variable {prog : Program} {w : World} {A : Around} {E : Value → Shared → Prop} {s : Shared} {R : Result → Shared → Prop}

theorem dc_loop {kx vx target iter : Expr} {scope : Scope} {pos : Pos} {it : Value} {D : Addr} {env : Env} (I : Nat → Shared → Prop)
    (turn : ∀ n s, I n s → wpAny (model prog w) A (pyNext it) (fun r s₁ => match r with
      | none => R (.ok .next) s₁
      | some v => wpAny (model prog w) A (letOwnedTupleGo target it v) (fun _ s₀ => wpAny (model prog w) A (assign target env v) (fun _ s₂ =>
          wpAny (model prog w) A (eval kx env) (fun kv s₄ => wpAny (model prog w) A (eval vx env) (fun vv s₅ =>
            wpAny (model prog w) A (dictSet D kv vv) (fun _ s₆ => ∃ m, m < n ∧ I m s₆) (notedBy (model prog w) A env fun e s' => R (.error e) s') s₅) (notedBy (model prog w) A env fun e s' => R (.error e) s') s₄)
            (notedBy (model prog w) A env fun e s' => R (.error e) s') s₂) (notedBy (model prog w) A env fun e s' => R (.error e) s') s₀) (notedBy (model prog w) A env fun e s' => R (.error e) s') s₁) (notedBy (model prog w) A env fun e s' => R (.error e) s') s)
    (n : Nat) (h : I n s) : codeAny (model prog w) A (.compLoop (.DictComp kx vx [⟨target, iter, [], 0⟩] scope pos) 0 it (.ref D) env) R s := by
  refine codeAny_loop rfl I (fun n s hI => ?_) n h
  show wpAny _ A ((compTurn (.DictComp kx vx [⟨target, iter, [], 0⟩] scope pos) 0 it (.ref D) env).onRaise (fun x => do noteFrame x env; theTreesLotGoes x)) _ _ s
  refine wpAny_noted ?_
  rw [compTurn_dict]
  refine wpAny_bind (wpAny_standAt (wpAny_bind (wpAny_mono (turn n s hI) (fun r s₁ h₁ => ?_) fun _ _ q => q)))
  cases r with
  | none => exact wpAny_pure h₁
  | some v =>
    refine wpAny_bind (wpAny_mono h₁ (fun _ s₀ h₀ => wpAny_bind (wpAny_mono h₀ (fun _ s₂ h₂ => wpAny_bind (wpAny_tests_nil ?_)) fun _ _ q => q)) fun _ _ q => q)
    exact wpAny_bind (wpAny_bind (wpAny_mono h₂ (fun kv s₄ h₄ => wpAny_bind (wpAny_holding (wpAny_mono h₄ (fun vv s₅ h₅ => wpAny_bind (wpAny_standAt (wpAny_holding (wpAny_mono h₅ (fun _ s₆ h₆ => wpAny_pure ⟨rfl, h₆⟩) fun _ _ q => q))))
      fun _ _ q => q))) fun _ _ q => q))

variable {h₀ : Heap} {L : Addr} {m : Str → Option Value} {env : Env}

theorem turn_comp {iter : Expr} {a b y : Str} {pa pb tp p1 p2 py : Pos} {kk : Nat} {scope : Scope} {cl : List (Str × Addr)} {pos spos : Pos} {Q : Flow → Shared → Prop} (hLe : env.locals = L)
    (hsw : swapsWith (.DictComp (.Name b p1) (.Name a p2) [⟨.Tuple [.Name a pa, .Name b pb] kk tp, iter, [], 0⟩] scope pos) (some (.Name y py)) spos.line env = pure true)
    (hclos : closureFor scope env = pure cl) (hcell : ∀ z ∈ scope.names, z.2 ≠ .cell) (hkind : scope.kind = .function)
    (hnames : ∀ z ∈ scope.names, z.2 = .local → scope.names.lookup z.1 = some .local) (hxa : scope.names.lookup a = some .local) (hxb : scope.names.lookup b = some .local) (hab : ¬ a = b)
    (hda : (a == ("__debug__" : Str)) = false) (hdb : (b == ("__debug__" : Str)) = false)
    (hy : env.kindOf y = some .local) (hp : (env.scope.kind == .class || (env.scope.kind == .module && env.locals != env.globals)) = false)
    (h : wpAny (model prog w) A (eval iter env) (fun xv s₁ => ∃ (vw d : Addr) (o : Obj) (kvs : List (Str × Str)) (news : List (Addr × Obj)), xv = .ref vw ∧ A.handled = none ∧ Fr h₀ L s₁.heap m ∧ News h₀ L s₁.heap news ∧
      (∃ ov, s₁.heap.get? vw = some ov ∧ ov.cls = .type "dict_items" ∧ ov.data = .fields #[.ref d]) ∧ (d, o) ∈ news ∧ TTab w o kvs ∧ (kvs.map (·.2)).Nodup ∧ kvs.length ≤ 1000 ∧ h₀.NoLimit ∧
      ∀ D o' h' tk, Fr h₀ L h' (fun z => if z = y then some (.ref D) else m z) → News h₀ L h' ((D, o') :: news) → (∀ p ∈ news, p.1 < D) → (D == sysModules) = false → TTab w o' (turned kvs) → Q .next { s₁ with heap := h', toks := tk + 1 }) E s)
    (hs : ∀ x, foldedSetIterable iter env x = pure x := by intro _; rfl) :
    wpAny (model prog w) A (exec (.Assign [.Name y py] (.DictComp (.Name b p1) (.Name a p2) [⟨.Tuple [.Name a pa, .Name b pb] kk tp, iter, [], 0⟩] scope pos) spos) env) Q E s := by
  subst hLe
  rw [exec_Assign_Name_used _ _ _ _ hsw]
  refine wpAny_bind (wpAny_standAt (wpAny_bind ?_))
  show wpAny _ A (do let _ ← comprehension (.DictComp (.Name b p1) (.Name a p2) [⟨.Tuple [.Name a pa, .Name b pb] kk tp, iter, [], 0⟩] scope pos) scope env _ newDict false (eval iter env) (some (assign (.Name y py) env))) _ _ s
  refine wpAny_bind (wpAny_mono (wpAny_comprehension_free (use := some (assign (.Name y py) env)) (Q := fun _ s' => Q .next s') rfl hs hclos hkind hnames
    (wpAny_mono h (fun xv s₁ h₁ => ?_) fun _ _ e => e)) (fun _ s' hq => wpAny_pure (wpAny_pure hq)) fun _ _ e => e)
  obtain ⟨vw, d, o, kvs, news, rfl, hh, F, N, hvw, hm, T, hn2, hsz, hbig, hQ⟩ := h₁
  obtain ⟨es, ep, hc, hd, he, hn⟩ := T
  have hod := (N _ hm).1
  obtain ⟨kvv, hat, hl⟩ := DictIs.at (prog := prog) ⟨o, hod, hc, hd⟩ he hn
  refine wpAny_pyIter_items hvw hat ?_
  -- the iterator, the new dict, the comprehension's own names
  have hne : d ≠ s₁.heap.objs.size := Nat.ne_of_lt (Heap.lt_size hod)
  have W := tok_turns (prog := prog) (A := A) (elts := [.Name a pa, .Name b pb]) (kk := kk) (pos := tp) hh s₁.heap.objs.size d hne kvs es ep he hn
  have lowI : ∀ p ∈ news, p.1 < s₁.heap.objs.size := fun p hp => Heap.lt_size (N p hp).1
  have hLlt : env.locals < s₁.heap.objs.size := F.ns.lt
  obtain ⟨I, hI⟩ : ∃ I, I = s₁.heap.objs.size := ⟨_, rfl⟩
  rw [← hI] at W hne lowI hLlt ⊢
  obtain ⟨H1, hH1⟩ : ∃ H1, H1 = s₁.heap.push { cls := .type "dict_itemiterator", data := .fields #[.none, .bool false, .ref d, .int 0 0, .int kvv.length 0, .int ep 0, .none, .none] } := ⟨_, rfl⟩
  rw [← hH1]
  have F1 : Fr h₀ env.locals H1 m := hH1 ▸ F.push _
  have N1 : News h₀ env.locals H1 news := hH1 ▸ fun p hp => ⟨Heap.get?_push_of_some _ (N p hp).1, (N p hp).2⟩
  have it1 : IsItemIter H1 I d 0 es.size ep .none .none := by rw [hH1, ← hl, hI]; exact Heap.get?_push_size _ rfl
  have d1 : DictIs H1 d es ep := ⟨o, hH1 ▸ Heap.get?_push_of_some _ hod, hc, hd⟩
  have z1 : H1.objs.size = I + 1 := by rw [hH1, Heap.size_push, hI]
  have freshI : ∀ x, I ≤ x → h₀.get? x = none := fun x hx => by
    cases e : h₀.get? x with
    | none => rfl
    | some o' => exact absurd (Heap.lt_size (F.keep x o' e)) (by rw [← hI]; exact Nat.not_lt.mpr hx)
  have N2 := News.push F1 N1 { cls := .type "dict", data := .dict #[] }
  have F2 := F1.push { cls := .type "dict", data := .dict #[] }
  unfold newDict
  refine wpAny_newObj_type ?_
  dsimp only
  obtain ⟨D, hD⟩ : ∃ D, D = H1.objs.size := ⟨_, rfl⟩
  obtain ⟨H2, hH2⟩ : ∃ H2, H2 = H1.push { cls := .type "dict", data := .dict #[] } := ⟨_, rfl⟩
  rw [← hH2, ← hD] at N2
  rw [← hH2] at F2
  rw [← hH2, ← hD]
  have z2 : H2.objs.size = D + 1 := by rw [hH2, Heap.size_push, hD]
  have it2 : IsItemIter H2 I d 0 es.size ep .none .none := hH2 ▸ Heap.get?_push_of_some _ it1
  have d2 : DictIs H2 d es ep := let ⟨x, hx, r⟩ := d1; ⟨x, hH2 ▸ Heap.get?_push_of_some _ hx, r⟩
  refine wpAny_newFunctionEnv hcell (by intro y hy; simp at hy) (fun H3 hns3 hsb3 => ?_) hkind
  dsimp only at hns3 hsb3 ⊢
  obtain ⟨C, hC⟩ : ∃ C, C = H2.objs.size := ⟨_, rfl⟩
  rw [← hC] at hns3 hsb3 ⊢
  have hID : I < D := by omega
  have hDC : D < C := by omega
  have up3 : ∀ x ox, H2.get? x = some ox → H3.get? x = some ox := fun x ox e => hsb3.extBut x ox (Nat.ne_of_lt (hC ▸ Heap.lt_size e)) (Heap.get?_push_of_some _ e)
  have F3 : Fr h₀ env.locals H3 m := F2.keeps up3
  have N3 : News h₀ env.locals H3 ((D, { cls := .type "dict", data := .dict #[] }) :: news) := N2.grown up3
  have dd : d < I := lowI _ hm
  have IC : I < C := Nat.lt_trans hID hDC
  have LD : env.locals < D := Nat.lt_trans hLlt hID
  have LC : env.locals < C := Nat.lt_trans hLlt IC
  refine codeAny_compStart_dict ?_ ?_
  all_goals
    first
      | (refine kcp_self (up3 _ _ it2) ?_)
      | skip
  all_goals
    refine dc_loop (env := { (newEnv scope C env.globals cl env.qual none .none (some env) env.builtins) with scope := relabel scope env })
      (fun k s' => ∃ h' tk i o' m', s' = { s₁ with heap := h', toks := tk } ∧ i ≤ kvs.length ∧ k = kvs.length + 1 - i ∧ ((∃ ok ov, IsItemIter h' I d i es.size ep ok ov) ∧ DictIs h' d es ep) ∧ Fr h₀ env.locals h' m ∧ h'.Ns C m' ∧
        News h₀ env.locals h' ((D, o') :: news) ∧ TTab w o' (turned (kvs.take i))) ?_ (kvs.length + 1)
      ⟨H3, _, 0, _, _, rfl, Nat.zero_le _, rfl, ⟨⟨_, _, up3 _ _ it2⟩, let ⟨x, hx, r⟩ := d2; ⟨x, up3 _ _ hx, r⟩⟩, F3, hns3, N3, TTab.new w⟩
    rintro k s' ⟨h', tk, i, o', m', rfl, hi, rfl, hst, F', hn', N', T'⟩
    by_cases hlt : i < kvs.length
    · refine W.item i _ _ _ hlt hst fun v h4 tk4 hMd k4 => ?_
      refine W.go i v _ _ _ hMd fun h5 hP hst5 k5 => ?_
      obtain ⟨T5, kx, vx, t, u, rfl, hkv, ht, hu, htu, hT5⟩ := hP
      have up5 : ∀ c oc, c ≠ I → h'.get? c = some oc → h5.get? c = some oc := fun c oc hc e => k5 c oc (by simpa using hc) (k4 c oc (by simpa using hc) e)
      have hCI : C ≠ I := by omega
      refine kcp_assign (env := { (newEnv scope C env.globals cl env.qual none .none (some env) env.builtins) with scope := relabel scope env }) hh hT5 (lookup_relabel_local hxa) (lookup_relabel_local hxb) (by simp [newEnv, relabel, hkind])
        (hn'.at' fun oc e => up5 C oc hCI e) fun h6 tk6 hn6 k6 => ?_
      have up6 : ∀ c oc, c ≠ I → c ≠ C → h'.get? c = some oc → h6.get? c = some oc := fun c oc h1 h2 e => k6 c oc h2 (up5 c oc h1 e)
      refine wpAny_Name (wpAny_loadName_local hkind (lookup_relabel_local hxb) hn6 (v := .str vx u) (by simp) ?_) hdb
      refine wpAny_Name (wpAny_loadName_local hkind (lookup_relabel_local hxa) hn6 (v := .str kx t) (by simp [hab]) ?_) hda
      have gD : h6.get? D = some o' := up6 D o' (Nat.ne_of_gt hID) (Nat.ne_of_lt hDC) (N' _ (.head _)).1
      refine set_tok gD T' (turned_new hkv hn2) hu ht (fun q => htu q.symm) (by unfold turned; rw [List.length_map, List.length_take]; omega) fun h7 o7 g7 T7 s7 => ?_
      have up7 : ∀ c oc, c ≠ I → c ≠ C → c ≠ D → h'.get? c = some oc → h7.get? c = some oc := fun c oc h1 h2 h3 e => s7.extBut c oc h3 (up6 c oc h1 h2 e)
      have keep0 : ∀ c oc, h₀.get? c = some oc → c < I := fun c oc e => by
        rcases Nat.lt_or_ge c I with q | q
        · exact q
        · rw [freshI c q] at e; cases e
      refine ⟨kvs.length + 1 - (i + 1), by omega, h7, _, i + 1, o7, _, rfl, hlt, rfl, ?_, ?_, hn6.sameBut s7 (Nat.ne_of_gt hDC), ?_, ?_⟩
      · obtain ⟨⟨ok, ov, hit⟩, x, hx, r⟩ := hst5
        exact ⟨⟨ok, ov, s7.extBut I _ (Nat.ne_of_lt hID) (k6 I _ (Nat.ne_of_lt IC) hit)⟩, x, s7.extBut d _ (Nat.ne_of_lt (Nat.lt_trans dd hID)) (k6 d _ (Nat.ne_of_lt (Nat.lt_trans dd IC)) hx), r⟩
      · exact ⟨F'.ns.at' fun oc e => up7 _ oc (Nat.ne_of_lt hLlt) (Nat.ne_of_lt LC) (Nat.ne_of_lt LD) e, fun c oc e => up7 c oc (Nat.ne_of_lt (keep0 c oc e)) (Nat.ne_of_lt (Nat.lt_trans (keep0 c oc e) IC)) (Nat.ne_of_lt (Nat.lt_trans (keep0 c oc e) hID)) (F'.keep c oc e), F'.above⟩
      · intro p hp
        rcases List.mem_cons.mp hp with rfl | hp
        · exact ⟨g7, (N' _ (.head _)).2⟩
        · have hlow := lowI p hp
          exact ⟨up7 _ _ (Nat.ne_of_lt hlow) (Nat.ne_of_lt (Nat.lt_trans hlow IC)) (Nat.ne_of_lt (Nat.lt_trans hlow hID)) (N' p (.tail _ hp)).1, (N' p (.tail _ hp)).2⟩
      · rw [turned_take hkv]; exact T7
    · have hin : i = kvs.length := by omega
      subst hin
      refine W.done _ _ _ hst fun h4 tk4 k4 => ?_
      have up4 : ∀ c oc, c ≠ I → h'.get? c = some oc → h4.get? c = some oc := fun c oc hc e => k4 c oc (by simpa using hc) e
      have keep0 : ∀ c oc, h₀.get? c = some oc → c < I := fun c oc e => by
        rcases Nat.lt_or_ge c I with q | q
        · exact q
        · rw [freshI c q] at e; cases e
      have F4 : Fr h₀ env.locals h4 m := ⟨F'.ns.at' fun oc e => up4 _ oc (Nat.ne_of_lt hLlt) e, fun c oc e => up4 c oc (Nat.ne_of_lt (keep0 c oc e)) (F'.keep c oc e), F'.above⟩
      show wpAny _ A (assign (.Name y py) env (.ref D)) _ _ _
      refine wpAny_assign_Name (wpAny_storeName_local hy F4.ns (fun h5 hn5 hs5 => ?_) hp)
      have F5 : Fr h₀ env.locals h5 (fun z => if z = y then some (.ref D) else m z) := ⟨hn5, fun c oc e => hs5.extBut c oc (by have h1 := F.above; have h2 := Heap.lt_size e; exact Nat.ne_of_lt (Nat.lt_of_lt_of_le h2 h1)) (F4.keep c oc e), F4.above⟩
      refine ⟨m', (hn'.at' fun oc e => up4 C oc (Nat.ne_of_gt IC) e).sameBut hs5 (Nat.ne_of_gt LC), fun h6 hs6 => ?_⟩
      rw [List.take_length] at T'
      have low6 : ∀ c, c ≠ env.locals → c ≠ C → c ≠ I → ∀ oc, h'.get? c = some oc → h6.get? c = some oc := fun c h1 h2 h3 oc e => hs6.extBut c oc h2 (hs5.extBut c oc h1 (up4 c oc h3 e))
      refine hQ D o' h6 _ (F5.change hs6 (Nat.ne_of_gt LC) (freshI C (Nat.le_of_lt IC))) (fun p hp => ?_) (fun p hp => Nat.lt_trans (lowI p hp) hID) ?_ T'
      · rcases List.mem_cons.mp hp with rfl | hp
        · exact ⟨low6 D (Nat.ne_of_gt LD) (Nat.ne_of_lt hDC) (Nat.ne_of_gt hID) _ (N' _ (.head _)).1, (N' _ (.head _)).2⟩
        · have hlow := lowI p hp
          exact ⟨low6 p.1 (N' p (.tail _ hp)).2.1 (Nat.ne_of_lt (Nat.lt_trans hlow IC)) (Nat.ne_of_lt hlow) _ (N' p (.tail _ hp)).1, (N' p (.tail _ hp)).2⟩
      · have h1 := modules_low hbig
        have h2 := F.above
        exact beq_eq_false_iff_ne.mpr (Nat.ne_of_gt (Nat.lt_trans h1 (Nat.lt_of_le_of_lt h2 LD)))
end
end Mine

end
section
open PySem PySem.W PyProof.Rows PyProof.V
open PySem.Spec PyProof.Rows.LCg
namespace Mine
section
variable {prog : Program} {w : World} {A : Around} {E : Value → Shared → Prop} {s : Shared} {h₀ : Heap} {L : Addr} {m : Str → Option Value} {env : Env}

/-- a comprehension over a text's signs -/
def SrcS (prog : Program) (w : World) (A : Around) (h₀ : Heap) (L : Addr) (m : Str → Option Value) (env : Env) (elt : Expr) (x : Str) (scope : Scope) (cl : List (Str × Addr)) (Fin : Shared → List Value → List (Addr × Obj) → Prop) (xv : Value) (s₁ : Shared) : Prop :=
  ∃ (X : Str) (t : Tok) (news : List (Addr × Obj)), xv = .str X t ∧ A.handled = none ∧ Fr h₀ L s₁.heap m ∧ News h₀ L s₁.heap news ∧ X.cps.size ≤ sizeLine ∧
    ∀ s₂ : Shared, (∃ h, s₂ = { s₁ with heap := h }) → CompRest prog w A h₀ L m env elt x scope cl s₂ (fun _ => True) (SignAt X) (Fin s₂) X.cps.size 0 [] news

theorem str_block {elt iter : Expr} {x : Str} {px : Pos} {scope : Scope} {cl : List (Str × Addr)} {pos : Pos} {Q : Value → Shared → Prop} {s₁ : Shared} {X : Str} {t : Tok} {ty : String} {news : List (Addr × Obj)}
    (W : ∀ I, Walks prog w A I [I] [I] X.cps.size (SignAt X) (fun i h => h.IsStrIter I ty X t i))
    (hcell : ∀ y ∈ scope.names, y.2 ≠ .cell) (hkind : scope.kind = .function) (hx : scope.names.lookup x = some .local) (F : Fr h₀ L s₁.heap m) (N : News h₀ L s₁.heap news) (hsz : X.cps.size ≤ sizeLine)
    (R : ∀ s₂ : Shared, (∃ h, s₂ = { s₁ with heap := h }) → CompRest prog w A h₀ L m env elt x scope cl s₂ (fun _ => True) (SignAt X) (FinE h₀ L m s₂ Q) X.cps.size 0 [] news) :
    (fun (it : Value) (s₂ : Shared) => wpAny (model prog w) A (newList []) (fun acc s₃ => wpAny (model prog w) A (newFunctionEnv scope env.globals cl [] env.qual none .none (some env)) (fun cenv s₄ =>
      codeAny (model prog w) A (.compStart (.ListComp elt [⟨.Name x px, iter, [], 0⟩] scope pos) 0 it acc { cenv with scope := relabel scope env }) (compPost (model prog w) A E none Q acc cenv.locals) s₄) E s₃) E s₂)
      (.ref s₁.heap.objs.size) { s₁ with heap := s₁.heap.push { cls := .type ty, data := .fields #[.str X t, .int 0 0] } } := by
  refine block_U (W s₁.heap.objs.size) hsz (fun i h st => by obtain ⟨o, e, _⟩ := st; exact ⟨o, e⟩)
    (fun i h h' o nw st e e' _ _ _ => by obtain ⟨o', q, r⟩ := st; rw [e] at q; cases q; exact ⟨o, e', r⟩) hcell hkind hx ⟨_, Heap.get?_push_size _ rfl, rfl, rfl⟩ (fun b hb => ?_)
    (F.push _) (N.grown fun _ _ e => Heap.get?_push_of_some _ e) (Nat.ne_of_lt F.ns.lt) (next_is_new F) (fun p hp => Nat.ne_of_lt (Heap.lt_size (N p hp).1)) trivial (R _ ⟨_, rfl⟩) ?_
  · rw [List.mem_singleton.mp hb]
    show s₁.heap.objs.size < (s₁.heap.push _).objs.size
    rw [Heap.size_push]; exact Nat.lt_succ_self _
  · intro D C h tk m' ys news' F' N' o1 hn hC₀ hD₀ hCL hDL hCD offC fin
    refine ⟨m', hn, fun h'' hs'' => fin D h'' tk (F'.change hs'' hCL hC₀) (fun p hp => ?_) o1⟩
    refine ⟨hs''.extBut _ _ ?_ (N' p hp).1, (N' p hp).2⟩
    rcases List.mem_cons.mp hp with rfl | hp
    · exact Ne.symm hCD
    · exact offC p hp

theorem ListComp_S {elt iter : Expr} {x : Str} {px : Pos} {scope : Scope} {cl : List (Str × Addr)} {pos : Pos} {Q : Value → Shared → Prop} (F₀ : Fr h₀ L s.heap m)
    (hclos : closureFor scope env = pure cl) (hcell : ∀ y ∈ scope.names, y.2 ≠ .cell) (hkind : scope.kind = .function)
    (hnames : ∀ y ∈ scope.names, y.2 = .local → scope.names.lookup y.1 = some .local) (hx : scope.names.lookup x = some .local)
    (h : wpAny (model prog w) A (eval iter env) (SrcS prog w A h₀ L m env elt x scope cl (fun s₂ => FinE h₀ L m s₂ Q)) E s)
    (hs : ∀ x, foldedSetIterable iter env x = pure x := by intro _; rfl) :
    wpAny (model prog w) A (eval (.ListComp elt [⟨.Name x px, iter, [], 0⟩] scope pos) env) Q E s := by
  rw [eval_ListComp]
  refine wpAny_comprehension_free (use := none) rfl hs hclos hkind hnames (wpAny_mono h (fun xv s₁ h₁ => ?_) fun _ _ e => e)
  obtain ⟨X, t, news, rfl, hh, F, N, hsz, R⟩ := h₁
  cases ha : X.cps.all (· < 128)
  · exact wpAny_pyIter_wide ha (str_block (ty := "str_iterator") (fun I => Walks.strWide hh I X t) hcell hkind hx F N hsz R)
  · exact wpAny_pyIter_ascii ha (str_block (ty := "str_ascii_iterator") (fun I => Walks.strAscii hh I X t) hcell hkind hx F N hsz R)

/-- the turns of a comprehension, each told of by its item -/
theorem comp_rest {α : Type} {elt : Expr} {x : Str} {scope : Scope} {cl : List (Str × Addr)} {S : List (Addr × Obj) → Prop} {P : Nat → Value → Prop} {Fin : List Value → List (Addr × Obj) → Prop} {news : List (Addr × Obj)}
    {n : Nat} {xs : List α} (In Out : α → Value → Prop) (hxs : xs.length = n) (hP : ∀ i v, i < n → P i v → ∃ a, xs[i]? = some a ∧ In a v)
    (turn : ∀ a v I oI C oC D m₂ ys h tk (E' : Value → Shared → Prop), a ∈ xs → In a v → NsObj oC m₂ → m₂ x = some v → Fr h₀ L h m → News h₀ L h ((I, oI) :: (C, oC) :: (D, lst ys) :: news) → Off3 I C D news → ((@Ne Nat I C) ∧ (@Ne Nat I D) ∧ (@Ne Nat C D)) →
      wpAny (model prog w) A (eval elt (compEnvC scope cl C env)) (CompEnd h₀ L m { s with heap := h, toks := tk } I oI C oC D (lst ys) S (fun y news' => news' = news ∧ Out a y)) E' { s with heap := h, toks := tk })
    (fin : ∀ ys, All2 (fun y a => Out a y) ys xs → Fin ys news) : CompRest prog w A h₀ L m env elt x scope cl s S P Fin n 0 [] news := by
  have key : ∀ (j i : Nat) (ys : List Value), i + j = n → All2 (fun y a => Out a y) ys (xs.take i) → CompRest prog w A h₀ L m env elt x scope cl s S P Fin j i ys news := by
    intro j
    induction j with
    | zero =>
      intro i ys hi hy
      have e : xs.take i = xs := List.take_of_length_le (by omega)
      rw [e] at hy
      exact CompRest.zero (fin ys hy)
    | succ j ih =>
      intro i ys hi hy
      refine CompRest.succ ?_
      intro v I oI C oC D m₂ h tk E' hv hC hx F N off ne
      obtain ⟨a, ha, hin⟩ := hP i v (by omega) hv
      refine wpAny_mono (turn a v I oI C oC D m₂ ys h tk E' (List.mem_of_getElem? ha) hin hC hx F N off ne) (fun y s₂ hq => ?_) fun _ _ e => e
      obtain ⟨h', tk', nw, e, F', N', off', hS, hn, ho⟩ := hq
      rw [hn] at N' off' hS
      refine ⟨h', tk', news, e, F', N', off', hS, ih (i + 1) _ (by omega) ?_⟩
      rw [List.take_add_one, ha]
      exact hy.snoc ho
  exact key n 0 [] (by omega) .nil
end
/-- the signs of a text, each a text -/
def signs1 (X : Str) : List Str := X.cps.toList.map fun c => ⟨#[c]⟩
theorem sign_in {X : Str} {i : Nat} {v : Value} (h : SignAt X i v) : ∃ a, (signs1 X)[i]? = some a ∧ ∃ t, v = .str a t := by
  obtain ⟨c, u, hc, rfl⟩ := h
  exact ⟨⟨#[c]⟩, by unfold signs1; rw [List.getElem?_map, Array.getElem?_toList, hc]; rfl, u, rfl⟩
theorem signs1_length (X : Str) : (signs1 X).length = X.cps.size := by unfold signs1; simp
theorem range_in {a : Int} {n i : Nat} {v : Value} (hi : i < n) (h : ∃ t, v = Value.int (a + (i : Int)) t) : ∃ k, (rangeKs a n)[i]? = some k ∧ ∃ t, v = .int k t := by
  obtain ⟨t, rfl⟩ := h
  exact ⟨a + (i : Int), by simp [rangeKs, hi], t, rfl⟩
/-- a comprehension over a text, its turns told of -/
theorem SrcS.intro {prog : Program} {w : World} {A : Around} {h₀ : Heap} {L : Addr} {m : Str → Option Value} {env : Env} {elt : Expr} {x : Str} {scope : Scope} {cl : List (Str × Addr)} {Fin : Shared → List Value → List (Addr × Obj) → Prop} {s₁ : Shared} {X : Str} {t : Tok} {news : List (Addr × Obj)}
    (hh : A.handled = none) (F : Fr h₀ L s₁.heap m) (N : News h₀ L s₁.heap news) (hsz : X.cps.size ≤ sizeLine)
    (h : ∀ g, CompRest prog w A h₀ L m env elt x scope cl { s₁ with heap := g } (fun _ => True) (SignAt X) (Fin { s₁ with heap := g }) X.cps.size 0 [] news) :
    SrcS prog w A h₀ L m env elt x scope cl Fin (.str X t) s₁ := ⟨X, t, news, rfl, hh, F, N, hsz, fun _ ⟨g, e⟩ => e ▸ h g⟩
end Mine

end
section
open PySem PySem.W PyProof.Rows PyProof.V
open PySem.Spec
namespace Mine
section
variable {prog : Program} {w : World} {A : Around} {E : Value → Shared → Prop} {s : Shared} {env : Env} {h₀ : Heap} {body : List Stmt} {Q : Flow → Shared → Prop}

theorem name_iter {a : Str} {pa : Pos} {I : Addr} {fp : List Addr} {n : Nat} {P : Nat → Value → Prop} {St : Nat → Heap → Prop} {m : Str → Option Value} {news : List (Addr × Obj)}
    (W : Walks prog w A I fp [I] n P St) (ha : env.kindOf a = some .local) (hp : (env.scope.kind == .class || (env.scope.kind == .module && env.locals != env.globals)) = false)
    (F : Fr h₀ env.locals s.heap m) (N : News h₀ env.locals s.heap news) (hst : St 0 s.heap) (hLf : env.locals ∉ fp) (hI₀ : h₀.get? I = none) (hoff : ∀ p ∈ news, p.1 ≠ I)
    (J : Nat → (Str → Option Value) → Prop) (hJ : J 0 m)
    (step : ∀ i v h₁ tk m₁ (wr : List Addr) own, i < n → P i v → J i m₁ → (∀ p ∈ news, p.1 ∉ wr) →
      Fr h₀ env.locals h₁ (fun z => if z = a then some v else m₁ z) → News h₀ env.locals h₁ (own ++ news) →
      wpAny (model prog w) A (execs body env) (LoopStepV h₀ env.locals wr own (fun m' n' => n' = news ∧ J (i + 1) m') { s with heap := h₁, toks := tk } (fun v s' => Q (.ret v) s') fun s' => Q .next s') E { s with heap := h₁, toks := tk })
    (fin : ∀ h' tk m', Fr h₀ env.locals h' m' → News h₀ env.locals h' news → J n m' → Q .next { s with heap := h', toks := tk }) :
    TurnsAt prog w A h₀ env (.Name a pa) body Q E (.ref I) s := by
  have WK := KTurns.ofWalks (target := .Name a pa) W (fun i v s Q E st hQ => wpAny_pure hQ)
  refine ⟨I, fp, [I], n, _, _, _, m, news, fun i m' n' => n' = news ∧ J i m', rfl, WK, hLf, ?_, ?_, hst, F, N, ⟨rfl, hJ⟩, ?_, ?_⟩
  · intro b hb
    rw [List.mem_singleton.mp hb]; exact hI₀
  · intro p hp'
    simpa using hoff p hp'
  · rintro i v m₁ news₁ h₁ tk₁ own hi hv ⟨rfl, hJi⟩ hnw - - - hst₁ F₁ N₁
    refine wpAny_assign_Name (wpAny_storeName_local ha F₁.ns (fun h₂ hn₂ hs₂ => ?_) hp)
    have hL₀ : h₀.get? env.locals = none := Heap.get?_none_of_le F₁.above
    have F₂ : Fr h₀ env.locals h₂ (fun z => if z = a then some v else m₁ z) := ⟨hn₂, fun c oc e => hs₂.extBut c oc (fun q => by rw [q, hL₀] at e; cases e) (F₁.keep c oc e), F₁.above⟩
    exact step i v h₂ (tk₁ + 1) m₁ _ own hi hv hJi hnw F₂ fun p hp' => ⟨hs₂.extBut _ _ (N₁ p hp').2.1 (N₁ p hp').1, (N₁ p hp').2⟩
  · rintro h' tk m' news' F' N' - ⟨rfl, hJ'⟩
    exact fin h' tk m' F' N' hJ'

theorem range_iter {a : Str} {pa : Pos} {r : Addr} {j : Int} {n : Nat} {t u v : Tok} {m : Str → Option Value} {news : List (Addr × Obj)}
    (hh : A.handled = none) (ha : env.kindOf a = some .local) (hp : (env.scope.kind == .class || (env.scope.kind == .module && env.locals != env.globals)) = false)
    (F : Fr h₀ env.locals s.heap m) (N : News h₀ env.locals s.heap news) (hr : IsRange s.heap r 0 j 1 t u v) (hsm : Builtin.Range.small 0 j 1 = true) (hn : Builtin.Range.rangeSize 0 j 1 = ((n : Nat) : Int))
    (J : Nat → (Str → Option Value) → Prop) (hJ : J 0 m)
    (step : ∀ (i : Nat) t h₁ tk m₁ (wr : List Addr) own, i < n → J i m₁ → (∀ p ∈ news, p.1 ∉ wr) →
      Fr h₀ env.locals h₁ (fun z => if z = a then some (.int (i : Int) t) else m₁ z) → News h₀ env.locals h₁ (own ++ news) →
      wpAny (model prog w) A (execs body env) (LoopStepV h₀ env.locals wr own (fun m' n' => n' = news ∧ J (i + 1) m') { s with heap := h₁, toks := tk } (fun v s' => Q (.ret v) s') fun s' => Q .next s') E { s with heap := h₁, toks := tk })
    (fin : ∀ h' tk m', Fr h₀ env.locals h' m' → News h₀ env.locals h' news → J n m' → Q .next { s with heap := h', toks := tk }) :
    wpAny (model prog w) A (pyIter (.ref r)) (fun it s₂ => TurnsAt prog w A h₀ env (.Name a pa) body Q E it s₂) E s := by
  refine wpAny_pyIter_range hr hsm ?_
  refine name_iter (LCg.range_walks hh 0 n) ha hp (F.push _) (N.grown fun _ _ e => Heap.get?_push_of_some _ e) (by show IsRangeIter _ _ _ _ _; rw [hn]; simpa using Heap.get?_push_size _ rfl) ?_ (next_is_new F) (fun p hp => Nat.ne_of_lt (Heap.lt_size (N p hp).1)) J hJ ?_ fin
  · simpa using Nat.ne_of_lt F.ns.lt
  · rintro i v' h₁ tk m₁ wr own hi ⟨t', rfl⟩ hJi hwr F₁ N₁
    have e : (0 : Int) + (i : Int) = (i : Int) := by omega
    rw [e] at F₁
    exact step i t' h₁ tk m₁ wr own hi hJi hwr F₁ N₁

theorem ints_iter {a : Str} {pa : Pos} {ax : Addr} {c : Nat} {vs : List Value} {ns : List Int} {m : Str → Option Value} {news : List (Addr × Obj)}
    (hh : A.handled = none) (ha : env.kindOf a = some .local) (hp : (env.scope.kind == .class || (env.scope.kind == .module && env.locals != env.globals)) = false)
    (F : Fr h₀ env.locals s.heap m) (N : News h₀ env.locals s.heap news) (hm : (ax, ({ cls := .type "list", data := .seq vs.toArray c } : Obj)) ∈ news) (hI : IntsAre vs ns)
    (J : Nat → (Str → Option Value) → Prop) (hJ : J 0 m)
    (step : ∀ (i : Nat) k t h₁ tk m₁ (wr : List Addr) own, ns[i]? = some k → J i m₁ → (∀ p ∈ news, p.1 ∉ wr) →
      Fr h₀ env.locals h₁ (fun z => if z = a then some (.int k t) else m₁ z) → News h₀ env.locals h₁ (own ++ news) →
      wpAny (model prog w) A (execs body env) (LoopStepV h₀ env.locals wr own (fun m' n' => n' = news ∧ J (i + 1) m') { s with heap := h₁, toks := tk } (fun v s' => Q (.ret v) s') fun s' => Q .next s') E { s with heap := h₁, toks := tk })
    (fin : ∀ h' tk m', Fr h₀ env.locals h' m' → News h₀ env.locals h' news → J vs.length m' → Q .next { s with heap := h', toks := tk }) :
    wpAny (model prog w) A (pyIter (.ref ax)) (fun it s₂ => TurnsAt prog w A h₀ env (.Name a pa) body Q E it s₂) E s := by
  have hax := (N _ hm).1
  have hl : s.heap.IsList ax vs.toArray := ⟨_, hax, rfl, _, rfl⟩
  have hne : ax ≠ s.heap.objs.size := Nat.ne_of_lt (Heap.lt_size hax)
  refine wpAny_pyIter_list hl ?_
  refine name_iter (Walks.list (prog := prog) (w := w) (A := A) hh s.heap.objs.size ax hne vs.toArray) ha hp (F.push _) (N.grown fun _ _ e => Heap.get?_push_of_some _ e) ⟨⟨_, Heap.get?_push_size _ rfl, rfl, rfl⟩, hl.push _⟩ ?_ (next_is_new F)
    (fun p hp => Nat.ne_of_lt (Heap.lt_size (N p hp).1)) J hJ ?_ (by rw [List.size_toArray]; exact fin)
  · have h1 : env.locals ≠ s.heap.objs.size := Nat.ne_of_lt F.ns.lt
    have h2 : env.locals ≠ ax := fun q => (N _ hm).2.1 q.symm
    simp [h1, h2]
  · rintro i v' h₁ tk m₁ wr own hi hv hJi hwr F₁ N₁
    obtain ⟨k, t', rfl, hk⟩ := IntsAre.at hI i v' (by simpa using hv)
    exact step i k t' h₁ tk m₁ wr own hk hJi hwr F₁ N₁
end
theorem m_split5 {m : Str → Option Value} {n1 n2 n3 n4 n5 : Str} {v1 v2 v3 v4 v5 : Value} (h1 : m n1 = some v1) (h2 : m n2 = some v2) (h3 : m n3 = some v3) (h4 : m n4 = some v4) (h5 : m n5 = some v5) :
    m = fun y => if y = n1 then some v1 else if y = n2 then some v2 else if y = n3 then some v3 else if y = n4 then some v4 else if y = n5 then some v5 else m y := by
  funext y
  by_cases e1 : y = n1
  · rw [if_pos e1, e1, h1]
  · rw [if_neg e1]
    by_cases e2 : y = n2
    · rw [if_pos e2, e2, h2]
    · rw [if_neg e2]
      by_cases e3 : y = n3
      · rw [if_pos e3, e3, h3]
      · rw [if_neg e3]
        by_cases e4 : y = n4
        · rw [if_pos e4, e4, h4]
        · rw [if_neg e4]
          by_cases e5 : y = n5
          · rw [if_pos e5, e5, h5]
          · rw [if_neg e5]
end Mine

end
section
namespace Mine
/-- how many of the first are below -/
def below (ns : List Int) (x : Int) : Int := ((ns.takeWhile fun v => decide (v < x)).length : Int)
def upto (ns : List Int) (x : Int) : Int := ((ns.takeWhile fun v => !decide (x < v)).length : Int)
theorem takeWhile_of {p : Int → Bool} : ∀ {ns : List Int} {r : Nat}, r ≤ ns.length → (∀ (j : Nat) v, j < r → ns[j]? = some v → p v = true) → (∀ v, ns[r]? = some v → p v = false) → (ns.takeWhile p).length = r
  | [], r, h, _, _ => by simp at h; simp [h]
  | a :: ns, 0, _, _, h2 => by
    have := h2 a (by simp)
    simp [this]
  | a :: ns, r + 1, h, h1, h2 => by
    have ha := h1 0 a (by omega) (by simp)
    rw [List.takeWhile_cons, if_pos ha, List.length_cons]
    congr 1
    exact takeWhile_of (by simpa using h) (fun j v hj hv => h1 (j + 1) v (by omega) (by simpa using hv)) (fun v hv => h2 v (by simpa using hv))

/-- a search by halves stands between lo and hi -/
structure Bs (p : Int → Bool) (ns : List Int) (lo hi : Int) : Prop where
  h0 : 0 ≤ lo
  h1 : lo ≤ hi
  h2 : hi ≤ ns.length
  hb : ∀ (j : Nat) (v : Int), (j : Int) < lo → ns[j]? = some v → p v = true
  hu : ∀ (j : Nat) (v : Int), hi ≤ (j : Int) → ns[j]? = some v → p v = false
theorem Bs.start (p : Int → Bool) (ns : List Int) : Bs p ns 0 ns.length :=
  ⟨by omega, by omega, by omega, fun j v h => by omega, fun j v h hv => by have := (List.getElem?_eq_some_iff.mp hv).1; omega⟩
theorem mid_bounds {lo hi : Int} (h0 : 0 ≤ lo) (h : lo < hi) : lo ≤ (lo + hi).fdiv 2 ∧ (lo + hi).fdiv 2 < hi := by
  have := Int.fdiv_eq_ediv_of_nonneg (lo + hi) (b := 2) (by omega)
  rw [this]; omega
theorem getD_at {ns : List Int} {k : Int} (h0 : 0 ≤ k) (h : k < ns.length) : ns[k.toNat]? = some (ns.getD k.toNat 0) := by
  have hk : k.toNat < ns.length := by omega
  rw [List.getD_eq_getElem?_getD, List.getElem?_eq_getElem hk]; rfl
theorem sorted_at {ns : List Int} (hs : ns.Pairwise (· ≤ ·)) {i j : Nat} {u v : Int} (hij : i ≤ j) (hu : ns[i]? = some u) (hv : ns[j]? = some v) : u ≤ v := by
  obtain ⟨hi, rfl⟩ := List.getElem?_eq_some_iff.mp hu
  obtain ⟨hj, rfl⟩ := List.getElem?_eq_some_iff.mp hv
  rcases Nat.lt_or_eq_of_le hij with h | rfl
  · exact List.pairwise_iff_getElem.mp hs i j hi hj h
  · exact Int.le_refl _
theorem Bs.low {p : Int → Bool} {ns : List Int} {lo hi : Int} (b : Bs p ns lo hi) (hs : ns.Pairwise (· ≤ ·)) (hp : ∀ u v, u ≤ v → p v = true → p u = true) (h : lo < hi) (hv : p (ns.getD ((lo + hi).fdiv 2).toNat 0) = true) :
    Bs p ns ((lo + hi).fdiv 2 + 1) hi ∧ (hi - ((lo + hi).fdiv 2 + 1)).toNat < (hi - lo).toNat := by
  have hm := mid_bounds b.h0 h
  have hb0 := b.h0; have hb2 := b.h2
  refine ⟨⟨by omega, by omega, b.h2, fun j v hj hjv => ?_, b.hu⟩, by omega⟩
  exact hp _ _ (sorted_at hs (by omega) hjv (getD_at (k := (lo + hi).fdiv 2) (by omega) (by omega))) hv
theorem Bs.high {p : Int → Bool} {ns : List Int} {lo hi : Int} (b : Bs p ns lo hi) (hs : ns.Pairwise (· ≤ ·)) (hp : ∀ u v, u ≤ v → p v = true → p u = true) (h : lo < hi) (hv : p (ns.getD ((lo + hi).fdiv 2).toNat 0) = false) :
    Bs p ns lo ((lo + hi).fdiv 2) ∧ ((lo + hi).fdiv 2 - lo).toNat < (hi - lo).toNat := by
  have hm := mid_bounds b.h0 h
  have hb0 := b.h0; have hb2 := b.h2
  refine ⟨⟨b.h0, by omega, by omega, b.hb, fun j v hj hjv => ?_⟩, by omega⟩
  have hle := sorted_at hs (by omega) (getD_at (k := (lo + hi).fdiv 2) (by omega) (by omega)) hjv
  cases hq : p v with
  | false => rfl
  | true => rw [hp _ _ hle hq] at hv; cases hv
theorem Bs.done {p : Int → Bool} {ns : List Int} {lo hi : Int} (b : Bs p ns lo hi) (h : ¬ lo < hi) : ((ns.takeWhile p).length : Int) = lo := by
  have hb0 := b.h0; have hb1 := b.h1; have hb2 := b.h2
  have := takeWhile_of (p := p) (ns := ns) (r := lo.toNat) (by omega) (fun j v hj hv => b.hb j v (by omega) hv) (fun v hv => b.hu lo.toNat v (by omega) hv)
  omega
end Mine

end
section
open PySem PySem.W PyProof.Rows PyProof.V
open PySem.Spec
namespace Mine
open Builtin Builtin.Str StrLaws
/-- the text with z for each y, from the left; the number tells how many signs are left out -/
def rep (y z : List Nat) : Nat → List Nat → List Nat
  | _, [] => []
  | 0, c :: l => if y.isPrefixOf (c :: l) then z ++ rep y z (y.length - 1) l else c :: rep y z 0 l
  | k + 1, _ :: l => rep y z k l
/-- the places -/
def occs (y : List Nat) : Nat → Nat → List Nat → List Nat
  | _, _, [] => []
  | i, 0, c :: l => if y.isPrefixOf (c :: l) then i :: occs y (i + 1) (y.length - 1) l else occs y (i + 1) 0 l
  | i, k + 1, _ :: l => occs y (i + 1) k l

theorem prefix_take {y l : List Nat} : (l.take y.length == y) = true ↔ y.isPrefixOf l = true := by
  rw [List.isPrefixOf_iff_prefix, List.prefix_iff_eq_take, beq_iff_eq]
  exact ⟨fun h => h.symm, fun h => h.symm⟩

theorem occ_occs (x y : Str) (hy : 1 ≤ y.length) : ∀ (d i : Nat) (found : Array Nat) (k fr : Nat), d + i = x.length → found.size ≤ i → k = fr - i →
    (forIn (List.range' i (d + 1)) (found, fr) (occBody x y x.length (x.length + 1))).run.fst.toList = found.toList ++ occs y.cps.toList i k (x.cps.toList.drop i) := by
  intro d
  have hn : x.cps.toList.length = x.length := by simp [Str.length]
  have hyl : y.cps.toList.length = y.length := by simp [Str.length]
  induction d with
  | zero =>
    intro i found k fr hd hf hk
    have e : x.cps.toList.drop i = [] := List.drop_of_length_le (by omega)
    rw [e, List.range'_succ, List.range'_zero, List.forIn_cons]
    unfold occBody
    rw [if_neg (by rintro ⟨⟨_, h⟩, _⟩; omega)]
    show found.toList = _
    simp [occs]
  | succ d ih =>
    intro i found k fr hd hf hk
    have hi : i < x.cps.toList.length := by omega
    rw [List.range'_succ, List.forIn_cons, List.drop_eq_getElem_cons hi]
    cases k with
    | succ k =>
      unfold occBody
      rw [if_neg (by rintro ⟨⟨⟨_, h⟩, _⟩, _⟩; have : fr ≤ i := h; omega)]
      exact ih (i + 1) found k fr (by omega) (by omega) (by omega)
    | zero =>
      have hsub : subAt x y i = true ↔ y.cps.toList.isPrefixOf (x.cps.toList[i] :: x.cps.toList.drop (i + 1)) = true := by
        rw [subAt_eq, ← List.drop_eq_getElem_cons hi, ← hyl]
        exact prefix_take
      show _ = found.toList ++ (if y.cps.toList.isPrefixOf (x.cps.toList[i] :: x.cps.toList.drop (i + 1)) then i :: occs y.cps.toList (i + 1) (y.cps.toList.length - 1) (x.cps.toList.drop (i + 1)) else occs y.cps.toList (i + 1) 0 (x.cps.toList.drop (i + 1)))
      by_cases hp : y.cps.toList.isPrefixOf (x.cps.toList[i] :: x.cps.toList.drop (i + 1)) = true
      · have hle : i + y.length ≤ x.length := by
          have := (List.isPrefixOf_iff_prefix.mp hp).length_le
          simp only [List.length_cons, List.length_drop] at this
          omega
        unfold occBody
        rw [if_pos ⟨⟨⟨by show found.size < _; omega, by show fr ≤ i; omega⟩, hle⟩, hsub.mpr hp⟩, if_pos hp]
        have := ih (i + 1) (found.push i) (y.length - 1) (i + y.length) (by omega) (by simp; omega) (by omega)
        rw [hyl]
        simp only [Array.toList_push, List.append_assoc, List.singleton_append] at this
        exact this
      · unfold occBody
        rw [if_neg (by rintro ⟨_, h⟩; exact hp (hsub.mp h)), if_neg hp]
        exact ih (i + 1) found 0 fr (by omega) (by omega) (by omega)

theorem occurrences_eq (x y : Str) (hy : 1 ≤ y.length) : occurrences x y 0 x.length (x.length + 1) = occs y.cps.toList 0 0 x.cps.toList := by
  rw [occ_eq]
  have := occ_occs x y hy x.length 0 #[] 0 0 (by omega) (by simp) rfl
  simpa using this

theorem strjoin_cons (z p : Str) {q : List Str} (hq : q ≠ []) : (Str.join z (p :: q)).cps.toList = p.cps.toList ++ z.cps.toList ++ (Str.join z q).cps.toList := by
  cases q with
  | nil => exact absurd rfl hq
  | cons a r =>
    show ((p ++ z ++ Str.join z (a :: r) : Str)).cps.toList = _
    simp [Str.cps_append]
theorem parts_ne (x : Str) (w a : Nat) (cuts : List Nat) : partsFrom x w a cuts ≠ [] := by cases cuts <;> simp [partsFrom]

theorem parts_rep (x y z : Str) (hy : 1 ≤ y.length) : ∀ (d i a k : Nat), d + i = x.length → a ≤ i + k → (0 < k → a = i + k) →
    (Str.join z (partsFrom x y.length a (occs y.cps.toList i k (x.cps.toList.drop i)))).cps.toList = (x.cps.toList.drop a).take (i - a) ++ rep y.cps.toList z.cps.toList k (x.cps.toList.drop i) := by
  intro d
  have hn : x.cps.toList.length = x.length := by simp [Str.length]
  have hyl : y.cps.toList.length = y.length := by simp [Str.length]
  induction d with
  | zero =>
    intro i a k hd ha hk
    have e : x.cps.toList.drop i = [] := List.drop_of_length_le (by omega)
    rw [e]
    show (strSub x a x.length).cps.toList = _
    rw [strSub_toList, show x.length = i by omega]
    simp [rep]
  | succ d ih =>
    intro i a k hd ha hk
    have hi : i < x.cps.toList.length := by omega
    rw [List.drop_eq_getElem_cons hi]
    cases k with
    | succ k =>
      show (Str.join z (partsFrom x y.length a (occs y.cps.toList (i + 1) k (x.cps.toList.drop (i + 1))))).cps.toList = _ ++ rep y.cps.toList z.cps.toList k (x.cps.toList.drop (i + 1))
      rw [ih (i + 1) a k (by omega) (by omega) (by omega), show i + 1 - a = 0 by omega, show i - a = 0 by omega]
    | zero =>
      show (Str.join z (partsFrom x y.length a (if y.cps.toList.isPrefixOf (x.cps.toList[i] :: x.cps.toList.drop (i + 1)) then i :: occs y.cps.toList (i + 1) (y.cps.toList.length - 1) (x.cps.toList.drop (i + 1)) else occs y.cps.toList (i + 1) 0 (x.cps.toList.drop (i + 1))))).cps.toList
        = _ ++ (if y.cps.toList.isPrefixOf (x.cps.toList[i] :: x.cps.toList.drop (i + 1)) then z.cps.toList ++ rep y.cps.toList z.cps.toList (y.cps.toList.length - 1) (x.cps.toList.drop (i + 1)) else x.cps.toList[i] :: rep y.cps.toList z.cps.toList 0 (x.cps.toList.drop (i + 1)))
      by_cases hp : y.cps.toList.isPrefixOf (x.cps.toList[i] :: x.cps.toList.drop (i + 1)) = true
      · rw [if_pos hp, if_pos hp]
        show (Str.join z (strSub x a i :: partsFrom x y.length (i + y.length) _)).cps.toList = _
        rw [strjoin_cons z _ (parts_ne _ _ _ _), strSub_toList, hyl, ih (i + 1) (i + y.length) (y.length - 1) (by omega) (by omega) (by omega), show i + 1 - (i + y.length) = 0 by omega]
        simp
      · rw [if_neg hp, if_neg hp, ih (i + 1) a 0 (by omega) (by omega) (by omega)]
        have e : (x.cps.toList.drop a).take (i + 1 - a) = (x.cps.toList.drop a).take (i - a) ++ [x.cps.toList[i]] := by
          rw [show i + 1 - a = (i - a) + 1 by omega, List.take_add_one, List.getElem?_drop, show a + (i - a) = i by omega, List.getElem?_eq_getElem hi]
          rfl
        rw [e]; simp

/-- what one replacement writes -/
theorem replace_toList (x y z : Str) (hy : 1 ≤ y.length) : (Txt.replace x y z).cps.toList = rep y.cps.toList z.cps.toList 0 x.cps.toList := by
  have main : (Str.join z (partsFrom x y.length 0 (occurrences x y 0 x.length (x.length + 1)))).cps.toList = rep y.cps.toList z.cps.toList 0 x.cps.toList := by
    rw [occurrences_eq x y hy]
    have := parts_rep x y z hy x.length 0 0 0 (by omega) (by omega) (by omega)
    simpa using this
  unfold Txt.replace
  split
  · rename_i h
    have he : occurrences x y 0 x.length (x.length + 1) = [] := by
      have h2 : (y.length == 0 && z.length == 0) = false := by
        have : (y.length == 0) = false := by simp; omega
        rw [this]; rfl
      rw [h2, Bool.or_false] at h
      simpa using h
    rw [he] at main
    rw [← main]
    show x.cps.toList = (strSub x 0 x.length).cps.toList
    rw [sub_whole]
  · rw [glued_eq_join, partsBetween_eq, main]
theorem rep_len {y z : List Nat} {k : Nat} (hz : z.length ≤ k) (hk : 1 ≤ k) : ∀ (l : List Nat) (j : Nat), (rep y z j l).length ≤ l.length * k
  | [], _ => by unfold rep; simp
  | c :: l, 0 => by
    unfold rep
    rw [List.length_cons, Nat.add_mul, Nat.one_mul]
    split
    · have := rep_len (y := y) hz hk l (y.length - 1)
      rw [List.length_append]; omega
    · have := rep_len (y := y) hz hk l 0
      rw [List.length_cons]; omega
  | c :: l, j + 1 => by
    unfold rep
    rw [List.length_cons, Nat.add_mul, Nat.one_mul]
    have := rep_len (y := y) hz hk l j
    omega
/-- the length of a text in which one piece is written for another -/
theorem len_repl {x y z : Str} (k : Nat) (hy : 1 ≤ y.length) (hk : 1 ≤ k) (hz : z.length ≤ k) : (Txt.replace x y z).length ≤ x.length * k := by
  have h := rep_len (y := y.cps.toList) (z := z.cps.toList) (k := k) (by simpa [Str.length] using hz) hk x.cps.toList 0
  rw [← replace_toList x y z hy] at h
  simpa [Str.length] using h
end Mine

end
section
namespace Mine
/-- a reference: & at its start alone, ; at its end alone -/
def IsRef (w : List Nat) : Prop := ∃ u, w = 38 :: (u ++ [59]) ∧ 38 ∉ u ∧ 59 ∉ u
def Good (w : List Nat) : Prop := (∃ e, w = [e] ∧ e ≠ 38) ∨ IsRef w
/-- one stage of reading -/
def stage (R : Nat → List Nat) (y z : List Nat) (d : Nat) : List Nat := if R d = y then z else R d
theorem rep_pass {y z L : List Nat} (hy : IsRef y) : ∀ {S : List Nat}, 38 ∉ S → rep y z 0 (S ++ L) = S ++ rep y z 0 L
  | [], _ => rfl
  | c :: S, h => by
    obtain ⟨u, rfl, -, -⟩ := id hy
    have hc : c ≠ 38 := fun e => h (by rw [e]; exact List.mem_cons_self)
    have ih := rep_pass (z := z) (L := L) hy (S := S) fun q => h (List.mem_cons_of_mem _ q)
    show (if (38 :: (u ++ [59])).isPrefixOf (c :: (S ++ L)) then _ else c :: rep _ z 0 (S ++ L)) = _
    rw [if_neg, ih]
    · rfl
    · simp only [List.isPrefixOf, Bool.and_eq_true, beq_iff_eq]
      exact fun q => hc q.1.symm
theorem rep_skip {y z L : List Nat} : ∀ (u : List Nat), rep y z u.length (u ++ L) = rep y z 0 L
  | [] => rfl
  | _ :: u => rep_skip u
theorem rep_free {y z : List Nat} (hy : 59 ∈ y) : ∀ {T : List Nat}, 59 ∉ T → rep y z 0 T = T
  | [], _ => rfl
  | c :: T, h => by
    have ih := rep_free (z := z) hy (T := T) fun q => h (List.mem_cons_of_mem _ q)
    show (if y.isPrefixOf (c :: T) then _ else c :: rep y z 0 T) = _
    rw [if_neg, ih]
    intro q
    exact h ((List.isPrefixOf_iff_prefix.mp q).subset hy)
theorem ref_prefix {y w L : List Nat} (hy : IsRef y) (hw : IsRef w) (h : y <+: w ++ L) : w = y := by
  obtain ⟨u, rfl, -, hu⟩ := hy
  obtain ⟨v, rfl, -, hv⟩ := hw
  obtain ⟨K, hK⟩ := h
  have e : ∀ (a k : List Nat), 59 ∉ a → (38 :: (a ++ [59]) ++ k).takeWhile (fun c => decide (c ≠ 59)) = 38 :: a := by
    intro a k ha
    have e1 : 38 :: (a ++ [59]) ++ k = (38 :: a) ++ (59 :: k) := by simp
    have ha' : ∀ c ∈ (38 :: a : List Nat), decide (c ≠ 59) = true := by
      intro c hc
      rcases List.mem_cons.mp hc with rfl | hc
      · decide
      · have : c ≠ 59 := fun q => ha (q ▸ hc)
        simpa using this
    have key : ∀ (b : List Nat), (∀ c ∈ b, decide (c ≠ 59) = true) → (b ++ 59 :: k).takeWhile (fun c => decide (c ≠ 59)) = b := by
      intro b
      induction b with
      | nil => intro _; rfl
      | cons c b ih =>
        intro hb
        rw [List.cons_append, List.takeWhile_cons, if_pos (hb c List.mem_cons_self), ih fun c hc => hb c (List.mem_cons_of_mem _ hc)]
    rw [e1, key _ ha']
  have h1 := e u K hu
  rw [hK, e v L hv] at h1
  injection h1 with _ h2
  rw [h2]
theorem rep_word {y z w L : List Nat} (hy : IsRef y) (hw : Good w) : rep y z 0 (w ++ L) = (if w = y then z else w) ++ rep y z 0 L := by
  rcases hw with ⟨e, rfl, he⟩ | hw
  · have hne : ¬ [e] = y := by
      obtain ⟨u, rfl, -, -⟩ := hy
      intro q
      injection q with q _
      exact he q
    rw [if_neg hne]
    exact rep_pass hy (by simpa using fun q => he q.symm)
  · by_cases hwy : w = y
    · rw [if_pos hwy]
      subst hwy
      have hp : w.isPrefixOf (w ++ L) = true := List.isPrefixOf_iff_prefix.mpr (List.prefix_append w L)
      obtain ⟨u, rfl, -, -⟩ := hw
      show (if (38 :: (u ++ [59])).isPrefixOf (38 :: (u ++ [59] ++ L)) then z ++ rep _ z ((38 :: (u ++ [59])).length - 1) (u ++ [59] ++ L) else _) = _
      rw [if_pos (show (38 :: (u ++ [59])).isPrefixOf (38 :: (u ++ [59] ++ L)) = true from hp)]
      congr 1
      exact rep_skip (u ++ [59])
    · rw [if_neg hwy]
      have hp : ¬ y.isPrefixOf (w ++ L) = true := fun q => hwy (ref_prefix hy hw (List.isPrefixOf_iff_prefix.mp q))
      obtain ⟨u, rfl, h38, -⟩ := hw
      show (if y.isPrefixOf (38 :: (u ++ [59] ++ L)) then _ else 38 :: rep y z 0 (u ++ [59] ++ L)) = _
      rw [if_neg (show ¬ y.isPrefixOf (38 :: (u ++ [59] ++ L)) = true from hp), rep_pass hy (S := u ++ [59]) (by simpa using h38)]
      rfl
theorem rep_words {y z T : List Nat} {R : Nat → List Nat} (hy : IsRef y) (hR : ∀ d, Good (R d)) : ∀ X : List Nat, rep y z 0 (X.flatMap R ++ T) = X.flatMap (stage R y z) ++ rep y z 0 T
  | [] => rfl
  | d :: X => by
    rw [List.flatMap_cons, List.flatMap_cons, List.append_assoc, rep_word hy (hR d), rep_words hy hR X, List.append_assoc]
    rfl
/-- a window: what is cut at its head, the signs, what is begun at its end -/
theorem rep_window {y z S T X : List Nat} {R : Nat → List Nat} (hy : IsRef y) (hR : ∀ d, Good (R d)) (hS : 38 ∉ S) (hT : 59 ∉ T) :
    rep y z 0 (S ++ (X.flatMap R ++ T)) = S ++ (X.flatMap (stage R y z) ++ T) := by
  have h59 : 59 ∈ y := by obtain ⟨u, rfl, -, -⟩ := hy; simp
  rw [rep_pass hy hS, rep_words hy hR, rep_free h59 hT]
theorem good_stage {R : Nat → List Nat} {y : List Nat} {e : Nat} (he : e ≠ 38) (hR : ∀ d, Good (R d)) (d : Nat) : Good (stage R y [e] d) := by
  unfold stage
  split
  · exact Or.inl ⟨e, rfl, he⟩
  · exact hR d
end Mine

end
section
open PySem PySem.W PyProof.Rows
namespace Mine
noncomputable abbrev LS : List Str := looseW hd.view_39 [Str.ofString "escape", Str.ofString "unescape", Str.ofString "bisect_right", Str.ofString "bisect_left"]
abbrev Tel (r : Nat) (w : World) (mean : ExcName → Option Value) (mg mb : Str → Option Value) (f : Addr) (news : List (Addr × Obj)) (vs : List Value) (R : Tok → Value) : Prop :=
  ∀ (dp un : Nat) (gd : Option (List Code)) (cn : Str) (cs : Scope) (a : Addr) (ccd : Value) (cl : List (Str × Addr)) (outer : List Env) (A₀ : Around) (base h₀ : Heap) (L : Addr) (m : Str → Option Value) (s : Shared) (Q E : Value → Shared → Prop),
    Below A₀ base outer h₀ → Fr h₀ L s.heap m → (hd.heap_39 w.params).In h₀ → News h₀ L s.heap news → Top hd.view_39 LS mean mg mb h₀ → cs.kind = .function →
      dp + r < recursionLimit → un + 10 * r < cLine → CbRet h₀ L m news s Q R →
      wpAny (model PySem.Challenge.rw_il0137_01.row.prog w) (ktrTop dp un gd cn cs L a ccd cl outer) (call (.ref f) vs) Q E s

theorem gentoks {α : Type} {M : Model} {A : Around} {t : Sem α} {Q : α → Shared → Prop} {E : Value → Shared → Prop} {h : Heap} {g : Array GenState} {d : Drawn} {a b : Nat} {o : OsState} (hn : 0 < a + b)
    (H : ∀ tk, 0 < tk → wpAny M A t Q E ⟨h, g, d, tk, o⟩) : wpAny M A t Q E ⟨h, g, d, a + b, o⟩ := H _ hn

theorem repl_any {prog : Program} {w : World} {A : Around} {E : Value → Shared → Prop} {s : Shared} {x y z : Str} {t u v : Tok} {Q : Value → Shared → Prop}
    (k b : Nat) (hu : @Ne Nat u 0) (hv : @Ne Nat v 0) (huv : @Ne Nat u v) (hyz : (y == z) = false) (hy : 1 ≤ y.length) (hz : z.length ≤ k) (hx : x.length ≤ b) (hk : 1 ≤ k) (hk' : k ≤ 14) (hb : b * k ≤ 1048576)
    (hq : ∀ t' k', (Txt.replace x y z).length ≤ b * k → Q (.str (Txt.replace x y z) t') { s with toks := k' }) :
    wpAny (model prog w) A (call (.builtin "str.replace") [.str x t, .str y u, .str z v]) Q E s := by
  have hl : (Txt.replace x y z).length ≤ b * k := Nat.le_trans (len_repl k hy hk hz) (Nat.mul_le_mul_right _ hx)
  refine SC.replaceW hu hv huv hyz ?_ (Nat.le_trans hz hk') (fun t' k' => hq t' k' hl)
  have : b * 1 ≤ b * k := Nat.mul_le_mul_left _ hk
  omega
end Mine

end
section
open PySem PySem.W PyProof.Rows PyProof.V
open PySem.Spec
namespace Mine
set_option pp.proofs false
local macro_rules | `(tactic| k_room) => `(tactic| ktr_room)
local macro_rules | `(tactic| walk_at "execs cons") => `(tactic| (k_here; (refine gentoks ?hn ?_); (case hn => first | omega | (with_unfolding_all exact Nat.lt_of_lt_of_le (Nat.succ_pos 1) (Nat.le_add_left 2 _))); intro tk htk))
/-- the pairs written one by one -/
def repls (kvs : List (Str × Str)) (x : Str) : Str := kvs.foldl (fun a p => Txt.replace a p.1 p.2) x
theorem repls_take {kvs : List (Str × Str)} {x k v : Str} {i : Nat} (h : kvs[i]? = some (k, v)) : repls (kvs.take (i + 1)) x = Txt.replace (repls (kvs.take i) x) k v := by
  unfold repls
  rw [List.take_add_one, h]
  simp
theorem repls_len {kvs : List (Str × Str)} (hk : ∀ p ∈ kvs, 1 ≤ p.1.length ∧ p.2.length ≤ 6) : ∀ (n : Nat) (x : Str), (repls (kvs.take n) x).length ≤ x.length * 6 ^ n := by
  intro n
  induction n with
  | zero => intro x; simp [repls]
  | succ n ih =>
    intro x
    cases h : kvs[n]? with
    | none =>
      have : kvs.take (n + 1) = kvs.take n := by rw [List.take_add_one, h]; simp
      rw [this, Nat.pow_succ]
      have := ih x
      have h2 : x.length * 6 ^ n ≤ x.length * (6 ^ n * 6) := Nat.mul_le_mul_left _ (by omega)
      omega
    | some p =>
      obtain ⟨k, v⟩ := p
      rw [repls_take h]
      have hp := hk (k, v) (List.mem_of_getElem? h)
      refine Nat.le_trans (len_repl 6 hp.1 (by omega) hp.2) ?_
      rw [Nat.pow_succ, ← Nat.mul_assoc]
      exact Nat.mul_le_mul_right _ (ih x)

theorem repls_len2 {kvs : List (Str × Str)} {x : Str} {b : Nat} (hk : ∀ p ∈ kvs, 1 ≤ p.1.length ∧ p.2.length ≤ 6) (hl : kvs.length ≤ 2) (hx : x.length ≤ b) : (repls kvs x).length ≤ b * 36 := by
  have h := repls_len hk 2 x
  rw [List.take_of_length_le hl] at h
  exact Nat.le_trans h (Nat.mul_le_mul_right _ hx)
set_option maxRecDepth 100000 in
set_option maxHeartbeats 8000000 in
theorem c_repls (w : World) (mean : ExcName → Option Value) (mg mb : Str → Option Value) (news : List (Addr × Obj)) (x : Str) (tk : Tok) (d : Addr) (o : Obj) (kvs : List (Str × Str))
   (hm : (d, o) ∈ news) (T : TTab w o kvs) (lo : (d == sysModules) = false) (hk : ∀ p ∈ kvs, 1 ≤ p.1.length ∧ p.2.length ≤ 6) (hne : ∀ p ∈ kvs, (p.1 == p.2) = false) (hl : kvs.length ≤ 2) (hx : x.length ≤ 25000) :
   Tel 1 w mean mg mb 21 news [.str x tk, .ref d] (fun t => .str (repls kvs x) t) := by
  unfold Tel CbRet
  k_fill
  intro dp un gd cn cs a ccd cl outer A₀ base h₀ L m s Q E B F KX N Tp hkf hdp hun hret
  w_on
  refine wpAny_call ?_
  k_dflt (refine' code_def ?k1 ?k2 ?k3 ?k4 ?k5 ?kA ?kF ?kK ?k6 ?k7 ?k8 ?k9 ?kB ?_ ?c2 ?c3 ?c4 ?c5; (case kA => exact rfl); (case kF => exact rfl); (case kK => first | exact rfl | assumption); (case k1 => k_asm); (case k2 => k_asm); (case k3 => k_asm); (case k4 => k_asm); (case k5 => k_asm); (case k6 => k_is); (case k7 => k_is); (case k8 => k_room); (case k9 => first | exact BindsTo.of_eq rfl | exact binds_K (by k_in) rfl (by k_is) rfl rfl rfl); (case c5 => decide); (case kB => exact locs rfl); (case c2 => exact rfl); (case c3 => exact rfl); (case c4 => exact rfl); k_whole; intro g' L' h' FG' F' N' B' X' T'; (try dsimp only); (try k_lift B'); (try k_fold))
  walk1
  walk1
  refine For_turns F' ?_
  obtain ⟨kvv, hdd, -⟩ := T.dict (prog := PySem.Challenge.rw_il0137_01.row.prog)
  with_unfolding_all refine MethodCall_ ?_
  with_unfolding_all refine ld F' (by rfl) ?_
  refine kdl_method (knd := PySem.strKind _ _) PySem.F.slot_dict_items PySem.F.type_dict_items N' hm hdd ?_
  refine callWith_method0 ?_
  refine kta_callItems (knd := PySem.strKind _ _) F' N' hm hdd lo ?_
  intro h₂ hv F₂ N₂
  refine tok_iter (o := o) (kvs := kvs) (by rfl) (by rfl) (by rfl) (by rfl) F₂ N₂ hv hm T (fun i m' => ∃ (t : Tok) (m'' : Str → Option Value), m' = (fun y => if y = Str.ofString "s" then some (.str (repls (kvs.take i) x) t) else m'' y)) ?_ ?_ ?_
  · exact ⟨tk, _, m_split rfl⟩
  · rintro i k v t u h₁ tk₁ m₁ wr own hkv ht hu htu ⟨t0, m'', rfl⟩ hwr F₃ N₃
    clear F' F₂ N₂ N'
    have hkv' := hk (k, v) (List.mem_of_getElem? hkv)
    have hi : i < kvs.length := (List.getElem?_eq_some_iff.mp hkv).1
    have hlen : (repls (kvs.take i) x).length ≤ 150000 := by
      refine Nat.le_trans (repls_len hk i x) ?_
      have : i = 0 ∨ i = 1 := by omega
      rcases this with rfl | rfl <;> omega
    k_steps
    all_goals (dsimp only [List.cons_append, List.nil_append])
    refine repl_any 6 150000 ht hu htu (hne (k, v) (List.mem_of_getElem? hkv)) hkv'.1 hkv'.2 hlen (by decide) (by decide) (by decide) ?_
    intro t' k' _
    k_steps
    exact LoopStepU.intro (by k_asm) (by k_asm) hwr ⟨rfl, t', m_next (by rw [repls_take hkv])⟩
  · rintro h₃ tk₃ m₃ F₃ N₃ ⟨t0, m'', rfl⟩
    clear F' F₂ N₂ N'
    rw [List.take_length] at F₃
    k_steps
    exact hret _ _ _ (by k_asm) (by k_asm)
end Mine

end
section
open PySem PySem.W PyProof.Rows PyProof.V
open PySem.Spec
namespace Mine
set_option pp.proofs false
local macro_rules | `(tactic| k_room) => `(tactic| ktr_room)
local macro_rules | `(tactic| walk_at "execs cons") => `(tactic| (k_here; (refine gentoks ?hn ?_); (case hn => first | omega | (with_unfolding_all exact Nat.lt_of_lt_of_le (Nat.succ_pos 1) (Nat.le_add_left 2 _))); intro tk htk))
local macro_rules | `(tactic| walk_at "execs nil") => `(tactic| (k_here; (refine gentoks ?hn ?_); (case hn => first | omega | (with_unfolding_all exact Nat.lt_of_lt_of_le (Nat.succ_pos 1) (Nat.le_add_left 2 _))); intro tk htk))
local macro_rules | `(tactic| walk_at "call builtin:str.replace") => `(tactic| ((with_reducible rename (Str.length _ ≤ _) => hx); (dsimp only [List.cons_append, List.nil_append]); (refine repl_any 6 _ ?k1 ?k2 ?k3 ?k4 ?k5 ?k6 hx (by decide) (by decide) (by decide) ?_); (case k1 => omega); (case k2 => omega); (case k3 => omega); (case k4 => decide); (case k5 => decide); (case k6 => decide); (intro t' k' hx')))
local macro_rules | `(tactic| walk_at "truthy ref") => `(tactic| ((with_reducible rename (TTab _ _ _) => hT); k_dflt (refine truthy_tab (knd := PySem.strKind _ _) (enc := PyData.str) (hT.tab (by k_asm) (by assumption) (by assumption)) ?hfit ?_); (case hfit => (simp only [List.length_map]; omega))))
local macro_rules | `(tactic| walk_at "call ref") => `(tactic| ((with_reducible show wpAny _ _ (call (Value.ref 21) _) _ _ _); k_dflt (refine' c_repls _ _ _ _ _ _ _ _ _ _ ?m ?T ?lo ?hk ?hne ?hl ?hx _ _ _ _ _ _ _ _ _ _ _ _ _ _ _ _ _ ?k1 ?k2 ?k3 ?k4 ?k5 ?kK ?kd ?ku ?_); (case k1 => k_asm); (case k2 => k_asm); (case k3 => k_asm); (case k4 => k_asm); (case k5 => k_asm); (case kK => first | exact rfl | assumption); (case kd => ktr_room); (case ku => ktr_units); (case m => assumption); (case T => assumption); (case lo => assumption); (case hk => assumption); (case hne => assumption); (case hl => assumption); (case hx => omega); (with_reducible rename (Str.length _ ≤ _) => hx); (have hx9 := repls_len2 (by assumption) (by assumption) hx); (intro t9 h9 tk9 F9 N9); (try dsimp only); (try k_fold)))

def esc3 (x : Str) : Str := Txt.replace (Txt.replace (Txt.replace x (Str.ofString "&") (Str.ofString "&amp;")) (Str.ofString ">") (Str.ofString "&gt;")) (Str.ofString "<") (Str.ofString "&lt;")
def escS (kvs : List (Str × Str)) (x : Str) : Str := repls kvs (esc3 x)
def une2 (x : Str) : Str := Txt.replace (Txt.replace x (Str.ofString "&lt;") (Str.ofString "<")) (Str.ofString "&gt;") (Str.ofString ">")
def uneS (kvs : List (Str × Str)) (x : Str) : Str := Txt.replace (repls kvs (une2 x)) (Str.ofString "&amp;") (Str.ofString "&")

set_option maxRecDepth 100000 in
set_option maxHeartbeats 8000000 in
theorem c_escape (w : World) (mean : ExcName → Option Value) (mg mb : Str → Option Value) (news : List (Addr × Obj)) (x : Str) (tk : Tok) (d : Addr) (o : Obj) (kvs : List (Str × Str))
   (hm : (d, o) ∈ news) (T : TTab w o kvs) (lo : (d == sysModules) = false) (hk : ∀ p ∈ kvs, 1 ≤ p.1.length ∧ p.2.length ≤ 6) (hne : ∀ p ∈ kvs, (p.1 == p.2) = false) (hl : kvs.length ≤ 2) (hx : x.length ≤ 100) :
   Tel 2 w mean mg mb 30 news [.str x tk, .ref d] (fun t => .str (escS kvs x) t) := by
  unfold Tel CbRet
  k_fill
  intro dp un gd cn cs a ccd cl outer A₀ base h₀ L m s Q E B F KX N Tp hkf hdp hun hret
  w_on
  refine wpAny_call ?_
  k_dflt (refine' code_def ?k1 ?k2 ?k3 ?k4 ?k5 ?kA ?kF ?kK ?k6 ?k7 ?k8 ?k9 ?kB ?_ ?c2 ?c3 ?c4 ?c5; (case kA => exact rfl); (case kF => exact rfl); (case kK => first | exact rfl | assumption); (case k1 => k_asm); (case k2 => k_asm); (case k3 => k_asm); (case k4 => k_asm); (case k5 => k_asm); (case k6 => k_is); (case k7 => k_is); (case k8 => k_room); (case k9 => first | exact BindsTo.of_eq rfl | exact binds_K (by k_in) rfl (by k_is) rfl rfl rfl); (case c5 => decide); (case kB => exact locs rfl); (case c2 => exact rfl); (case c3 => exact rfl); (case c4 => exact rfl); k_whole; intro g' L' h' FG' F' N' B' X' T'; (try dsimp only); (try k_lift B'); (try k_fold))
  k_steps
  · with_reducible rename (List.isEmpty _ = true) => hE
    have e : kvs = [] := by simpa using hE
    subst e
    exact hret _ _ _ (by k_asm) (by k_asm)
  · exact hret _ _ _ (by k_asm) (by k_asm)

set_option maxRecDepth 100000 in
set_option maxHeartbeats 8000000 in
theorem c_unescape (w : World) (mean : ExcName → Option Value) (mg mb : Str → Option Value) (news : List (Addr × Obj)) (x : Str) (tk : Tok) (d : Addr) (o : Obj) (kvs : List (Str × Str))
   (hm : (d, o) ∈ news) (T : TTab w o kvs) (lo : (d == sysModules) = false) (hk : ∀ p ∈ kvs, 1 ≤ p.1.length ∧ p.2.length ≤ 6) (hne : ∀ p ∈ kvs, (p.1 == p.2) = false) (hl : kvs.length ≤ 2) (hx : x.length ≤ 100) :
   Tel 2 w mean mg mb 39 news [.str x tk, .ref d] (fun t => .str (uneS kvs x) t) := by
  unfold Tel CbRet
  k_fill
  intro dp un gd cn cs a ccd cl outer A₀ base h₀ L m s Q E B F KX N Tp hkf hdp hun hret
  w_on
  refine wpAny_call ?_
  k_dflt (refine' code_def ?k1 ?k2 ?k3 ?k4 ?k5 ?kA ?kF ?kK ?k6 ?k7 ?k8 ?k9 ?kB ?_ ?c2 ?c3 ?c4 ?c5; (case kA => exact rfl); (case kF => exact rfl); (case kK => first | exact rfl | assumption); (case k1 => k_asm); (case k2 => k_asm); (case k3 => k_asm); (case k4 => k_asm); (case k5 => k_asm); (case k6 => k_is); (case k7 => k_is); (case k8 => k_room); (case k9 => first | exact BindsTo.of_eq rfl | exact binds_K (by k_in) rfl (by k_is) rfl rfl rfl); (case c5 => decide); (case kB => exact locs rfl); (case c2 => exact rfl); (case c3 => exact rfl); (case c4 => exact rfl); k_whole; intro g' L' h' FG' F' N' B' X' T'; (try dsimp only); (try k_lift B'); (try k_fold))
  k_steps
  · with_reducible rename (List.isEmpty _ = true) => hE
    have e : kvs = [] := by simpa using hE
    subst e
    exact hret _ _ _ (by k_asm) (by k_asm)
  · exact hret _ _ _ (by k_asm) (by k_asm)
end Mine

end
section
open PySem PySem.W PyProof.Rows PyProof.V
open PySem.Spec
namespace Mine
set_option pp.proofs false
def STOP (P : Prop) : Prop := P
theorem stop_here {P : Prop} (h : STOP P) : P := h
def base3 : List (Str × Str) := [(Str.ofString "&", Str.ofString "&amp;"), (Str.ofString "<", Str.ofString "&lt;"), (Str.ofString ">", Str.ofString "&gt;")]
local macro_rules | `(tactic| k_room) => `(tactic| ktr_room)
def refOf (pairs : List (Str × Str)) (x : Str) : Str := match pairs.find? (fun p => decide (p.1 = x)) with
  | some p => p.2
  | none => x
theorem refOf_hit {pairs : List (Str × Str)} {x k v : Str} {i : Nat} (h : pairs[i]? = some (k, v)) (e : k = x) (hno : ∀ p ∈ pairs.take i, p.1 ≠ x) : refOf pairs x = v := by
  subst e
  have hi : i < pairs.length := (List.getElem?_eq_some_iff.mp h).1
  have : pairs.find? (fun p => decide (p.1 = k)) = some (k, v) := by
    rw [List.find?_eq_some_iff_getElem]
    refine ⟨by simp, i, hi, ?_, fun j hj => ?_⟩
    · have := List.getElem?_eq_getElem hi
      rw [this] at h; exact Option.some.inj h
    · have : pairs[j] ∈ pairs.take i := by
        rw [List.mem_take_iff_getElem]
        exact ⟨j, by omega, rfl⟩
      simpa using hno _ this
  unfold refOf
  rw [this]
theorem refOf_miss {pairs : List (Str × Str)} {x : Str} (hno : ∀ p ∈ pairs, p.1 ≠ x) : refOf pairs x = x := by
  have : pairs.find? (fun p => decide (p.1 = x)) = none := by
    rw [List.find?_eq_none]
    intro p hp
    simpa using hno p hp
  unfold refOf
  rw [this]
set_option maxRecDepth 100000 in
set_option maxHeartbeats 1000000 in
theorem c_written (w : World) (mean : ExcName → Option Value) (mg mb : Str → Option Value) (news : List (Addr × Obj)) (x : Str) (tx : Tok) (d : Addr) (o : Obj) (kvs : List (Str × Str))
   (hm : (d, o) ∈ news) (T : TTab w o kvs) (lo : (d == sysModules) = false) (hl : kvs.length ≤ 2) :
   Tel 1 w mean mg mb 64 news [.str x tx, .ref d] (fun t => .str (refOf (base3 ++ kvs) x) t) := by
  unfold Tel CbRet
  k_fill
  intro dp un gd cn cs a ccd cl outer A₀ base h₀ L m s Q E B F KX N Tp hkf hdp hun hret
  obtain ⟨kvv, hdd, -⟩ := T.dict (prog := PySem.Challenge.rw_il0137_01.row.prog)
  w_on
  refine wpAny_call ?_
  k_dflt (refine' code_def ?k1 ?k2 ?k3 ?k4 ?k5 ?kA ?kF ?kK ?k6 ?k7 ?k8 ?k9 ?kB ?_ ?c2 ?c3 ?c4 ?c5; (case kA => exact rfl); (case kF => exact rfl); (case kK => first | exact rfl | assumption); (case k1 => k_asm); (case k2 => k_asm); (case k3 => k_asm); (case k4 => k_asm); (case k5 => k_asm); (case k6 => k_is); (case k7 => k_is); (case k8 => k_room); (case k9 => first | exact BindsTo.of_eq rfl | exact binds_K (by k_in) rfl (by k_is) rfl rfl rfl); (case c5 => decide); (case kB => exact locs rfl); (case c2 => exact rfl); (case c3 => exact rfl); (case c4 => exact rfl); k_whole; intro g' L' h' FG' F' N' B' X' T'; (try dsimp only); (try k_lift B'); (try k_fold))
  walk1
  walk1
  refine For_turns F' ?_
  walk1
  refine disp3 (a := (Str.ofString "&", Str.ofString "&amp;")) (b := (Str.ofString "<", Str.ofString "&lt;")) (c := (Str.ofString ">", Str.ofString "&gt;")) F' N' ?_
  intro D₁ h₁ tk₁ tl₁ acc₁ c₁ F₁ N₁ A₁ z₁
  clear F' N'
  walk1
  walk1
  walk1
  walk1
  have mem1 : ∀ p ∈ news, p ∈ (D₁, ({ cls := .type "list", data := .seq acc₁ c₁ } : Obj)) :: (tl₁ ++ news) := fun p hp => List.mem_cons_of_mem _ (List.mem_append_right _ hp)
  with_unfolding_all refine MethodCall_ ?_
  with_unfolding_all refine ld F₁ (by rfl) ?_
  refine kdl_method (knd := PySem.strKind _ _) PySem.F.slot_dict_items PySem.F.type_dict_items N₁ (mem1 _ hm) hdd ?_
  refine callWith_method0 ?_
  refine kta_callItems (knd := PySem.strKind _ _) F₁ N₁ (mem1 _ hm) hdd lo ?_
  intro h₂ hv F₂ N₂
  walk1
  refine list_items (by rfl) F₂ N₂ hv (mem1 _ hm) T (by omega) ?_
  intro D₃ h₃ tk₃ tl₃ acc₃ c₃ F₃ N₃ A₃
  have hz₃ : acc₃.size = kvs.length := by rw [← A₃.length]; simp
  refine add_arrays F₃ N₃ (News.isList N₃ (List.mem_cons_of_mem _ (List.mem_append_right _ (.head _)))) (News.isList N₃ (.head _)) ?_ (by rw [z₁, hz₃, sizeLine_eq]; omega)
  intro h₄ F₄ N₄
  refine pairs_iter (pairs := base3 ++ kvs) (by rfl) (by rfl) (by rfl) (by rfl) F₄ N₄ (.head _) ?_ (by rw [List.size_toArray, List.length_append, Array.length_toList, Array.length_toList, z₁, hz₃, sizeLine_eq]; omega)
    (fun i m' => (∃ (m'' : Str → Option Value), m' = (fun y => if y = Str.ofString "sign" then some (.str x tx) else m'' y)) ∧ ∀ p ∈ (base3 ++ kvs).take i, p.1 ≠ x) ?_ ?_ ?_
  · rw [List.toList_toArray]
    refine All2.append (A₁.mono ?_) (A₃.mono ?_)
    · rintro v p ⟨a, t, u, rfl, hp⟩
      exact ⟨a, t, u, rfl, by simp [hp]⟩
    · rintro v p ⟨a, t, u, rfl, hp⟩
      exact ⟨a, t, u, rfl, by simp [hp]⟩
  · exact ⟨⟨_, m_split rfl⟩, by simp⟩
  · rintro i k v t u h₅ tk₅ m₁ wr own hkv ⟨⟨m'', rfl⟩, hno⟩ hwr F₅ N₅
    clear F₁ N₁ F₂ N₂ F₃ N₃ F₄ N₄
    k_steps
    · (with_reducible rename (_ = true) => hE)
      have e : k = x := (eq_of_beq hE).symm
      refine LoopStepV.ret ?_
      k_steps
      have q := hret u h₅ tk₅ (by k_asm) (by with_reducible rename (News _ _ _ _) => kN; exact cb_drop kN (fun p hp => by simp [hp]))
      rw [refOf_hit hkv e hno] at q
      exact q
    · (with_reducible rename (_ = false) => hE)
      have e : ¬ k = x := fun q => by rw [q] at hE; simp at hE
      refine LoopStepU.intro (by k_asm) (by k_asm) hwr ⟨rfl, ⟨_, m_split rfl⟩, ?_⟩
      intro p hp
      rw [List.take_add_one, hkv] at hp
      rcases List.mem_append.mp hp with hp | hp
      · exact hno p hp
      · simp only [Option.toList_some, List.mem_singleton] at hp
        rw [hp]; exact e
  · rintro h₅ tk₅ m₁ F₅ N₅ ⟨⟨m'', rfl⟩, hno⟩
    clear F₁ N₁ F₂ N₂ F₃ N₃ F₄ N₄
    k_steps
    rw [List.take_length] at hno
    have e := refOf_miss hno
    have q := hret tx h₅ tk₅ (by k_asm) (by with_reducible rename (News _ _ _ _) => kN; exact cb_drop kN (fun p hp => by simp [hp]))
    rw [e] at q
    exact q
end Mine

end
section
open PySem PySem.W PyProof.Rows PyProof.V
open PySem.Spec
namespace Mine
set_option pp.proofs false
theorem m_split2 {m : Str → Option Value} {n1 n2 : Str} {v1 v2 : Value} (h1 : m n1 = some v1) (h2 : m n2 = some v2) :
    m = fun y => if y = n1 then some v1 else if y = n2 then some v2 else m y := by
  funext y
  by_cases e1 : y = n1
  · rw [if_pos e1, e1, h1]
  · rw [if_neg e1]
    by_cases e2 : y = n2
    · rw [if_pos e2, e2, h2]
    · rw [if_neg e2]
theorem m_split4 {m : Str → Option Value} {n1 n2 n3 n4 : Str} {v1 v2 v3 v4 : Value} (h1 : m n1 = some v1) (h2 : m n2 = some v2) (h3 : m n3 = some v3) (h4 : m n4 = some v4) :
    m = fun y => if y = n1 then some v1 else if y = n2 then some v2 else if y = n3 then some v3 else if y = n4 then some v4 else m y := by
  funext y
  by_cases e1 : y = n1
  · rw [if_pos e1, e1, h1]
  · rw [if_neg e1]
    by_cases e2 : y = n2
    · rw [if_pos e2, e2, h2]
    · rw [if_neg e2]
      by_cases e3 : y = n3
      · rw [if_pos e3, e3, h3]
      · rw [if_neg e3]
        by_cases e4 : y = n4
        · rw [if_pos e4, e4, h4]
        · rw [if_neg e4]
local macro_rules | `(tactic| k_room) => `(tactic| ktr_room)
local macro_rules | `(tactic| walk_at "exec While") => `(tactic| (refine stop_here ?_))
set_option maxRecDepth 100000 in
set_option maxHeartbeats 1000000 in
theorem c_left (w : World) (mean : ExcName → Option Value) (mg mb : Str → Option Value) (news : List (Addr × Obj)) (x : Int) (tx : Tok) (ax : Addr) (vs : List Value) (c : Nat) (ns : List Int)
   (hm : (ax, ({ cls := .type "list", data := .seq vs.toArray c } : Obj)) ∈ news) (hI : IntsAre vs ns) (hl : ns.length ≤ 1000) (hs : ns.Pairwise (· ≤ ·)) :
   Tel 1 w mean mg mb 57 news [.ref ax, .int x tx] (fun t => .int (below ns x) t) := by
  unfold Tel CbRet
  k_fill
  intro dp un gd cn cs a ccd cl outer A₀ base h₀ L m s Q E B F KX N Tp hkf hdp hun hret
  w_on
  refine wpAny_call ?_
  k_dflt (refine' code_def ?k1 ?k2 ?k3 ?k4 ?k5 ?kA ?kF ?kK ?k6 ?k7 ?k8 ?k9 ?kB ?_ ?c2 ?c3 ?c4 ?c5; (case kA => exact rfl); (case kF => exact rfl); (case kK => first | exact rfl | assumption); (case k1 => k_asm); (case k2 => k_asm); (case k3 => k_asm); (case k4 => k_asm); (case k5 => k_asm); (case k6 => k_is); (case k7 => k_is); (case k8 => k_room); (case k9 => (refine' kp_binds ?kx ?ke; (case kx => k_in); (case ke => exact fun _ => rfl))); (case c5 => decide); (case kB => exact locs rfl); (case c2 => exact rfl); (case c3 => exact rfl); (case c4 => exact rfl); k_whole; intro g' L' h' FG' F' N' B' X' T'; (try dsimp only); (try k_lift B'); (try k_fold))
  have hlen := hI.length
  k_steps
  refine Calls.call_len_list (N'.isList hm) (by rw [List.size_toArray]; omega) ?_
  k_steps
  unfold STOP
  refine While_inv (J := fun n m' news' => news' = news ∧ ∃ (lo hi : Int) (t1 t2 : Tok) (m'' : Str → Option Value), m' = (fun y => if y = Str.ofString "lo" then some (.int lo t1) else if y = Str.ofString "hi" then some (.int hi t2) else if y = Str.ofString "a" then some (.ref ax) else if y = Str.ofString "x" then some (.int x tx) else m'' y) ∧
    Bs (fun v => decide (v < x)) ns lo hi ∧ n = (hi - lo).toNat) (n₀ := ns.length) (by k_asm) (by k_asm) ?_ ?_
  · refine ⟨rfl, 0, (vs.toArray.size : Int), _, _, _, m_split4 rfl rfl rfl rfl, ?_⟩
    rw [List.size_toArray, hlen]
    exact ⟨Bs.start _ _, by omega⟩
  · rintro n m₁ news₁ h₁ tk₁ F₁ N₁ ⟨rfl, lo, hj, t1, t2, m'', rfl, hbs, rfl⟩
    have h0 := hbs.h0
    have h1 := hbs.h1
    have h2 := hbs.h2
    k_steps
    · (with_reducible rename (_ < hj) => hlt)
      (with_reducible rename (List.getD _ _ _ < x) => hv)
      have hq := hbs.low hs (fun u v huv h => by simp at h ⊢; omega) hlt (by simpa using hv)
      exact WhileStep.intro (by k_asm) (by k_asm) hq.2 ⟨rfl, _, _, _, _, _, m_split4 rfl rfl rfl rfl, hq.1, rfl⟩
    · (with_reducible rename (_ < hj) => hlt)
      (with_reducible rename (¬ List.getD _ _ _ < x) => hv)
      have hq := hbs.high hs (fun u v huv h => by simp at h ⊢; omega) hlt (by simpa using hv)
      exact WhileStep.intro (by k_asm) (by k_asm) hq.2 ⟨rfl, _, _, _, _, _, m_split4 rfl rfl rfl rfl, hq.1, rfl⟩
    · (with_reducible rename (¬ _ < hj) => hlt)
      have hq := hbs.done hlt
      have q := hret t1 h₁ tk₁ (by k_asm) (by k_asm)
      unfold Mine.below at q
      rw [hq] at q
      exact q
set_option maxRecDepth 100000 in
set_option maxHeartbeats 1000000 in
theorem c_right (w : World) (mean : ExcName → Option Value) (mg mb : Str → Option Value) (news : List (Addr × Obj)) (x : Int) (tx : Tok) (ax : Addr) (vs : List Value) (c : Nat) (ns : List Int)
   (hm : (ax, ({ cls := .type "list", data := .seq vs.toArray c } : Obj)) ∈ news) (hI : IntsAre vs ns) (hl : ns.length ≤ 1000) (hs : ns.Pairwise (· ≤ ·)) :
   Tel 1 w mean mg mb 48 news [.ref ax, .int x tx] (fun t => .int (upto ns x) t) := by
  unfold Tel CbRet
  k_fill
  intro dp un gd cn cs a ccd cl outer A₀ base h₀ L m s Q E B F KX N Tp hkf hdp hun hret
  w_on
  refine wpAny_call ?_
  k_dflt (refine' code_def ?k1 ?k2 ?k3 ?k4 ?k5 ?kA ?kF ?kK ?k6 ?k7 ?k8 ?k9 ?kB ?_ ?c2 ?c3 ?c4 ?c5; (case kA => exact rfl); (case kF => exact rfl); (case kK => first | exact rfl | assumption); (case k1 => k_asm); (case k2 => k_asm); (case k3 => k_asm); (case k4 => k_asm); (case k5 => k_asm); (case k6 => k_is); (case k7 => k_is); (case k8 => k_room); (case k9 => (refine' kp_binds ?kx ?ke; (case kx => k_in); (case ke => exact fun _ => rfl))); (case c5 => decide); (case kB => exact locs rfl); (case c2 => exact rfl); (case c3 => exact rfl); (case c4 => exact rfl); k_whole; intro g' L' h' FG' F' N' B' X' T'; (try dsimp only); (try k_lift B'); (try k_fold))
  have hlen := hI.length
  k_steps
  refine Calls.call_len_list (N'.isList hm) (by rw [List.size_toArray]; omega) ?_
  k_steps
  unfold STOP
  refine While_inv (J := fun n m' news' => news' = news ∧ ∃ (lo hi : Int) (t1 t2 : Tok) (m'' : Str → Option Value), m' = (fun y => if y = Str.ofString "lo" then some (.int lo t1) else if y = Str.ofString "hi" then some (.int hi t2) else if y = Str.ofString "a" then some (.ref ax) else if y = Str.ofString "x" then some (.int x tx) else m'' y) ∧
    Bs (fun v => !decide (x < v)) ns lo hi ∧ n = (hi - lo).toNat) (n₀ := ns.length) (by k_asm) (by k_asm) ?_ ?_
  · refine ⟨rfl, 0, (vs.toArray.size : Int), _, _, _, m_split4 rfl rfl rfl rfl, ?_⟩
    rw [List.size_toArray, hlen]
    exact ⟨Bs.start _ _, by omega⟩
  · rintro n m₁ news₁ h₁ tk₁ F₁ N₁ ⟨rfl, lo, hj, t1, t2, m'', rfl, hbs, rfl⟩
    have h0 := hbs.h0
    have h1 := hbs.h1
    have h2 := hbs.h2
    k_steps
    · (with_reducible rename (_ < hj) => hlt)
      (with_reducible rename (x < List.getD _ _ _) => hv)
      have hq := hbs.high hs (fun u v huv h => by simp at h ⊢; omega) hlt (by simpa using hv)
      exact WhileStep.intro (by k_asm) (by k_asm) hq.2 ⟨rfl, _, _, _, _, _, m_split4 rfl rfl rfl rfl, hq.1, rfl⟩
    · (with_reducible rename (_ < hj) => hlt)
      (with_reducible rename (¬ x < List.getD _ _ _) => hv)
      have hq := hbs.low hs (fun u v huv h => by simp at h ⊢; omega) hlt (by simpa using hv)
      exact WhileStep.intro (by k_asm) (by k_asm) hq.2 ⟨rfl, _, _, _, _, _, m_split4 rfl rfl rfl rfl, hq.1, rfl⟩
    · (with_reducible rename (¬ _ < hj) => hlt)
      have hq := hbs.done hlt
      have q := hret t1 h₁ tk₁ (by k_asm) (by k_asm)
      unfold upto at q
      rw [hq] at q
      exact q
end Mine

end
section
open PySem PySem.W PyProof.Rows PyProof.V
open PySem.Spec
namespace Mine
abbrev map4 (n1 n2 n3 n4 : Str) (v1 v2 v3 v4 : Value) (m'' : Str → Option Value) : Str → Option Value :=
  fun y => if y = n1 then some v1 else if y = n2 then some v2 else if y = n3 then some v3 else if y = n4 then some v4 else m'' y
section
variable {prog : Program} {w : World} {A : Around} {E : Value → Shared → Prop} {s : Shared} {env : Env} {h₀ : Heap} {body : List Stmt} {Q : Flow → Shared → Prop}
theorem range_iter4 {a : Str} {pa : Pos} {r : Addr} {j : Int} {n : Nat} {t u v : Tok} {m : Str → Option Value} {news : List (Addr × Obj)} (n1 n2 n3 n4 : Str) {v1 v2 v3 v4 : Value}
    (hh : A.handled = none) (ha : env.kindOf a = some .local) (hp : (env.scope.kind == .class || (env.scope.kind == .module && env.locals != env.globals)) = false)
    (F : Fr h₀ env.locals s.heap m) (N : News h₀ env.locals s.heap news) (hr : IsRange s.heap r 0 j 1 t u v) (hsm : Builtin.Range.small 0 j 1 = true) (hn : Builtin.Range.rangeSize 0 j 1 = ((n : Nat) : Int))
    (h1 : m n1 = some v1) (h2 : m n2 = some v2) (h3 : m n3 = some v3) (h4 : m n4 = some v4)
    (step : ∀ (i : Nat) t h₁ tk m'' (wr : List Addr) own, i < n → (∀ p ∈ news, p.1 ∉ wr) →
      Fr h₀ env.locals h₁ (fun z => if z = a then some (.int (i : Int) t) else map4 n1 n2 n3 n4 v1 v2 v3 v4 m'' z) → News h₀ env.locals h₁ (own ++ news) →
      wpAny (model prog w) A (execs body env) (LoopStepV h₀ env.locals wr own (fun m' n' => n' = news ∧ ∃ m'' : Str → Option Value, m' = map4 n1 n2 n3 n4 v1 v2 v3 v4 m'') { s with heap := h₁, toks := tk } (fun v s' => Q (.ret v) s') fun s' => Q .next s') E { s with heap := h₁, toks := tk })
    (fin : ∀ h' tk m'', Fr h₀ env.locals h' (map4 n1 n2 n3 n4 v1 v2 v3 v4 m'') → News h₀ env.locals h' news → Q .next { s with heap := h', toks := tk }) :
    wpAny (model prog w) A (pyIter (.ref r)) (fun it s₂ => TurnsAt prog w A h₀ env (.Name a pa) body Q E it s₂) E s := by
  refine range_iter hh ha hp F N hr hsm hn (fun _ m' => ∃ m'' : Str → Option Value, m' = map4 n1 n2 n3 n4 v1 v2 v3 v4 m'') ⟨m, m_split4 h1 h2 h3 h4⟩ ?_ ?_
  · rintro i t' h₁ tk m₁ wr own hi ⟨m'', rfl⟩ hwr F₁ N₁
    exact step i t' h₁ tk m'' wr own hi hwr F₁ N₁
  · rintro h' tk m₁ F₁ N₁ ⟨m'', rfl⟩
    exact fin h' tk m'' F₁ N₁
abbrev map5 (n1 n2 n3 n4 n5 : Str) (v1 v2 v3 v4 v5 : Value) (m'' : Str → Option Value) : Str → Option Value :=
  fun y => if y = n1 then some v1 else if y = n2 then some v2 else if y = n3 then some v3 else if y = n4 then some v4 else if y = n5 then some v5 else m'' y
theorem ints_iter5 {a : Str} {pa : Pos} {ax : Addr} {c : Nat} {vs : List Value} {ns : List Int} {m : Str → Option Value} {news : List (Addr × Obj)} (n1 n2 n3 n4 n5 : Str) {v1 v2 v3 v4 v5 : Value}
    (hh : A.handled = none) (ha : env.kindOf a = some .local) (hp : (env.scope.kind == .class || (env.scope.kind == .module && env.locals != env.globals)) = false)
    (F : Fr h₀ env.locals s.heap m) (N : News h₀ env.locals s.heap news) (hm : (ax, ({ cls := .type "list", data := .seq vs.toArray c } : Obj)) ∈ news) (hI : IntsAre vs ns)
    (h1 : m n1 = some v1) (h2 : m n2 = some v2) (h3 : m n3 = some v3) (h4 : m n4 = some v4) (h5 : m n5 = some v5)
    (step : ∀ (i : Nat) k t h₁ tk m'' (wr : List Addr) own, ns[i]? = some k → (∀ p ∈ news, p.1 ∉ wr) →
      Fr h₀ env.locals h₁ (fun z => if z = a then some (.int k t) else map5 n1 n2 n3 n4 n5 v1 v2 v3 v4 v5 m'' z) → News h₀ env.locals h₁ (own ++ news) →
      wpAny (model prog w) A (execs body env) (LoopStepV h₀ env.locals wr own (fun m' n' => n' = news ∧ ∃ m'' : Str → Option Value, m' = map5 n1 n2 n3 n4 n5 v1 v2 v3 v4 v5 m'') { s with heap := h₁, toks := tk } (fun v s' => Q (.ret v) s') fun s' => Q .next s') E { s with heap := h₁, toks := tk })
    (fin : ∀ h' tk m'', Fr h₀ env.locals h' (map5 n1 n2 n3 n4 n5 v1 v2 v3 v4 v5 m'') → News h₀ env.locals h' news → Q .next { s with heap := h', toks := tk }) :
    wpAny (model prog w) A (pyIter (.ref ax)) (fun it s₂ => TurnsAt prog w A h₀ env (.Name a pa) body Q E it s₂) E s := by
  refine ints_iter hh ha hp F N hm hI (fun _ m' => ∃ m'' : Str → Option Value, m' = map5 n1 n2 n3 n4 n5 v1 v2 v3 v4 v5 m'') ⟨m, m_split5 h1 h2 h3 h4 h5⟩ ?_ ?_
  · rintro i k t' h₁ tk m₁ wr own hi ⟨m'', rfl⟩ hwr F₁ N₁
    exact step i k t' h₁ tk m'' wr own hi hwr F₁ N₁
  · rintro h' tk m₁ F₁ N₁ ⟨m'', rfl⟩
    exact fin h' tk m'' F₁ N₁
end
end Mine

end
section
open PySem PySem.W PyProof.Rows PyProof.V
open PySem.Spec
namespace Mine
set_option pp.proofs false
local macro_rules | `(tactic| k_room) => `(tactic| ktr_room)
local macro_rules | `(tactic| walk_at "call ref") => `(tactic| ((with_reducible show wpAny _ _ (call (Value.ref 57) _) _ _ _); k_dflt ((refine' c_left _ _ _ _ _ _ _ _ _ _ _ ?m ?I ?l ?s _ _ _ _ _ _ _ _ _ _ _ _ _ _ _ _ _ ?k1 ?k2 ?k3 ?k4 ?k5 ?kK ?kd ?ku ?_); (case k1 => k_asm); (case k2 => k_asm); (case k3 => k_asm); (case k4 => k_asm); (case k5 => k_asm); (case kK => first | exact rfl | assumption); (case kd => ktr_room); (case ku => ktr_units); (case m => assumption); (case I => assumption); (case l => assumption); (case s => assumption); (intro t9 h9 tk9 F9 N9); (try dsimp only); (try k_fold))))
local macro_rules | `(tactic| walk_at "call ref") => `(tactic| ((with_reducible show wpAny _ _ (call (Value.ref 48) _) _ _ _); k_dflt ((refine' c_right _ _ _ _ _ _ _ _ _ _ _ ?m ?I ?l ?s _ _ _ _ _ _ _ _ _ _ _ _ _ _ _ _ _ ?k1 ?k2 ?k3 ?k4 ?k5 ?kK ?kd ?ku ?_); (case k1 => k_asm); (case k2 => k_asm); (case k3 => k_asm); (case k4 => k_asm); (case k5 => k_asm); (case kK => first | exact rfl | assumption); (case kd => ktr_room); (case ku => ktr_units); (case m => assumption); (case I => assumption); (case l => assumption); (case s => assumption); (intro t9 h9 tk9 F9 N9); (try dsimp only); (try k_fold))))
def readS (T W : Str) (ns : List Int) (x y : Int) : Str :=
  if upto ns y - 1 < below ns x then Txt.slice W (some x) (some y)
  else Txt.slice W (some x) (some (ns.getD (below ns x).toNat 0)) ++ Txt.slice T (some (below ns x)) (some (upto ns y - 1)) ++ Txt.slice W (some (ns.getD (upto ns y - 1).toNat 0)) (some y)
set_option maxRecDepth 100000 in
set_option maxHeartbeats 1000000 in
theorem c_read (w : World) (mean : ExcName → Option Value) (mg mb : Str → Option Value) (news : List (Addr × Obj)) (T W : Str) (tT tW ta tb : Tok) (x y : Int) (ax : Addr) (vs : List Value) (c : Nat) (ns : List Int)
   (hm : (ax, ({ cls := .type "list", data := .seq vs.toArray c } : Obj)) ∈ news) (hI : IntsAre vs ns) (hl : ns.length ≤ 1000) (hs : ns.Pairwise (· ≤ ·)) (hT : T.length ≤ 100) (hW : W.length ≤ 100)
   (hf0 : 0 ≤ below ns x) (hf1 : below ns x ≤ ns.length) (hr0 : 1 ≤ upto ns y) (hr1 : upto ns y ≤ ns.length) :
   Tel 2 w mean mg mb 71 news [.str T tT, .str W tW, .ref ax, .int x ta, .int y tb] (fun t => .str (readS T W ns x y) t) := by
  unfold Tel CbRet
  k_fill
  intro dp un gd cn cs a ccd cl outer A₀ base h₀ L m s Q E B F KX N Tp hkf hdp hun hret
  w_on
  refine wpAny_call ?_
  k_dflt (refine' code_def ?k1 ?k2 ?k3 ?k4 ?k5 ?kA ?kF ?kK ?k6 ?k7 ?k8 ?k9 ?kB ?_ ?c2 ?c3 ?c4 ?c5; (case kA => exact rfl); (case kF => exact rfl); (case kK => first | exact rfl | assumption); (case k1 => k_asm); (case k2 => k_asm); (case k3 => k_asm); (case k4 => k_asm); (case k5 => k_asm); (case k6 => k_is); (case k7 => k_is); (case k8 => k_room); (case k9 => first | exact BindsTo.of_eq rfl | exact binds_K (by k_in) rfl (by k_is) rfl rfl rfl); (case c5 => decide); (case kB => exact locs rfl); (case c2 => exact rfl); (case c3 => exact rfl); (case c4 => exact rfl); k_whole; intro g' L' h' FG' F' N' B' X' T'; (try dsimp only); (try k_lift B'); (try k_fold))
  have hlen := hI.length
  k_steps
  · (with_reducible rename (upto ns y - 1 < below ns x) => hE)
    unfold readS at hret
    rw [if_pos hE] at hret
    exact hret _ _ _ (by k_asm) (by k_asm)
  · (with_reducible rename (¬ upto ns y - 1 < below ns x) => hE)
    unfold readS at hret
    rw [if_neg hE] at hret
    exact hret _ _ _ (by k_asm) (by k_asm)
end Mine

end
section
open PySem PySem.W PyProof.Rows PyProof.V
open PySem.Spec
namespace Mine
/-- a cut behind one statement -/
theorem cut_exec {M : Model} {A : Around} {E : Value → Shared → Prop} {s : Shared} {st : Stmt} {rest : List Stmt} {env : Env} {qk : Flow → Shared → Prop} (P : Shared → Prop)
    (h1 : wpAny M A (exec st env) (fun f s' => match f with | .next => P s' | f => qk f s') E s) (h2 : ∀ s', P s' → wpAny M A (execs rest env) qk E s') :
    wpAny M A (exec st env) (fun f s' => match f with | .next => wpAny M A (execs rest env) qk E s' | f => qk f s') E s :=
  wpAny_mono h1 (fun f s' h => by cases f <;> first | exact h2 s' h | exact h) fun _ _ h => h
theorem tokm {n k : Nat} {P : Prop} (h : n ≤ k → P) : TokM n k P := h
end Mine
namespace Mine
theorem TTab.ofNil {prog : Program} {w : World} {o : Obj} (h : o.IsDictOf (PySem.strKind prog w) []) : TTab w o [] := by
  obtain ⟨es, ep, hc, hd, hk, hp, hn⟩ := h
  have e : es.toList = [] := by
    have := hp.length
    exact List.length_eq_zero_iff.mp this
  exact ⟨es, ep, hc, hd, by rw [e]; exact .nil, hn⟩
/-- the three tables -/
def tab1 : List (Str × Str) := [(Str.ofString "\"", Str.ofString "&quot;"), (Str.ofString "'", Str.ofString "&apos;")]
def tab2 : List (Str × Str) := [(Str.ofString "#", Str.ofString "&num;"), (Str.ofString "\n", Str.ofString "&nl;")]
def IsTab (tab : List (Str × Str)) : Prop := tab = [] ∨ tab = tab1 ∨ tab = tab2
end Mine
namespace Mine
theorem cut_at {M : Model} {A : Around} {E : Value → Shared → Prop} {s : Shared} {st : Stmt} {env : Env} {Q : Flow → Shared → Prop} (P : Shared → Prop)
    (h1 : wpAny M A (exec st env) (fun f s' => f = .next ∧ P s') E s) (h2 : ∀ s', P s' → Q .next s') : wpAny M A (exec st env) Q E s :=
  wpAny_mono h1 (fun f s' h => by obtain ⟨rfl, h⟩ := h; exact h2 s' h) fun _ _ h => h
end Mine
namespace Mine
def totOf (ns : List Int) : Int := (List.map (fun k' => k'.fmod 99) (List.take 8 ns)).sum
def signOf (a : Int) : Str := Txt.item (Str.ofString "&<>\"';al#\né") (a.fmod 11)
def textOf (ns : List Int) : Str := Str.ofString "&lt;<" ++ Txt.join (Str.ofString "") (List.map (fun a => if (signOf a).length = 1 then signOf a else Str.empty) (List.take 8 ns))
/-- what stands behind the statement of the table -/
def P3 (w : World) (s₁ : Shared) (ns : List Int) (s' : Shared) : Prop :=
  ∃ (h : Heap) (tk : Nat) (ta : Addr) (oT oc1 oc2 oc3 : Obj) (tT tX : Tok) (m0 : Str → Option Value) (tab : List (Str × Str)),
    s' = { s₁ with heap := h, toks := tk } ∧ Fr s₁.heap s₁.heap.objs.size h (fun y => if y = Str.ofString "total" then some (.int (totOf ns) tT) else m0 y) ∧
    News s₁.heap s₁.heap.objs.size h [(s₁.heap.objs.size + 1 + 1 + 1, oc3), (s₁.heap.objs.size + 1 + 1, oc2), (s₁.heap.objs.size + 1, oc1), (ta, oT)] ∧
    oc1.data = .cell (some (.str (textOf ns) tX)) ∧ oc2.data = .cell (some (.ref ta)) ∧ oc3.data = .cell none ∧
    TTab w oT tab ∧ (ta == sysModules) = false ∧ IsTab tab ∧ s₁.heap.objs.size + 1 + 1 + 1 < ta
end Mine

end
section
open PySem PySem.W PyProof.Rows PyProof.V
open PySem.Spec
namespace Mine
theorem tab_ok {tab : List (Str × Str)} (h : IsTab tab) : (∀ p ∈ tab, 1 ≤ p.1.length ∧ p.2.length ≤ 6) ∧ (∀ p ∈ tab, (p.1 == p.2) = false) ∧ tab.length ≤ 2 ∧ (tab.map (·.2)).Nodup := by
  rcases h with rfl | rfl | rfl <;> decide
theorem turned_ok {tab : List (Str × Str)} (h : IsTab tab) : (∀ p ∈ turned tab, 1 ≤ p.1.length ∧ p.2.length ≤ 6) ∧ (∀ p ∈ turned tab, (p.1 == p.2) = false) ∧ (turned tab).length ≤ 2 := by
  rcases h with rfl | rfl | rfl <;> decide
theorem refOf_len {tab : List (Str × Str)} (h : IsTab tab) {x : Str} (hx : x.length = 1) : (refOf (base3 ++ tab) x).length ≤ 6 := by
  unfold refOf
  cases e : (base3 ++ tab).find? (fun p => decide (p.1 = x)) with
  | none => show x.length ≤ 6; omega
  | some p =>
    have hm := List.mem_of_find?_eq_some e
    have : ∀ p ∈ base3 ++ tab, p.2.length ≤ 6 := by rcases h with rfl | rfl | rfl <;> decide
    exact this p hm
end Mine
namespace Mine
end Mine
namespace Mine
theorem signs1_one {X a : Str} (h : a ∈ signs1 X) : a.length = 1 := by
  unfold signs1 at h
  obtain ⟨c, _, rfl⟩ := List.mem_map.mp h
  rfl
end Mine
namespace Mine
theorem ints_of {α : Type} {f : α → Int} {ys : List Value} {xs : List α} (h : All2 (fun y a => ∃ t, y = Value.int (f a) t) ys xs) : IntsAre ys (xs.map f) := by
  induction h with
  | nil => exact .nil
  | cons r _ ih => obtain ⟨t, rfl⟩ := r; exact .cons _ t ih
theorem strs_of {α : Type} {f : α → Str} {ys : List Value} {xs : List α} (h : All2 (fun y a => ∃ t, y = Value.str (f a) t) ys xs) : StrsAre ys (xs.map f) := by
  induction h with
  | nil => exact .nil
  | cons r _ ih => obtain ⟨t, rfl⟩ := r; exact .cons _ t ih
/-- the signs' widths, and where each sign begins -/
def widthsOf (tab : List (Str × Str)) (X : Str) : List Int := (signs1 X).map fun a => ((refOf (base3 ++ tab) a).length : Int)
end Mine
namespace Mine
theorem escS_len {kvs : List (Str × Str)} {x : Str} (hk : ∀ p ∈ kvs, 1 ≤ p.1.length ∧ p.2.length ≤ 6) (hl : kvs.length ≤ 2) (hx : x.length ≤ 100) : (escS kvs x).length ≤ 1000000 := by
  unfold escS esc3
  have h1 := len_repl (x := x) (y := Str.ofString "&") (z := Str.ofString "&amp;") 6 (by decide) (by decide) (by decide)
  have h2 := len_repl (x := Txt.replace x (Str.ofString "&") (Str.ofString "&amp;")) (y := Str.ofString ">") (z := Str.ofString "&gt;") 6 (by decide) (by decide) (by decide)
  have h3 := len_repl (x := Txt.replace (Txt.replace x (Str.ofString "&") (Str.ofString "&amp;")) (Str.ofString ">") (Str.ofString "&gt;")) (y := Str.ofString "<") (z := Str.ofString "&lt;") 6 (by decide) (by decide) (by decide)
  have h4 := repls_len2 hk hl (b := 21600) (x := Txt.replace (Txt.replace (Txt.replace x (Str.ofString "&") (Str.ofString "&amp;")) (Str.ofString ">") (Str.ofString "&gt;")) (Str.ofString "<") (Str.ofString "&lt;")) (by omega)
  omega
theorem len_escS {prog : Program} {w : World} {A : Around} {E : Value → Shared → Prop} {s : Shared} {kvs : List (Str × Str)} {x : Str} {t : Tok} {Q : Value → Shared → Prop} (hk : ∀ p ∈ kvs, 1 ≤ p.1.length ∧ p.2.length ≤ 6) (hl : kvs.length ≤ 2) (hx : x.length ≤ 100)
    (h : Q (.int (escS kvs x).length (s.toks + 1)) { s with toks := s.toks + 1 + 1 }) : wpAny (model prog w) A (call (.builtin "len") [.str (escS kvs x) t]) Q E s :=
  len_str (by have := escS_len hk hl hx; omega) h
/-- where the signs begin -/
def begsOf (tab : List (Str × Str)) (X : Str) : List Int := (List.range (X.length + 1)).map fun i => ((widthsOf tab X).take i).sum
end Mine
namespace Mine
end Mine

end
section
open PySem PySem.W PyProof.Rows PyProof.V
open PySem.Spec
namespace Mine
open Builtin Builtin.Str StrLaws
abbrev cp (x : Str) : List Nat := x.cps.toList
theorem cp_ext {x y : Str} (h : cp x = cp y) : x = y := Str.ext' (Array.toList_inj.mp h)
theorem cp_len (x : Str) : (cp x).length = x.length := by simp [Str.length]
theorem cp_repl {x y z : Str} (hy : 1 ≤ y.length) : cp (Txt.replace x y z) = rep (cp y) (cp z) 0 (cp x) := replace_toList x y z hy
/-- one sign replaced -/
def sub1 (c : Nat) (z : List Nat) (d : Nat) : List Nat := if d = c then z else [d]
theorem rep_one (c : Nat) (z : List Nat) : ∀ l, rep [c] z 0 l = l.flatMap (sub1 c z)
  | [] => rfl
  | d :: l => by
    have ih := rep_one c z l
    show (if [c].isPrefixOf (d :: l) then z ++ rep [c] z 0 l else d :: rep [c] z 0 l) = _
    rw [ih, List.flatMap_cons]
    unfold sub1
    by_cases h : d = c
    · rw [if_pos h, if_pos (by simp [List.isPrefixOf, h])]
    · rw [if_neg h, if_neg (by simp [List.isPrefixOf]; exact fun q => h q.symm)]
      rfl
theorem cp_one {x z : Str} (c : Nat) : cp (Txt.replace x ⟨#[c]⟩ z) = (cp x).flatMap (sub1 c (cp z)) := by
  rw [cp_repl (y := ⟨#[c]⟩) (Nat.le_refl 1)]
  exact rep_one c _ _
theorem refOf_nil (d : Nat) : refOf [] ⟨#[d]⟩ = ⟨#[d]⟩ := rfl
theorem refOf_cons (c d : Nat) (v : Str) (r : List (Str × Str)) : refOf ((⟨#[c]⟩, v) :: r) ⟨#[d]⟩ = if d = c then v else refOf r ⟨#[d]⟩ := by
  unfold refOf
  by_cases h : d = c
  · subst h
    simp
  · have : ¬ (⟨#[c]⟩ : Str) = ⟨#[d]⟩ := by
      intro q
      apply h
      injection q with q
      have : ([c] : List Nat) = [d] := by injection q
      injection this with e _
      exact e.symm
    rw [if_neg h, List.find?_cons_of_neg (by simpa using this)]
def amp : List Nat := [38, 97, 109, 112, 59]
def lt_ : List Nat := [38, 108, 116, 59]
def gt_ : List Nat := [38, 103, 116, 59]
theorem base3_eq : base3 = [(⟨#[38]⟩, ⟨amp.toArray⟩), (⟨#[60]⟩, ⟨lt_.toArray⟩), (⟨#[62]⟩, ⟨gt_.toArray⟩)] := by decide +kernel
theorem tab1_eq : tab1 = [(⟨#[34]⟩, ⟨#[38, 113, 117, 111, 116, 59]⟩), (⟨#[39]⟩, ⟨#[38, 97, 112, 111, 115, 59]⟩)] := by decide +kernel
theorem tab2_eq : tab2 = [(⟨#[35]⟩, ⟨#[38, 110, 117, 109, 59]⟩), (⟨#[10]⟩, ⟨#[38, 110, 108, 59]⟩)] := by decide +kernel
/-- a sign's reference, in codes -/
def RR (tab : List (Str × Str)) (d : Nat) : List Nat := cp (refOf (base3 ++ tab) ⟨#[d]⟩)
theorem RR0 (d : Nat) : RR [] d = if d = 38 then amp else if d = 60 then lt_ else if d = 62 then gt_ else [d] := by
  unfold RR
  rw [base3_eq]
  simp only [List.cons_append, List.nil_append, refOf_cons, refOf_nil]
  split
  · rfl
  split
  · rfl
  split <;> rfl
theorem RR2 (c1 c2 d : Nat) (v1 v2 : Str) : RR [(⟨#[c1]⟩, v1), (⟨#[c2]⟩, v2)] d = if d = 38 then amp else if d = 60 then lt_ else if d = 62 then gt_ else if d = c1 then cp v1 else if d = c2 then cp v2 else [d] := by
  unfold RR
  rw [base3_eq]
  simp only [List.cons_append, List.nil_append, refOf_cons, refOf_nil]
  split
  · rfl
  split
  · rfl
  split
  · rfl
  split
  · rfl
  split <;> rfl
theorem s_amp : Str.ofString "&" = ⟨#[38]⟩ := by decide +kernel
theorem s_lt : Str.ofString "<" = ⟨#[60]⟩ := by decide +kernel
theorem s_gt : Str.ofString ">" = ⟨#[62]⟩ := by decide +kernel
theorem w_amp : Str.ofString "&amp;" = ⟨amp.toArray⟩ := by decide +kernel
theorem w_lt : Str.ofString "&lt;" = ⟨lt_.toArray⟩ := by decide +kernel
theorem w_gt : Str.ofString "&gt;" = ⟨gt_.toArray⟩ := by decide +kernel
theorem cp_esc3 (x : Str) : cp (esc3 x) = (((cp x).flatMap (sub1 38 amp)).flatMap (sub1 62 gt_)).flatMap (sub1 60 lt_) := by
  unfold esc3
  rw [s_amp, s_lt, s_gt, w_amp, w_lt, w_gt, cp_one, cp_one, cp_one]
theorem flat_flat (l : List Nat) (f g : Nat → List Nat) : (l.flatMap f).flatMap g = l.flatMap fun d => (f d).flatMap g := List.flatMap_assoc
/-- what escape writes: each sign's reference -/
theorem cp_esc {tab : List (Str × Str)} (h : IsTab tab) (x : Str) : cp (escS tab x) = (cp x).flatMap (RR tab) := by
  unfold escS
  rcases h with rfl | rfl | rfl
  · show cp (esc3 x) = _
    rw [cp_esc3, flat_flat, flat_flat]
    congr 1
    funext d
    rw [RR0]
    unfold sub1
    by_cases h1 : d = 38
    · subst h1; decide
    by_cases h2 : d = 60
    · subst h2; decide
    by_cases h3 : d = 62
    · subst h3; decide
    simp [h1, h2, h3]
  · rw [tab1_eq]
    show cp (Txt.replace (Txt.replace (esc3 x) ⟨#[34]⟩ _) ⟨#[39]⟩ _) = _
    rw [cp_one, cp_one, cp_esc3]
    simp only [flat_flat]
    congr 1
    funext d
    rw [RR2]
    unfold sub1
    by_cases h1 : d = 38
    · subst h1; decide
    by_cases h2 : d = 60
    · subst h2; decide
    by_cases h3 : d = 62
    · subst h3; decide
    by_cases h4 : d = 34
    · subst h4; decide
    by_cases h5 : d = 39
    · subst h5; decide
    simp [h1, h2, h3, h4, h5]
  · rw [tab2_eq]
    show cp (Txt.replace (Txt.replace (esc3 x) ⟨#[35]⟩ _) ⟨#[10]⟩ _) = _
    rw [cp_one, cp_one, cp_esc3]
    simp only [flat_flat]
    congr 1
    funext d
    rw [RR2]
    unfold sub1
    by_cases h1 : d = 38
    · subst h1; decide
    by_cases h2 : d = 60
    · subst h2; decide
    by_cases h3 : d = 62
    · subst h3; decide
    by_cases h4 : d = 35
    · subst h4; decide
    by_cases h5 : d = 10
    · subst h5; decide
    simp [h1, h2, h3, h4, h5]
end Mine

end
section
open PySem PySem.W PyProof.Rows PyProof.V
open PySem.Spec
namespace Mine
open Builtin Builtin.Str StrLaws
theorem isRef_amp : IsRef amp := ⟨[97, 109, 112], rfl, by decide, by decide⟩
theorem isRef_lt : IsRef lt_ := ⟨[108, 116], rfl, by decide, by decide⟩
theorem isRef_gt : IsRef gt_ := ⟨[103, 116], rfl, by decide, by decide⟩
theorem good_RR {tab : List (Str × Str)} (h : IsTab tab) (d : Nat) : Good (RR tab d) := by
  rcases h with rfl | rfl | rfl
  · rw [RR0]
    split
    · exact Or.inr isRef_amp
    split
    · exact Or.inr isRef_lt
    split
    · exact Or.inr isRef_gt
    · rename_i h1 _ _
      exact Or.inl ⟨d, rfl, h1⟩
  · rw [tab1_eq, RR2]
    split
    · exact Or.inr isRef_amp
    split
    · exact Or.inr isRef_lt
    split
    · exact Or.inr isRef_gt
    split
    · exact Or.inr ⟨[113, 117, 111, 116], rfl, by decide, by decide⟩
    split
    · exact Or.inr ⟨[97, 112, 111, 115], rfl, by decide, by decide⟩
    · rename_i h1 _ _ _ _
      exact Or.inl ⟨d, rfl, h1⟩
  · rw [tab2_eq, RR2]
    split
    · exact Or.inr isRef_amp
    split
    · exact Or.inr isRef_lt
    split
    · exact Or.inr isRef_gt
    split
    · exact Or.inr ⟨[110, 117, 109], rfl, by decide, by decide⟩
    split
    · exact Or.inr ⟨[110, 108], rfl, by decide, by decide⟩
    · rename_i h1 _ _ _ _
      exact Or.inl ⟨d, rfl, h1⟩
/-- what unescape reads in a window -/
theorem cp_une {tab : List (Str × Str)} (h : IsTab tab) {V : Str} {S X T : List Nat} (hV : cp V = S ++ (X.flatMap (RR tab) ++ T)) (hS : 38 ∉ S) (hT : 59 ∉ T) :
    cp (uneS (turned tab) V) = S ++ (X ++ T) := by
  have hR := good_RR h
  have flat_id : ∀ (f : Nat → List Nat), (∀ d, f d = [d]) → X.flatMap f = X := by
    intro f hf
    rw [show f = fun d => [d] from funext hf]
    simp
  have e0 : cp (une2 V) = S ++ (X.flatMap (stage (stage (RR tab) lt_ [60]) gt_ [62]) ++ T) := by
    unfold une2
    rw [s_lt, s_gt, w_lt, w_gt, cp_repl (by decide), cp_repl (by decide), hV]
    show rep gt_ [62] 0 (rep lt_ [60] 0 _) = _
    rw [rep_window isRef_lt hR hS hT, rep_window isRef_gt (good_stage (by decide) hR) hS hT]
  have g0 : ∀ d, Good (stage (stage (RR tab) lt_ [60]) gt_ [62] d) := good_stage (by decide) (good_stage (by decide) hR)
  unfold uneS
  rw [s_amp, w_amp, cp_repl (by decide)]
  show rep amp [38] 0 _ = _
  rcases h with rfl | rfl | rfl
  · show rep amp [38] 0 (cp (une2 V)) = _
    rw [e0, rep_window isRef_amp g0 hS hT, flat_id]
    intro d
    unfold stage
    rw [RR0]
    by_cases h1 : d = 38
    · subst h1; decide
    by_cases h2 : d = 60
    · subst h2; decide
    by_cases h3 : d = 62
    · subst h3; decide
    simp [h1, h2, h3, amp, lt_, gt_]
  · have e2 : repls (turned tab1) (une2 V) = Txt.replace (Txt.replace (une2 V) ⟨#[38, 113, 117, 111, 116, 59]⟩ ⟨#[34]⟩) ⟨#[38, 97, 112, 111, 115, 59]⟩ ⟨#[39]⟩ := by
      rw [tab1_eq]; rfl
    have e1 : cp (repls (turned tab1) (une2 V)) = S ++ (X.flatMap (stage (stage (stage (stage (RR tab1) lt_ [60]) gt_ [62]) [38, 113, 117, 111, 116, 59] [34]) [38, 97, 112, 111, 115, 59] [39]) ++ T) := by
      rw [e2, cp_repl (by decide), cp_repl (by decide), e0]
      show rep [38, 97, 112, 111, 115, 59] [39] 0 (rep [38, 113, 117, 111, 116, 59] [34] 0 _) = _
      rw [rep_window (y := [38, 113, 117, 111, 116, 59]) ⟨[113, 117, 111, 116], rfl, by decide, by decide⟩ g0 hS hT, rep_window (y := [38, 97, 112, 111, 115, 59]) ⟨[97, 112, 111, 115], rfl, by decide, by decide⟩ (good_stage (e := 34) (by decide) g0) hS hT]
    rw [e1, rep_window isRef_amp (good_stage (e := 39) (by decide) (good_stage (e := 34) (by decide) g0)) hS hT, flat_id]
    intro d
    unfold stage
    rw [tab1_eq, RR2]
    by_cases h1 : d = 38
    · subst h1; decide
    by_cases h2 : d = 60
    · subst h2; decide
    by_cases h3 : d = 62
    · subst h3; decide
    by_cases h4 : d = 34
    · subst h4; decide
    by_cases h5 : d = 39
    · subst h5; decide
    simp [h1, h2, h3, h4, h5, amp, lt_, gt_]
  · have e2 : repls (turned tab2) (une2 V) = Txt.replace (Txt.replace (une2 V) ⟨#[38, 110, 117, 109, 59]⟩ ⟨#[35]⟩) ⟨#[38, 110, 108, 59]⟩ ⟨#[10]⟩ := by
      rw [tab2_eq]; rfl
    have e1 : cp (repls (turned tab2) (une2 V)) = S ++ (X.flatMap (stage (stage (stage (stage (RR tab2) lt_ [60]) gt_ [62]) [38, 110, 117, 109, 59] [35]) [38, 110, 108, 59] [10]) ++ T) := by
      rw [e2, cp_repl (by decide), cp_repl (by decide), e0]
      show rep [38, 110, 108, 59] [10] 0 (rep [38, 110, 117, 109, 59] [35] 0 _) = _
      rw [rep_window (y := [38, 110, 117, 109, 59]) ⟨[110, 117, 109], rfl, by decide, by decide⟩ g0 hS hT, rep_window (y := [38, 110, 108, 59]) ⟨[110, 108], rfl, by decide, by decide⟩ (good_stage (e := 35) (by decide) g0) hS hT]
    rw [e1, rep_window isRef_amp (good_stage (e := 10) (by decide) (good_stage (e := 35) (by decide) g0)) hS hT, flat_id]
    intro d
    unfold stage
    rw [tab2_eq, RR2]
    by_cases h1 : d = 38
    · subst h1; decide
    by_cases h2 : d = 60
    · subst h2; decide
    by_cases h3 : d = 62
    · subst h3; decide
    by_cases h4 : d = 35
    · subst h4; decide
    by_cases h5 : d = 10
    · subst h5; decide
    simp [h1, h2, h3, h4, h5, amp, lt_, gt_]
end Mine

end
section
open PySem PySem.W PyProof.Rows PyProof.V
open PySem.Spec
namespace Mine
open Builtin Builtin.Str StrLaws
theorem cp_join : ∀ l : List Str, cp (Str.join (Str.ofString "") l) = l.flatMap cp
  | [] => rfl
  | [x] => by simp [Str.join]
  | x :: y :: r => by
    have ih := cp_join (y :: r)
    have e : (Str.ofString "").cps.toList = [] := by decide +kernel
    have h := strjoin_cons (Str.ofString "") x (q := y :: r) (by simp)
    rw [e, List.append_nil] at h
    show cp (Str.join (Str.ofString "") (x :: y :: r)) = _
    rw [show cp (Str.join (Str.ofString "") (x :: y :: r)) = _ from h, List.flatMap_cons]
    exact congrArg _ ih
theorem cp_tjoin (l : List Str) : cp (Txt.join (Str.ofString "") l) = l.flatMap cp := by
  unfold Txt.join
  rw [glued_eq_join, cp_join]
theorem written_eq {tab : List (Str × Str)} (h : IsTab tab) (X : Str) : escS tab X = Txt.join (Str.ofString "") ((signs1 X).map (refOf (base3 ++ tab))) := by
  apply cp_ext
  rw [cp_esc h, cp_tjoin]
  unfold signs1 RR
  simp only [List.flatMap_map, List.map_map]
  rfl
theorem slice_nat (x : Str) {a b : Nat} (hab : a ≤ b) (hb : b ≤ x.length) : cp (Txt.slice x (some (a : Int)) (some (b : Int))) = ((cp x).drop a).take (b - a) := by
  unfold Txt.slice
  rw [strSliceIndices_plain hab hb, ← strSliceIndices_plain hab hb]
  split
  · rename_i h
    rw [strSliceIndices_plain hab hb] at h
    have hl : b - a = x.length := by simpa using h
    have ha : a = 0 := by omega
    subst ha
    rw [List.drop_zero, List.take_of_length_le (by rw [cp_len]; omega)]
  · show (List.filterMap _ _).toArray.toList = _
    rw [sliced_plain x hab hb]
theorem slice_to (x : Str) {b : Nat} (hb : b ≤ x.length) : cp (Txt.slice x none (some (b : Int))) = (cp x).take b := by
  have e : strSliceIndices none (some (b : Int)) 1 x.length = strSliceIndices (some ((0 : Nat) : Int)) (some (b : Int)) 1 x.length := by
    have e1 : max (0 : Int) (min (0 : Int) (x.length : Int)) = 0 := by omega
    simp only [strSliceIndices]
    congr 1
  have h := slice_nat x (Nat.zero_le b) hb
  unfold Txt.slice at h ⊢
  rw [e]
  simpa using h
/-- the beginnings, counted -/
def beg (tab : List (Str × Str)) (X : Str) (i : Nat) : Nat := (((cp X).take i).flatMap (RR tab)).length
theorem sum_lens {f : Nat → List Nat} : ∀ l : List Nat, ((l.map fun d => ((f d).length : Int))).sum = ((l.flatMap f).length : Int)
  | [] => rfl
  | d :: l => by
    rw [List.map_cons, List.sum_cons, sum_lens l, List.flatMap_cons, List.length_append]
    omega
theorem begsOf_eq (tab : List (Str × Str)) (X : Str) : begsOf tab X = (List.range (X.length + 1)).map fun i => (beg tab X i : Int) := by
  unfold begsOf widthsOf signs1 beg
  refine List.map_congr_left fun i _ => ?_
  rw [← sum_lens, List.map_map, ← List.map_take]
  congr 1
theorem lens_eq {tab : List (Str × Str)} (h : IsTab tab) (X : Str) :
    List.map (fun k' : Int => if (Txt.slice X none (some k')).length ≤ X.length then ((escS tab (Txt.slice X none (some k'))).length : Int) else k') (rangeKs 0 ((X.length : Int) + 1 - 0).toNat) = begsOf tab X := by
  rw [begsOf_eq, show ((X.length : Int) + 1 - 0).toNat = X.length + 1 by omega]
  unfold rangeKs
  rw [List.map_map]
  refine List.map_congr_left fun i hi => ?_
  have hi' : i ≤ X.length := by have := List.mem_range.mp hi; omega
  simp only [Function.comp_apply]
  rw [if_pos (Txt.slice_le ..), show ((0 : Int) + (i : Nat)) = (i : Int) by omega, ← cp_len, cp_esc h, slice_to X hi']
  rfl
theorem RR_len {tab : List (Str × Str)} (h : IsTab tab) (d : Nat) : (RR tab d).length ≤ 6 := by
  unfold RR
  rw [cp_len]
  exact refOf_len h rfl
theorem flat_le {f : Nat → List Nat} {k : Nat} (hf : ∀ d, (f d).length ≤ k) : ∀ l : List Nat, (l.flatMap f).length ≤ l.length * k
  | [] => by simp
  | d :: l => by
    have h1 := hf d
    have h2 := flat_le hf l
    rw [List.flatMap_cons, List.length_append, List.length_cons, Nat.add_mul]
    omega
theorem escS_78 {tab : List (Str × Str)} (h : IsTab tab) {X : Str} (hX : X.length ≤ 13) : (escS tab X).length ≤ 78 := by
  rw [← cp_len, cp_esc h]
  have := flat_le (RR_len h) (cp X)
  rw [cp_len] at this
  omega
theorem textOf_len (ns : List Int) : (textOf ns).length ≤ 13 := by
  have key : ∀ l : List Int, ((l.map (fun a => if (signOf a).length = 1 then signOf a else Str.empty)).flatMap cp).length ≤ l.length := by
    intro l
    induction l with
    | nil => simp
    | cons a l ih =>
      rw [List.map_cons, List.flatMap_cons, List.length_append, List.length_cons, cp_len]
      have : (if (signOf a).length = 1 then signOf a else Str.empty).length ≤ 1 := by
        split
        · omega
        · decide
      omega
  unfold textOf
  rw [Str.length_append]
  have e : (Str.ofString "&lt;<").length = 5 := by decide +kernel
  have h2 := key (ns.take 8)
  rw [← cp_tjoin, cp_len] at h2
  have h3 : (ns.take 8).length ≤ 8 := by rw [List.length_take]; omega
  omega
theorem beg_mono (tab : List (Str × Str)) (X : Str) {i j : Nat} (hij : i ≤ j) : beg tab X i ≤ beg tab X j := by
  unfold beg
  have e : (cp X).take j = (cp X).take i ++ ((cp X).drop i).take (j - i) := by
    rw [← List.take_add]; congr 1; omega
  rw [e, List.flatMap_append, List.length_append]
  omega
theorem begs_sorted {tab : List (Str × Str)} (X : Str) : (begsOf tab X).Pairwise (· ≤ ·) := by
  rw [begsOf_eq, List.pairwise_map, List.pairwise_iff_getElem]
  intro i j hi hj hij
  simp only [List.getElem_range]
  have := beg_mono tab X (Nat.le_of_lt hij)
  omega
end Mine

end
section
open PySem PySem.W PyProof.Rows PyProof.V
open PySem.Spec
namespace Mine
open Builtin Builtin.Str StrLaws
theorem below_ge (ns : List Int) (a : Int) : 0 ≤ below ns a := by unfold below; omega
theorem takeWhile_len {α : Type} (p : α → Bool) : ∀ l : List α, (l.takeWhile p).length ≤ l.length
  | [] => Nat.le_refl _
  | a :: l => by
    rw [List.takeWhile_cons]
    split
    · have := takeWhile_len p l
      simp only [List.length_cons]; omega
    · simp
theorem below_le (ns : List Int) (a : Int) : below ns a ≤ ns.length := by unfold below; have := takeWhile_len (fun v => decide (v < a)) ns; omega
theorem upto_le (ns : List Int) (a : Int) : upto ns a ≤ ns.length := by unfold upto; have := takeWhile_len (fun v => !decide (a < v)) ns; omega
theorem upto_ge {tab : List (Str × Str)} (X : Str) {b : Int} (hb : 0 ≤ b) : 1 ≤ upto (begsOf tab X) b := by
  unfold upto begsOf
  rw [List.range_succ_eq_map, List.map_cons, List.takeWhile_cons]
  have : (!decide (b < (List.take 0 (widthsOf tab X)).sum)) = true := by
    have : ¬ b < 0 := by omega
    simp [this]
  rw [if_pos this, List.length_cons]
  omega
theorem tw_in {p : Int → Bool} : ∀ (ns : List Int) (j : Nat) (v : Int), j < (ns.takeWhile p).length → ns[j]? = some v → p v = true
  | [], _, _, h, _ => by simp at h
  | a :: ns, j, v, h, hv => by
    by_cases ha : p a = true
    · rw [List.takeWhile_cons, if_pos ha, List.length_cons] at h
      cases j with
      | zero => simp at hv; rw [← hv]; exact ha
      | succ j => exact tw_in ns j v (by omega) (by simpa using hv)
    · rw [List.takeWhile_cons, if_neg ha] at h
      simp at h
theorem tw_at {p : Int → Bool} : ∀ (ns : List Int) (v : Int), ns[(ns.takeWhile p).length]? = some v → p v = false
  | [], _, h => by simp at h
  | a :: ns, v, h => by
    by_cases ha : p a = true
    · rw [List.takeWhile_cons, if_pos ha, List.length_cons, List.getElem?_cons_succ] at h
      exact tw_at ns v h
    · rw [List.takeWhile_cons, if_neg ha] at h
      simp at h
      rw [← h]; simpa using ha
theorem good_drop {w : List Nat} (h : Good w) {k : Nat} (hk : 1 ≤ k) : 38 ∉ w.drop k := by
  obtain ⟨k, rfl⟩ : ∃ j, k = j + 1 := ⟨k - 1, by omega⟩
  rcases h with ⟨e, rfl, he⟩ | ⟨u, rfl, h38, -⟩
  · simp
  · rw [List.drop_succ_cons]
    intro q
    have := List.mem_of_mem_drop q
    simp at this
    exact h38 this
theorem good_take {w : List Nat} (h : Good w) {m : Nat} (hm : m < w.length) : 59 ∉ w.take m := by
  rcases h with ⟨e, rfl, he⟩ | ⟨u, rfl, -, h59⟩
  · have : m = 0 := by simpa using hm
    subst this; simp
  · have hl : m ≤ (38 :: u : List Nat).length := by simp at hm ⊢; omega
    have e : (38 :: (u ++ [59])).take m = (38 :: u).take m := by
      rw [show 38 :: (u ++ [59]) = (38 :: u) ++ [59] from rfl, List.take_append_of_le_length hl]
    rw [e]
    intro q
    have := List.mem_of_mem_take q
    simp at this
    exact h59 this
section
variable {R : Nat → List Nat} {xs : List Nat}
def bg (R : Nat → List Nat) (xs : List Nat) (i : Nat) : Nat := ((xs.take i).flatMap R).length
theorem drop_bg (i : Nat) : (xs.flatMap R).drop (bg R xs i) = (xs.drop i).flatMap R := by
  have e : xs.flatMap R = (xs.take i).flatMap R ++ (xs.drop i).flatMap R := by rw [← List.flatMap_append, List.take_append_drop]
  rw [e]
  exact List.drop_left
theorem bg_all : bg R xs xs.length = (xs.flatMap R).length := by unfold bg; rw [List.take_length]
theorem bg_succ {i : Nat} (h : i < xs.length) : bg R xs (i + 1) = bg R xs i + (R xs[i]).length := by
  unfold bg
  rw [List.take_add_one, List.getElem?_eq_getElem h, List.flatMap_append, List.length_append]
  simp
theorem bg_mono {i j : Nat} (hij : i ≤ j) : bg R xs i ≤ bg R xs j := by
  unfold bg
  have e : xs.take j = xs.take i ++ (xs.drop i).take (j - i) := by
    rw [← List.take_add]; congr 1; omega
  rw [e, List.flatMap_append, List.length_append]
  omega
theorem drop_in {i a : Nat} (h : i < xs.length) (h1 : bg R xs i ≤ a) : (xs.flatMap R).drop a = (R xs[i] ++ (xs.drop (i + 1)).flatMap R).drop (a - bg R xs i) := by
  have e : a = bg R xs i + (a - bg R xs i) := by omega
  rw [← List.flatMap_cons, ← List.drop_eq_getElem_cons h, ← drop_bg i, List.drop_drop]
  congr 1
/-- within one reference, behind its start, no & stands -/
theorem head_free (hR : ∀ d, Good (R d)) {i a b : Nat} (h : i < xs.length) (h1 : bg R xs i < a) (h2 : b ≤ bg R xs (i + 1)) : 38 ∉ ((xs.flatMap R).drop a).take (b - a) := by
  rw [drop_in h (by omega)]
  rw [bg_succ h] at h2
  by_cases hab : b ≤ a
  · rw [show b - a = 0 by omega]; simp
  rw [List.drop_append_of_le_length (by omega), List.take_append_of_le_length (by rw [List.length_drop]; omega)]
  intro q
  exact good_drop (hR _) (by omega) (List.mem_of_mem_take q)
/-- of what is begun at a reference's start and not ended no ; stands -/
theorem tail_free (hR : ∀ d, Good (R d)) {i b : Nat} (h : i < xs.length) (h2 : b < bg R xs (i + 1)) : 59 ∉ ((xs.flatMap R).drop (bg R xs i)).take (b - bg R xs i) := by
  rw [drop_in h (Nat.le_refl _), Nat.sub_self, List.drop_zero]
  rw [bg_succ h] at h2
  rw [List.take_append_of_le_length (by omega)]
  by_cases hb : b ≤ bg R xs i
  · rw [show b - bg R xs i = 0 by omega]; simp
  exact good_take (hR _) (by omega)
theorem middle {f g : Nat} (h : f ≤ g) : ((xs.flatMap R).drop (bg R xs f)).take (bg R xs g - bg R xs f) = ((xs.drop f).take (g - f)).flatMap R := by
  have e : xs.drop f = (xs.drop f).take (g - f) ++ xs.drop g := by
    have := List.take_append_drop (g - f) (xs.drop f)
    rw [List.drop_drop, show f + (g - f) = g by omega] at this
    exact this.symm
  have e2 : xs.take g = xs.take f ++ (xs.drop f).take (g - f) := by
    rw [← List.take_add]; congr 1; omega
  have hl : bg R xs g - bg R xs f = (((xs.drop f).take (g - f)).flatMap R).length := by
    unfold bg
    rw [e2, List.flatMap_append, List.length_append]
    omega
  rw [drop_bg, hl]
  have e3 : (xs.drop f).flatMap R = ((xs.drop f).take (g - f)).flatMap R ++ (xs.drop g).flatMap R := by rw [← List.flatMap_append, ← e]
  rw [e3]
  exact List.take_left
theorem three {W : List Nat} {a p q b : Nat} (h1 : a ≤ p) (h2 : p ≤ q) (h3 : q ≤ b) : (W.drop a).take (b - a) = (W.drop a).take (p - a) ++ ((W.drop p).take (q - p) ++ (W.drop q).take (b - q)) := by
  have e1 : b - a = (p - a) + ((q - p) + (b - q)) := by omega
  rw [e1, List.take_add, List.drop_drop, show a + (p - a) = p by omega, List.take_add, List.drop_drop, show p + (q - p) = q by omega]
end
theorem begs_at (tab : List (Str × Str)) (X : Str) {i : Nat} (h : i ≤ X.length) : (begsOf tab X)[i]? = some (bg (RR tab) (cp X) i : Int) := by
  rw [begsOf_eq, List.getElem?_map, List.getElem?_range (by omega)]
  rfl
theorem begs_len (tab : List (Str × Str)) (X : Str) : (begsOf tab X).length = X.length + 1 := by rw [begsOf_eq]; simp
theorem window_eq {tab : List (Str × Str)} (h : IsTab tab) (X : Str) {a b : Int} (ha : 0 ≤ a) (hab : a ≤ b) (hb : b ≤ (escS tab X).length) :
    uneS (turned tab) (Txt.slice (escS tab X) (some a) (some b)) = readS X (escS tab X) (begsOf tab X) a b := by
  obtain ⟨a, rfl⟩ := Int.eq_ofNat_of_zero_le ha
  obtain ⟨b, rfl⟩ := Int.eq_ofNat_of_zero_le (show 0 ≤ b by omega)
  have hab' : a ≤ b := by omega
  have hb' : b ≤ (escS tab X).length := by omega
  have hW := cp_esc h X
  have hR := good_RR h
  have hn : (cp X).length = X.length := cp_len X
  have hWl : (escS tab X).length = ((cp X).flatMap (RR tab)).length := by rw [← cp_len, hW]
  -- the two places
  obtain ⟨f, hf⟩ : ∃ f, ((begsOf tab X).takeWhile fun v => decide (v < (a : Int))).length = f := ⟨_, rfl⟩
  obtain ⟨u, hu⟩ : ∃ u, ((begsOf tab X).takeWhile fun v => !decide ((b : Int) < v)).length = u := ⟨_, rfl⟩
  have ef : below (begsOf tab X) (a : Int) = (f : Int) := by rw [← hf]; rfl
  have eu : upto (begsOf tab X) (b : Int) = (u : Int) := by rw [← hu]; rfl
  have hu1 : 1 ≤ u := by have := upto_ge (tab := tab) X (b := (b : Int)) (by omega); rw [eu] at this; omega
  have f1 : ∀ j, j < f → j ≤ X.length → bg (RR tab) (cp X) j < a := by
    intro j hj hjn
    have := tw_in _ j _ (by rw [hf]; exact hj) (begs_at tab X hjn)
    have := of_decide_eq_true this
    omega
  have u1 : ∀ j, j < u → j ≤ X.length → bg (RR tab) (cp X) j ≤ b := by
    intro j hj hjn
    have := tw_in _ j _ (by rw [hu]; exact hj) (begs_at tab X hjn)
    simp only [Bool.not_eq_true', decide_eq_false_iff_not] at this
    omega
  have f2 : f ≤ X.length → a ≤ bg (RR tab) (cp X) f := by
    intro hj
    have := tw_at (p := fun v => decide (v < (a : Int))) _ _ (by rw [hf]; exact begs_at tab X hj)
    have := of_decide_eq_false this
    omega
  have u2 : u ≤ X.length → b < bg (RR tab) (cp X) u := by
    intro hj
    have := tw_at (p := fun v => !decide ((b : Int) < v)) _ _ (by rw [hu]; exact begs_at tab X hj)
    simp only [Bool.not_eq_false', decide_eq_true_eq] at this
    omega
  have hall : bg (RR tab) (cp X) X.length = ((cp X).flatMap (RR tab)).length := by rw [← hn]; exact bg_all
  have fl : f ≤ X.length := by
    have h1 : f ≤ X.length + 1 := by
      have := below_le (begsOf tab X) (a : Int)
      rw [ef, begs_len] at this
      omega
    rcases Nat.lt_or_ge f (X.length + 1) with q | q
    · omega
    · have := f1 X.length (by omega) (Nat.le_refl _)
      omega
  have ul : u ≤ X.length + 1 := by
    have := upto_le (begsOf tab X) (b : Int)
    rw [eu, begs_len] at this
    omega
  clear hf hu
  unfold readS
  rw [ef, eu]
  by_cases hgf : (u : Int) - 1 < (f : Int)
  · rw [if_pos hgf]
    have hf0 : 1 ≤ f := by omega
    have h1 := f1 (f - 1) (by omega) (by omega)
    have hu : u = f := by
      rcases Nat.lt_or_ge u f with q | q
      · have h2 := u2 (by omega)
        have h3 := bg_mono (R := RR tab) (xs := cp X) (show u ≤ f - 1 by omega)
        omega
      · omega
    have h2 := u2 (by omega)
    rw [hu] at h2
    apply cp_ext
    have hs : 38 ∉ cp (Txt.slice (escS tab X) (some (a : Int)) (some (b : Int))) := by
      rw [slice_nat _ hab' hb', hW]
      exact head_free hR (i := f - 1) (by omega) h1 (by rw [show f - 1 + 1 = f by omega]; omega)
    have := cp_une h (V := Txt.slice (escS tab X) (some (a : Int)) (some (b : Int))) (S := cp (Txt.slice (escS tab X) (some (a : Int)) (some (b : Int)))) (X := []) (T := []) (by simp) hs (by simp)
    rw [this]; simp
  · rw [if_neg hgf]
    obtain ⟨g, rfl⟩ : ∃ g, u = g + 1 := ⟨u - 1, by omega⟩
    have hfg : f ≤ g := by omega
    have hgn : g ≤ X.length := by omega
    have h1 := f2 fl
    have h2 := u1 g (by omega) hgn
    have h3 := bg_mono (R := RR tab) (xs := cp X) hfg
    have e1 : ((g + 1 : Nat) : Int) - 1 = (g : Int) := by omega
    have d1 : (begsOf tab X).getD (f : Int).toNat 0 = (bg (RR tab) (cp X) f : Int) := by
      rw [Int.toNat_natCast, List.getD_eq_getElem?_getD, begs_at tab X fl]; rfl
    have d2 : (begsOf tab X).getD (g : Int).toNat 0 = (bg (RR tab) (cp X) g : Int) := by
      rw [Int.toNat_natCast, List.getD_eq_getElem?_getD, begs_at tab X hgn]; rfl
    rw [e1, d1, d2]
    apply cp_ext
    have hS : 38 ∉ (((cp X).flatMap (RR tab)).drop a).take (bg (RR tab) (cp X) f - a) := by
      rcases Nat.eq_zero_or_pos f with q | q
      · have : a = 0 := by
          have h0 : bg (RR tab) (cp X) 0 = 0 := by unfold bg; simp
          rw [q, h0] at h1; omega
        have h0 : bg (RR tab) (cp X) f = 0 := by rw [q]; unfold bg; simp
        rw [h0]; simp
      · exact head_free hR (i := f - 1) (by omega) (f1 (f - 1) (by omega) (by omega)) (by rw [show f - 1 + 1 = f by omega]; exact Nat.le_refl _)
    have hT : 59 ∉ (((cp X).flatMap (RR tab)).drop (bg (RR tab) (cp X) g)).take (b - bg (RR tab) (cp X) g) := by
      rcases Nat.lt_or_ge g X.length with q | q
      · exact tail_free hR (by omega) (u2 (by omega))
      · have : g = X.length := by omega
        have : b - bg (RR tab) (cp X) g = 0 := by rw [this, hall]; omega
        rw [this]; simp
    have key := cp_une h (V := Txt.slice (escS tab X) (some (a : Int)) (some (b : Int))) (X := ((cp X).drop f).take (g - f)) (by rw [slice_nat _ hab' hb', hW, three h1 h3 h2, middle hfg]) hS hT
    rw [key]
    have ap : ∀ x y : Str, cp (x ++ y) = cp x ++ cp y := fun x y => (by show (x.cps ++ y.cps).toList = _; simp)
    rw [ap, ap, slice_nat _ h1 (by rw [hWl, ← hall]; exact bg_mono fl), slice_nat X hfg hgn, slice_nat _ h2 hb', hW, List.append_assoc]
end Mine

end
section
open PySem PySem.W PyProof.Rows PyProof.V
open PySem.Spec
namespace Mine
set_option pp.proofs false
local macro_rules | `(tactic| k_steps) => `(tactic| repeat' (first | (k_unfold; (try dsimp only)) | walk1 | (dsimp only; walk1) | fail "no step"))
local macro_rules | `(tactic| walk_at "execs cons") => `(tactic| ((fail_if_success (with_reducible rename (IsTab _) => hGuard)); ((k_here; (refine gentoks ?hn ?_); (case hn => first | omega | (with_unfolding_all exact Nat.lt_of_lt_of_le (Nat.succ_pos 1) (Nat.le_add_left 2 _))); intro tk htk))))
local macro_rules | `(tactic| walk_at "CompSrc") => `(tactic| ((fail_if_success (with_reducible rename (IsTab _) => hGuard)); ((k_here; (with_reducible show LCg.CompSrc _ _ _ _ _ _ _ (Expr.Subscript _ _ _) _ _ _ _ _ _); k_dflt ((refine LCg.CompSrc.ledger (by rfl) (by k_asm) (by k_asm) (by k_mem) (by kcf_size) ?_; intro g'; (refine' kct_list _ (by first | assumption | l_ints) (fun k' t' I' oI' C' oC' D' m' ys' h' tk' E' hk' hC' hx' F' N' off' ne' hMark' => ?_) ?_); (all_goals (try (simp only [LCg.Off3, and_true] at off'))); kcf_last))))))
local macro_rules | `(tactic| walk_at "exec Assign cons BinOp") => `(tactic| ((fail_if_success (with_reducible rename (IsTab _) => hGuard)); ((k_here; (fail_if_success (with_reducible show wpAny _ _ _ (fun _ s' => TokM _ _ _) _ _)); (refine any_toks ?_)))))
local macro_rules | `(tactic| walk_at "TokM") => `(tactic| ((fail_if_success (with_reducible rename (IsTab _) => hGuard)); ((refine tokm ?_; intro htok; (try dsimp only at htok); (try dsimp only)))))
local macro_rules | `(tactic| walk_at "exec Assign cons Subscript") => `(tactic| ((fail_if_success (with_reducible rename (IsTab _) => hGuard)); (((fail_if_success (with_reducible show wpAny _ _ _ (fun _ _ => _ ∧ _) _ _)); refine stop_here ?_))))
local macro_rules | `(tactic| walk_at "eval Dict") => `(tactic| ((fail_if_success (with_reducible rename (IsTab _) => hGuard)); ((k_here; (with_reducible show wpAny _ _ (eval (Expr.Dict (_ :: _) _ _) _) _ _ _); k_dflt ((refine display_tok (by k_asm) (by k_asm) (TopRead.nolimit (by k_asm)) ?ht ?hne ?_); (case ht => (dsimp only; omega)); (case hne => decide); (intro d' h' o' tk' F' N' l1 lo' hT'); (try k_lt l1))))))
local macro_rules | `(tactic| walk_at "exec Assign cons DictComp") => `(tactic| ((fail_if_success (fail_if_success (with_reducible rename (IsTab _) => hGuard))); ((refine stop_here ?_))))
local macro_rules | `(tactic| walk_at "exec Assign cons ListComp") => `(tactic| ((fail_if_success (fail_if_success (with_reducible rename (IsTab _) => hGuard))); ((refine stop_here ?_))))
local macro_rules | `(tactic| walk_at "call ref") => `(tactic| ((fail_if_success (fail_if_success (with_reducible rename (IsTab _) => hGuard))); (((with_reducible show wpAny _ _ (call (Value.ref 64) _) _ _ _); k_dflt ((refine' c_written _ _ _ _ _ _ _ _ _ _ ?m ?T ?lo ?l _ _ _ _ _ _ _ _ _ _ _ _ _ _ _ _ _ ?k1 ?k2 ?k3 ?k4 ?k5 ?kK ?kd ?ku ?_); (case k1 => k_asm); (case k2 => k_asm); (case k3 => k_asm); (case k4 => k_asm); (case k5 => k_asm); (case kK => first | exact rfl | assumption); (case kd => ktr_room); (case ku => ktr_units); (case m => (repeat (first | exact List.mem_cons_self | apply List.mem_cons_of_mem | apply List.mem_append_right))); (case T => assumption); (case lo => assumption); (case l => omega); (intro t9 h9 tk9 F9 N9); (try dsimp only); (try k_fold))))))
local macro_rules | `(tactic| walk_at "CompEnd") => `(tactic| ((fail_if_success (fail_if_success (with_reducible rename (IsTab _) => hGuard))); (((refine' LCg.CompEnd.intro ?F ?N _ ?sub ?off ?S ⟨rfl, ?_⟩); (case F => k_asm); (case N => k_asm); (case S => exact True.intro); (case off => first | assumption | (simp only [LCg.Off3, and_true]; assumption)); (case sub => kcf_all)))))
local macro_rules | `(tactic| walk_at "call ref") => `(tactic| ((fail_if_success (fail_if_success (with_reducible rename (IsTab _) => hGuard))); (((with_reducible show wpAny _ _ (call (Value.ref 30) _) _ _ _); k_dflt ((refine' c_escape _ _ _ _ _ _ _ _ _ _ ?m ?T ?lo ?hk ?hne ?l ?hx _ _ _ _ _ _ _ _ _ _ _ _ _ _ _ _ _ ?k1 ?k2 ?k3 ?k4 ?k5 ?kK ?kd ?ku ?_); (case k1 => k_asm); (case k2 => k_asm); (case k3 => k_asm); (case k4 => k_asm); (case k5 => k_asm); (case kK => first | exact rfl | assumption); (case kd => ktr_room); (case ku => ktr_units); (case m => (repeat (first | exact List.mem_cons_self | apply List.mem_cons_of_mem | apply List.mem_append_right))); (case T => assumption); (case lo => assumption); (case hk => assumption); (case hne => assumption); (case l => assumption); (case hx => omega); (intro t9 h9 tk9 F9 N9); (try dsimp only); (try k_fold))))))
local macro_rules | `(tactic| walk_at "call ref") => `(tactic| ((fail_if_success (fail_if_success (with_reducible rename (IsTab _) => hGuard))); (((with_reducible show wpAny _ _ (call (Value.ref 39) _) _ _ _); k_dflt ((refine' c_unescape _ _ _ _ _ _ _ _ _ _ ?m ?T ?lo ?hk ?hne ?l ?hx _ _ _ _ _ _ _ _ _ _ _ _ _ _ _ _ _ ?k1 ?k2 ?k3 ?k4 ?k5 ?kK ?kd ?ku ?_); (case k1 => k_asm); (case k2 => k_asm); (case k3 => k_asm); (case k4 => k_asm); (case k5 => k_asm); (case kK => first | exact rfl | assumption); (case kd => ktr_room); (case ku => ktr_units); (case m => (repeat (first | exact List.mem_cons_self | apply List.mem_cons_of_mem | apply List.mem_append_right))); (case T => assumption); (case lo => assumption); (case hk => assumption); (case hne => assumption); (case l => assumption); (case hx => omega); (intro t9 h9 tk9 F9 N9); (try dsimp only); (try k_fold))))))
local macro_rules | `(tactic| walk_at "call ref") => `(tactic| ((fail_if_success (fail_if_success (with_reducible rename (IsTab _) => hGuard))); (((with_reducible show wpAny _ _ (call (Value.ref 71) _) _ _ _); k_dflt ((refine' c_read _ _ _ _ _ _ _ _ _ _ _ _ _ _ _ _ _ ?m ?I ?l ?s ?hT ?hW ?f0 ?f1 ?r0 ?r1 _ _ _ _ _ _ _ _ _ _ _ _ _ _ _ _ _ ?k1 ?k2 ?k3 ?k4 ?k5 ?kK ?kd ?ku ?_); (case k1 => k_asm); (case k2 => k_asm); (case k3 => k_asm); (case k4 => k_asm); (case k5 => k_asm); (case kK => first | exact rfl | assumption); (case kd => ktr_room); (case ku => ktr_units); (case m => (repeat (first | exact List.mem_cons_self | apply List.mem_cons_of_mem | apply List.mem_append_right))); (case I => assumption); (case l => omega); (case s => exact begs_sorted _); (case hT => omega); (case hW => omega); (case f0 => exact below_ge _ _); (case f1 => exact below_le _ _); (case r0 => exact upto_ge _ (by omega)); (case r1 => exact upto_le _ _); (intro t9 h9 tk9 F9 N9); (try dsimp only); (try k_fold))))))
local macro_rules | `(tactic| walk_at "eval Name") => `(tactic| ((fail_if_success (fail_if_success (with_reducible rename (IsTab _) => hGuard))); ((k_here; k_dflt (refine' nameX_C ?N ?c ?m ?d ?_ ?a ?b; (case a => rfl); (case b => rfl); (case N => k_asm); (case c => rfl); (case m => (repeat (first | exact List.mem_cons_self | apply List.mem_cons_of_mem | apply List.mem_append_right))); (case d => k_asm); k_whole)))))
local macro_rules | `(tactic| walk_at "call builtin:len") => `(tactic| ((fail_if_success (fail_if_success (with_reducible rename (IsTab _) => hGuard))); (((with_reducible show wpAny _ _ (call (Value.builtin "len") [Value.str (escS _ _) _]) _ _ _); refine len_escS (by assumption) (by assumption) (by omega) ?_))))
local macro_rules | `(tactic| walk_at "eval ListComp") => `(tactic| ((fail_if_success (fail_if_success (with_reducible rename (IsTab _) => hGuard))); (((with_reducible show wpAny _ _ (eval (Expr.ListComp (Expr.Call _ _ _ _) [{ target := _, iter := Expr.Name _ _, ifs := _, is_async := _ }] _ _) _) _ _ _); refine stop_here ?_))))
local macro_rules | `(tactic| walk_at "exec Assign cons Call") => `(tactic| ((fail_if_success (fail_if_success (with_reducible rename (IsTab _) => hGuard))); (((fail_if_success (with_reducible show wpAny _ _ _ (fun _ s' => TokM _ _ _) _ _)); refine stop_here ?_))))
local macro_rules | `(tactic| walk_at "exec For Name Call cons nil") => `(tactic| ((fail_if_success (fail_if_success (with_reducible rename (IsTab _) => hGuard))); ((refine stop_here ?_))))
local macro_rules | `(tactic| walk_at "exec For Name List cons nil") => `(tactic| ((fail_if_success (fail_if_success (with_reducible rename (IsTab _) => hGuard))); ((refine stop_here ?_))))
local macro_rules | `(tactic| walk_at "exec If") => `(tactic| ((fail_if_success (fail_if_success (with_reducible rename (IsTab _) => hGuard))); ((refine stop_here ?_))))
set_option maxRecDepth 100000 in
set_option maxHeartbeats 16000000 in
theorem whole : PySem.Challenge.rw_il0137_01.Holds := hd (by
  w_on
  w_strict (
    k_go0
    (all_goals try k_fold)
    k_steps
    unfold STOP
    with_reducible rename World => w
    with_reducible rename Shared => s1
    with_reducible rename (List Int) => ns
    with_reducible refine cut_at (P3 w s1 ns) ?_ ?_
    · k_steps
      · exact True.intro
      · unfold P3
        refine' ⟨_, _, _, _, _, _, _, _, _, _, [], rfl, ?hF, ?hN, ?h1, ?h2, ?h3, ?hT, ?hlo, ?hI, ?hlt⟩
        case hF => k_asm
        case hI => exact Or.inl rfl
        case h2 => assumption
        case hT => exact TTab.ofNil (by assumption)
        case hN => (refine cb_drop (by k_asm) ?_; kcf_all)
        case h1 => assumption
        case h3 => assumption
        case hlo => assumption
        case hlt => omega
      · exact True.intro
      · unfold P3
        refine' ⟨_, _, _, _, _, _, _, _, _, _, tab1, rfl, ?hF, ?hN, ?h1, ?h2, ?h3, ?hT, ?hlo, ?hI, ?hlt⟩
        case hF => k_asm
        case hI => exact Or.inr (Or.inl rfl)
        case h2 => assumption
        case hT => assumption
        case hN => (refine cb_drop (by k_asm) ?_; kcf_all)
        case h1 => assumption
        case h3 => assumption
        case hlo => assumption
        case hlt => omega
      · exact True.intro
      · unfold P3
        refine' ⟨_, _, _, _, _, _, _, _, _, _, tab2, rfl, ?hF, ?hN, ?h1, ?h2, ?h3, ?hT, ?hlo, ?hI, ?hlt⟩
        case hF => k_asm
        case hI => exact Or.inr (Or.inr rfl)
        case h2 => assumption
        case hT => assumption
        case hN => (refine cb_drop (by k_asm) ?_; kcf_all)
        case h1 => assumption
        case h3 => assumption
        case hlo => assumption
        case hlt => omega
    · rintro s' ⟨h, tk, ta, oT, oc1, oc2, oc3, tT, tX, m0, tab, rfl, F, N, d1, d2, d3, T, lo, hT, hlt⟩
      (repeat ((with_reducible rename (CarriedAll _ _) => hcOld); clear hcOld))
      dsimp only
      have hok := tab_ok hT
      have htk := turned_ok hT
      obtain ⟨hk1, hk2, hk3, hk4⟩ := id hok
      obtain ⟨hu1, hu2, hu3⟩ := id htk
      obtain ⟨kvv, hdd, -⟩ := T.dict (prog := PySem.Challenge.rw_il0137_01.row.prog)
      k_steps
      unfold STOP
      k_dflt (refine turn_comp (h₀ := s1.heap) (L := s1.heap.objs.size) (m := fun y => if y = Str.ofString "total" then some (.int (totOf ns) tT) else m0 y) (by rfl) (by with_unfolding_all rfl) (by with_unfolding_all rfl) (by decide) (by rfl) (by decide) (by rfl) (by rfl) (by decide) (by decide) (by decide) (by rfl) (by rfl) ?_)
      with_unfolding_all refine MethodCall_ ?_
      walk1
      refine kdl_method (knd := PySem.strKind _ _) PySem.F.slot_dict_items PySem.F.type_dict_items N (by simp) hdd ?_
      refine callWith_method0 ?_
      refine kta_callItems (knd := PySem.strKind _ _) F N (by simp) hdd lo ?_
      intro h2 hv2 F2 N2
      refine ⟨_, ta, oT, tab, _, rfl, by rfl, F2, N2, hv2, by simp, T, hok.2.2.2, by omega, Top.nolimit (by assumption), ?_⟩
      intro ua oU h3 tk3 F3 N3 l3 loU TU
      k_lt l3
      clear F N F2 N2 hv2
      dsimp only
      k_steps
      unfold STOP
      have hX := textOf_len ns
      k_dflt (refine wpAny_Assign_Name ?_)
      k_dflt (refine ListComp_S (F₀ := F3) (by with_unfolding_all rfl) (by decide) (by rfl) (by decide) (by rfl) ?_)
      walk1
      refine SrcS.intro (by rfl) F3 N3 (by have e : (textOf ns).cps.size = (textOf ns).length := rfl; rw [e, sizeLine_eq]; omega) ?_
      intro g4
      refine comp_rest (xs := signs1 (textOf ns)) (fun a v => ∃ t, v = Value.str a t) (fun a v => ∃ t, v = Value.int ((refOf (base3 ++ tab) a).length : Int) t) (signs1_length _) (fun i v hi hv => sign_in hv) ?_ ?_
      · rintro a v I' oI' C' oC' D' m' ys' h' tk' E' ha' ⟨t0, rfl⟩ hC' hx' F' N' off' ne'
        (try simp only [LCg.Off3, and_true] at off')
        have hrl := refOf_len hT (signs1_one ha')
        k_steps
      · intro ys4 hys4
        have hW : IntsAre ys4 (widthsOf tab (textOf ns)) := ints_of hys4
        have hWl := hW.length
        have hWn : (widthsOf tab (textOf ns)).length = (textOf ns).length := by unfold widthsOf; rw [List.length_map, signs1_length]; rfl
        clear hys4
        k_steps
        unfold STOP
        k_dflt (refine LCg.Assign_ListComp_U (F₀ := by k_asm) (by rfl) (by with_unfolding_all rfl) (by with_unfolding_all rfl) (by decide) (by rfl) (by decide) (by rfl) (by rfl) (by rfl) ?_)
        k_steps
        unfold STOP
        have hBe : ∀ N : Nat, List.map (fun k' : Int => if (List.take k'.toNat (widthsOf tab (textOf ns))).length = min k'.toNat (widthsOf tab (textOf ns)).length ∧ (List.take k'.toNat (widthsOf tab (textOf ns))).length ≤ (widthsOf tab (textOf ns)).length then (List.take k'.toNat (widthsOf tab (textOf ns))).sum else k') (rangeKs 0 N) = (List.range N).map fun i => ((widthsOf tab (textOf ns)).take i).sum := by
          intro N
          unfold rangeKs
          rw [List.map_map]
          refine List.map_congr_left fun i _ => ?_
          simp only [Function.comp_apply]
          rw [if_pos ⟨List.length_take, by rw [List.length_take]; omega⟩]
          congr 2
          omega
        with_reducible rename (IntsAre _ (List.map _ (rangeKs _ _))) => hB0
        rw [hBe] at hB0
        have hN : (((textOf ns).length : Int) + 1 - 0).toNat = (textOf ns).length + 1 := by omega
        rw [hN] at hB0
        have hB := hB0
        change IntsAre _ (begsOf tab (textOf ns)) at hB
        clear hB0 hBe
        have hBn : (begsOf tab (textOf ns)).length = (textOf ns).length + 1 := by unfold begsOf; simp
        have hBl := hB.length
        with_reducible rename (List.length _ = List.length (List.map _ (rangeKs _ _))) => hq
        clear hq
        k_dflt (refine wpAny_Assign_Name ?_)
        k_steps
        unfold STOP
        k_dflt (refine wpAny_If ?_)
        k_steps
        rotate_left
        · (with_reducible rename (¬ List.map _ _ = _) => hne)
          exact absurd (lens_eq hT (textOf ns)) hne
        unfold STOP
        k_dflt (refine wpAny_If ?_)
        k_steps
        unfold STOP
        k_dflt (refine ListComp_S (F₀ := by k_asm) (by with_unfolding_all rfl) (by decide) (by rfl) (by decide) (by rfl) ?_)
        walk1
        refine SrcS.intro (by rfl) (by k_asm) (by k_asm) (by have e : (textOf ns).cps.size = (textOf ns).length := rfl; rw [e, sizeLine_eq]; omega) ?_
        intro g4
        refine comp_rest (xs := signs1 (textOf ns)) (fun a v => ∃ t, v = Value.str a t) (fun a v => ∃ t, v = Value.str (refOf (base3 ++ tab) a) t) (signs1_length _) (fun i v hi hv => sign_in hv) ?_ ?_
        · rintro a v I' oI' C' oC' D' m' ys' h' tk' E' ha' ⟨t0, rfl⟩ hC' hx' F' N' off' ne'
          (try simp only [LCg.Off3, and_true] at off')
          have hrl := refOf_len hT (signs1_one ha')
          k_steps
        intro ys5 hys5
        have hR := strs_of hys5
        clear hys5
        k_steps
        have hRc : CarriedAll ys5 ((signs1 (textOf ns)).map fun a => PyData.str (refOf (base3 ++ tab) a)) := by
          have := hR.carried
          rw [List.map_map] at this
          exact this
        have hSl : (signs1 (textOf ns)).length = (textOf ns).length := signs1_length _
        refine KT.join_B (g := refOf (base3 ++ tab)) (l := signs1 (textOf ns)) 10 (News.isList (by k_asm) (.head _)) hRc (fun a ha => by have := refOf_len hT (signs1_one ha); omega) (by omega) (by decide) ?_
        intro t' k'
        k_steps
        · (with_reducible rename ((_ != _) = true) => hne)
          exact absurd (written_eq hT (textOf ns)) (by simpa using hne)
        unfold STOP
        k_dflt (with_unfolding_all refine' For_turns (by k_asm) ?_; k_whole)
        k_steps
        have hE78 := escS_78 hT hX
        k_dflt (refine' range_iter4 (n := (escS tab (textOf ns)).length + 1) (Str.ofString "written") (Str.ofString "beginnings") (Str.ofString "turned") (Str.ofString "total") (by rfl) (by rfl) (by rfl) (by k_asm) (by k_asm) (by assumption) ?ksm ?ksz rfl rfl rfl rfl ?kst ?kfin)
        case ksm => exact small_one (by omega) (by omega) (by omega) (by omega)
        case ksz => (rw [rangeSize_nat]; omega)
        · intro i tA hA tkA mA wrA ownA hiA hwrA FA NA
          dsimp only [map4] at FA
          k_steps
          unfold STOP
          k_dflt (with_unfolding_all refine' For_turns (by k_asm) ?_; k_whole)
          k_steps
          k_dflt (refine' ints_iter5 (Str.ofString "a") (Str.ofString "written") (Str.ofString "beginnings") (Str.ofString "turned") (Str.ofString "total") (by rfl) (by rfl) (by rfl) (by k_asm) (by k_asm) List.mem_cons_self (IntsAre.cons _ _ (IntsAre.cons _ _ .nil)) rfl rfl rfl rfl rfl ?kst2 ?kfin2)
          · intro j b tB hB' tkB mB wrB ownB hj hwrB FB NB
            dsimp only [map5] at FB
            clear hwrA
            have hb : (i : Int) ≤ b ∧ b ≤ ((escS tab (textOf ns)).length : Int) := by
              have hm : 0 ≤ (Int.fdiv (totOf ns) 3).fmod 9 := Int.fmod_nonneg_of_pos _ (by decide)
              rcases j with _ | _ | j
              · have e := Option.some.inj hj
                rw [← e]
                split <;> omega
              · have e : ((escS tab (textOf ns)).length : Int) = b := Option.some.inj hj
                omega
              · exact absurd hj (by simp)
            obtain ⟨hb1, hb2⟩ := hb
            k_steps
            unfold STOP
            k_dflt (refine wpAny_If ?_)
            k_steps
            · (with_reducible rename ((_ != _) = true) => hne)
              exact absurd (window_eq hT (textOf ns) (by omega) hb1 hb2) (by simpa using hne)
            · exact LoopStepU.intro (by k_asm) (by k_asm) hwrB ⟨rfl, _, m_split5 rfl rfl rfl rfl rfl⟩
          · intro hB' tkB mB FB NB
            (try dsimp only [map5] at FB)
            k_steps
            exact LoopStepU.intro (by k_asm) (cb_drop (by k_asm) fun p hp => List.mem_cons_of_mem _ hp) hwrA ⟨rfl, _, m_split4 rfl rfl rfl rfl⟩
        · intro hA tkA mA FA NA
          k_steps
          wrow_close))
end Mine
end

theorem PySem.Challenge.cw_il0137_01_holds : PySem.Challenge.rw_il0137_01.Holds :=
  Mine.whole
